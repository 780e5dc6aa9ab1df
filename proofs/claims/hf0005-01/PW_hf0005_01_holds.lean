import PyProof.Rows.All
import Wide.All
import OpenK.AllK
import Wide.FinOn
import Lean
import PySem.Challenge.RW_hf0005_01
open PySem PySem.W PyProof.Rows
set_option Elab.async false
set_option maxRecDepth 100000
set_option rowWalk.seconds 0

set_option maxHeartbeats 8000000
namespace Mine
open_top hd for PySem.Challenge.rw_hf0005_01
end Mine

namespace Mine
abbrev Led := List (Addr × Obj)
abbrev PP : Program := PySem.Challenge.rw_hf0005_01.row.prog

/-- what a call of the def at f does, whoever calls it -/
def Clm (w : World) (p : Program) (loose : List Str) (mean : ExcName → Option Value) (mg mb : Str → Option Value) (f : Addr) (d u : Nat) (nw : Led) (args : List Value)
    (Ret : Heap → Addr → (Str → Option Value) → Shared → (Value → Shared → Prop) → Prop) : Prop :=
  ∀ (dp un : Nat) (gd : Option (List Code)) (cn : Str) (cs : Scope) (a : Addr) (ccd : Value) (cl : List (Str × Addr)) (outer : List Env) (A₀ : Around) (base h₀ : Heap) (L : Addr) (m : Str → Option Value) (s : Shared) (Q E : Value → Shared → Prop),
    Below A₀ base outer h₀ → Fr h₀ L s.heap m → (hd.heap_39 w.params).In h₀ → News h₀ L s.heap nw → Top p loose mean mg mb h₀ → cs.kind = .function → dp + d < recursionLimit → un + u < cLine →
      Ret h₀ L m s Q → wpAny (model PP w) (ktrTop dp un gd cn cs L a ccd cl outer) (call (.ref f) args) Q E s

theorem Clm.go {w : World} {p : Program} {loose : List Str} {mean : ExcName → Option Value} {mg mb : Str → Option Value} {f : Addr} {d u : Nat} {nw : Led} {args : List Value} {Ret : Heap → Addr → (Str → Option Value) → Shared → (Value → Shared → Prop) → Prop}
    {dp un : Nat} {gd : Option (List Code)} {cn : Str} {cs : Scope} {a : Addr} {ccd : Value} {cl : List (Str × Addr)} {outer : List Env} {A₀ : Around} {base h₀ : Heap} {L : Addr} {m : Str → Option Value} {s : Shared} {Q E : Value → Shared → Prop}
    (C : Clm w p loose mean mg mb f d u nw args Ret) (B : Below A₀ base outer h₀) (F : Fr h₀ L s.heap m) (X : (hd.heap_39 w.params).In h₀) (N : News h₀ L s.heap nw) (T : Top p loose mean mg mb h₀) (hk : cs.kind = .function)
    (hd : dp + d < recursionLimit) (hu : un + u < cLine) (hr : Ret h₀ L m s Q) : wpAny (model PP w) (ktrTop dp un gd cn cs L a ccd cl outer) (call (.ref f) args) Q E s := C _ _ _ _ _ _ _ _ _ _ _ _ _ _ _ _ _ B F X N T hk hd hu hr

theorem Clm.use {w : World} {p : Program} {loose : List Str} {mean : ExcName → Option Value} {mg mb : Str → Option Value} {f : Addr} {d u : Nat} {nw : Led} {args : List Value} {Ret : Heap → Addr → (Str → Option Value) → Shared → (Value → Shared → Prop) → Prop}
    {dp un : Nat} {gd : Option (List Code)} {cn : Str} {cs : Scope} {a : Addr} {ccd : Value} {cl : List (Str × Addr)} {outer : List Env} {A₀ : Around} {base h₀ : Heap} {L : Addr} {m : Str → Option Value} {s : Shared} {Q E : Value → Shared → Prop}
    (B : Below A₀ base outer h₀) (F : Fr h₀ L s.heap m) (X : (hd.heap_39 w.params).In h₀) (N : News h₀ L s.heap nw) (T : Top p loose mean mg mb h₀) (hk : cs.kind = .function)
    (C : Clm w p loose mean mg mb f d u nw args Ret) (hd : dp + d < recursionLimit) (hu : un + u < cLine) (hr : Ret h₀ L m s Q) : wpAny (model PP w) (ktrTop dp un gd cn cs L a ccd cl outer) (call (.ref f) args) Q E s := C _ _ _ _ _ _ _ _ _ _ _ _ _ _ _ _ _ B F X N T hk hd hu hr

/-- an equation that no tactic opens by itself -/
def Is {α : Type} (a b : α) : Prop := a = b
theorem Is.eq {α : Type} {a b : α} (h : Is a b) : a = b := h
/-- it hands back an int, and leaves the ledger as it was -/
def RetInt (nw : Led) (v : Int) (h₀ : Heap) (L : Addr) (m : Str → Option Value) (s : Shared) (Q : Value → Shared → Prop) : Prop :=
  ∀ (y : Int) (t : Tok) (h' : Heap) (tk' : Nat), Is y v → Fr h₀ L h' m → News h₀ L h' nw → Q (.int y t) { s with heap := h', toks := tk' }
def RetBool (nw : Led) (v : Bool) (h₀ : Heap) (L : Addr) (m : Str → Option Value) (s : Shared) (Q : Value → Shared → Prop) : Prop :=
  ∀ (y : Bool) (h' : Heap) (tk' : Nat), Is y v → Fr h₀ L h' m → News h₀ L h' nw → Q (.bool y) { s with heap := h', toks := tk' }
/-- it hands back a new list of ints -/
def RetList (nw : Led) (v : List Int) (h₀ : Heap) (L : Addr) (m : Str → Option Value) (s : Shared) (Q : Value → Shared → Prop) : Prop :=
  ∀ (r : Addr) (y : List Int) (vs : List Value) (n : Nat) (h' : Heap) (tk' : Nat), Is y v → IntsAre vs y → Fr h₀ L h' m → News h₀ L h' ((r, listOf vs.toArray n) :: nw) → (∀ p ∈ nw, p.1 < r) → Q (.ref r) { s with heap := h', toks := tk' }

theorem retInt_end {h₀ : Heap} {L : Addr} {m : Str → Option Value} {nw : Led} {s : Shared} {Q : Value → Shared → Prop} {x y : Int} {t : Tok} {h' : Heap} {tk' : Nat}
    (hret : RetInt nw x h₀ L m s Q) (e : y = x) (F : Fr h₀ L h' m) (N : News h₀ L h' nw) : Q (.int y t) { s with heap := h', toks := tk' } := hret y t h' tk' e F N
theorem retBool_end {h₀ : Heap} {L : Addr} {m : Str → Option Value} {nw : Led} {s : Shared} {Q : Value → Shared → Prop} {x y : Bool} {h' : Heap} {tk' : Nat}
    (hret : RetBool nw x h₀ L m s Q) (e : y = x) (F : Fr h₀ L h' m) (N : News h₀ L h' nw) : Q (.bool y) { s with heap := h', toks := tk' } := hret y h' tk' e F N
theorem retList_end {h₀ : Heap} {L : Addr} {m : Str → Option Value} {nw : Led} {s : Shared} {Q : Value → Shared → Prop} {x y : List Int} {r : Addr} {vs : List Value} {n : Nat} {h' : Heap} {tk' : Nat}
    (hret : RetList nw x h₀ L m s Q) (F : Fr h₀ L h' m) (N : News h₀ L h' ((r, listOf vs.toArray n) :: nw)) (hi : IntsAre vs y) (e : y = x) (hr : ∀ p ∈ nw, p.1 < r) : Q (.ref r) { s with heap := h', toks := tk' } := hret r y vs n h' tk' e hi F N hr

/-- bisect_left's loop -/
def bisGo (xs : List Int) (x : Int) : Nat → Nat → Nat → Nat
  | 0, lo, _ => lo
  | f + 1, lo, hi => if lo < hi then (if xs.getD ((lo + hi) / 2) 0 < x then bisGo xs x f ((lo + hi) / 2 + 1) hi else bisGo xs x f lo ((lo + hi) / 2)) else lo
def bis (xs : List Int) (x : Int) : Nat := bisGo xs x xs.length 0 xs.length

theorem bisGo_done (xs : List Int) (x : Int) {lo hi : Nat} (h : ¬ lo < hi) : ∀ f, bisGo xs x f lo hi = lo
  | 0 => rfl
  | f + 1 => by simp only [bisGo, if_neg h]
theorem bisGo_fuel (xs : List Int) (x : Int) : ∀ (f g lo hi : Nat), hi - lo ≤ f → hi - lo ≤ g → bisGo xs x f lo hi = bisGo xs x g lo hi := by
  intro f
  induction f with
  | zero =>
    intro g lo hi h1 _
    rw [bisGo_done xs x (by omega), bisGo_done xs x (by omega)]
  | succ f ih =>
    intro g lo hi h1 h2
    cases g with
    | zero => rw [bisGo_done xs x (by omega), bisGo_done xs x (by omega)]
    | succ g =>
      simp only [bisGo]
      split
      · split
        · exact ih _ _ _ (by omega) (by omega)
        · exact ih _ _ _ (by omega) (by omega)
      · rfl

theorem bisGo_le (xs : List Int) (x : Int) : ∀ (f lo hi : Nat), lo ≤ hi → bisGo xs x f lo hi ≤ hi := by
  intro f
  induction f with
  | zero => intro lo hi h; exact h
  | succ f ih =>
    intro lo hi h
    simp only [bisGo]
    split
    · split
      · exact ih _ _ (by omega)
      · exact Nat.le_trans (ih _ _ (by omega)) (by omega)
    · exact h
theorem bis_le (xs : List Int) (x : Int) : bis xs x ≤ xs.length := bisGo_le xs x _ _ _ (Nat.zero_le _)

/-- what holds at each turn of the loop -/
def BisP (xs : List Int) (x lo hi : Int) : Prop := 0 ≤ lo ∧ lo ≤ hi ∧ hi ≤ (xs.length : Int) ∧ bisGo xs x (hi - lo).toNat lo.toNat hi.toNat = bis xs x
theorem BisP.lo {xs : List Int} {x lo hi : Int} (h : BisP xs x lo hi) : 0 ≤ lo := h.1
theorem BisP.le {xs : List Int} {x lo hi : Int} (h : BisP xs x lo hi) : lo ≤ hi := h.2.1
theorem BisP.hi {xs : List Int} {x lo hi : Int} (h : BisP xs x lo hi) : hi ≤ (xs.length : Int) := h.2.2.1
theorem BisP.start (xs : List Int) (x : Int) : BisP xs x 0 (xs.length : Nat) := ⟨by omega, by omega, by omega, by
  show bisGo xs x ((xs.length : Int) - 0).toNat (0 : Int).toNat ((xs.length : Nat) : Int).toNat = _
  rw [bis]
  exact bisGo_fuel xs x _ _ _ _ (by simp) (by simp)⟩
theorem BisP.mid {xs : List Int} {x lo hi : Int} (h : BisP xs x lo hi) (hlt : lo < hi) : 0 ≤ Int.fdiv (lo + hi) 2 ∧ Int.fdiv (lo + hi) 2 < (xs.length : Int) ∧ lo ≤ Int.fdiv (lo + hi) 2 ∧ Int.fdiv (lo + hi) 2 < hi := by
  have h1 := h.lo
  have h2 := h.hi
  rw [Int.fdiv_eq_ediv_of_nonneg _ (by omega)]
  omega
theorem BisP.stop {xs : List Int} {x lo hi : Int} (h : BisP xs x lo hi) (hlt : ¬ lo < hi) : lo = (bis xs x : Nat) := by
  have h1 := h.lo
  have h4 := h.2.2.2
  rw [bisGo_done xs x (by omega)] at h4
  omega
theorem BisP.right {xs : List Int} {x lo hi : Int} (h : BisP xs x lo hi) (hlt : lo < hi) (hx : xs.getD (Int.fdiv (lo + hi) 2).toNat 0 < x) : BisP xs x (Int.fdiv (lo + hi) 2 + 1) hi := by
  have h1 := h.lo
  have h2 := h.hi
  have hm := h.mid hlt
  have h4 := h.2.2.2
  rw [Int.fdiv_eq_ediv_of_nonneg _ (by omega)] at hx hm ⊢
  refine ⟨by omega, by omega, by omega, ?_⟩
  rw [← h4]
  have e : ((lo + hi) / 2).toNat = (lo.toNat + hi.toNat) / 2 := by omega
  have e1 : ((lo + hi) / 2 + 1).toNat = (lo.toNat + hi.toNat) / 2 + 1 := by omega
  rw [e] at hx
  obtain ⟨f, hf⟩ : ∃ f, (hi - lo).toNat = f + 1 := ⟨(hi - lo).toNat - 1, by omega⟩
  rw [hf]
  conv => rhs; rw [bisGo]
  rw [if_pos (by omega), if_pos hx, e1]
  exact bisGo_fuel xs x _ _ _ _ (by omega) (by omega)
theorem BisP.left {xs : List Int} {x lo hi : Int} (h : BisP xs x lo hi) (hlt : lo < hi) (hx : ¬ xs.getD (Int.fdiv (lo + hi) 2).toNat 0 < x) : BisP xs x lo (Int.fdiv (lo + hi) 2) := by
  have h1 := h.lo
  have h2 := h.hi
  have hm := h.mid hlt
  have h4 := h.2.2.2
  rw [Int.fdiv_eq_ediv_of_nonneg _ (by omega)] at hx hm ⊢
  refine ⟨by omega, by omega, by omega, ?_⟩
  rw [← h4]
  have e : ((lo + hi) / 2).toNat = (lo.toNat + hi.toNat) / 2 := by omega
  rw [e] at hx
  obtain ⟨f, hf⟩ : ∃ f, (hi - lo).toNat = f + 1 := ⟨(hi - lo).toNat - 1, by omega⟩
  rw [hf]
  conv => rhs; rw [bisGo]
  rw [if_pos (by omega), if_neg hx, e]
  exact bisGo_fuel xs x _ _ _ _ (by omega) (by omega)

/-- _law_has -/
def hasF (xs : List Int) (x : Int) : Bool := decide (bis xs x < xs.length) && decide (xs.getD (bis xs x) 0 = x)
theorem hasF_in {ns : List Int} {x y : Int} (hy : Is y (bis ns x : Nat)) (h : y < (ns.length : Nat)) : (ns.getD y.toNat 0 == x) = hasF ns x := by
  have hy := hy.eq
  have h' : bis ns x < ns.length := by omega
  unfold hasF
  rw [hy, Int.toNat_natCast, decide_eq_true h', Bool.true_and]
  rfl
theorem hasF_out {ns : List Int} {x y : Int} (hy : Is y (bis ns x : Nat)) (h : ¬ y < (ns.length : Nat)) : decide (y < (ns.length : Nat)) = hasF ns x := by
  have hy := hy.eq
  have h' : ¬ bis ns x < ns.length := by omega
  unfold hasF
  rw [decide_eq_false h', Bool.false_and, decide_eq_false h]
/-- the number with the child's figure turned -/
abbrev turnF (way c : Int) : Int := way + 2 ^ c.toNat * (1 - 2 * Int.fmod (Int.fdiv way (2 ^ c.toNat)) 2)
def knowAcc (xs : List Int) (way : Int) (pre : List Int) : List Int := pre.foldl (fun acc c => if hasF xs (turnF way c) then acc else acc ++ [c]) []
/-- _law_know -/
def knowF (xs : List Int) (way many : Int) : List Int := knowAcc xs way (rangeKs 0 many.toNat)
theorem knowAcc_skip {ns : List Int} {x k : Int} {pre found : List Int} {y : Bool} (e : Is y (hasF ns (turnF x k))) (hy : y = true) (h : found = knowAcc ns x pre) (hl : found.length ≤ pre.length) :
    found = knowAcc ns x (pre ++ [k]) ∧ found.length ≤ (pre ++ [k]).length := by
  have e := e.eq
  rw [hy] at e
  refine ⟨?_, by rw [List.length_append]; omega⟩
  unfold knowAcc at h ⊢
  rw [List.foldl_append, ← h]
  simp only [List.foldl_cons, List.foldl_nil, ← e, if_true]
theorem knowAcc_take {ns : List Int} {x k : Int} {pre found : List Int} {y : Bool} (e : Is y (hasF ns (turnF x k))) (hy : y = false) (h : found = knowAcc ns x pre) (hl : found.length ≤ pre.length) :
    found ++ [k] = knowAcc ns x (pre ++ [k]) ∧ (found ++ [k]).length ≤ (pre ++ [k]).length := by
  have e := e.eq
  rw [hy] at e
  refine ⟨?_, by rw [List.length_append, List.length_append]; simpa using hl⟩
  unfold knowAcc at h ⊢
  rw [List.foldl_append, ← h]
  simp only [List.foldl_cons, List.foldl_nil, ← e, Bool.false_eq_true, if_false]
theorem knowAcc_nil (ns : List Int) (x : Int) : [] = knowAcc ns x [] ∧ ([] : List Int).length ≤ ([] : List Int).length := ⟨rfl, Nat.le_refl _⟩

/-- a turn's end, where one list at the ledger's head is grown -/
theorem kst_end1 {h₀ : Heap} {L l : Addr} {nw own : Led} {x : Str} {stored : List Str} {m₀ m' : Str → Option Value} {P : List Int → List Value × List Int × Nat → Prop} {pre : List Int} {o₀ : Obj} {s₁ : Shared} {h' : Heap} {tk : Nat} {vs : List Value} {ls : List Int} {n : Nat}
    (F : Fr h₀ L h' m') (N : News h₀ L h' ((l, listOf vs.toArray n) :: (nw ++ own))) (hi : IntsAre vs ls) (hr : ∀ z, z ≠ x → stored.contains z = false → m' z = m₀ z) (hp : P pre (vs, ls, n)) :
    InvEndN h₀ L (KstS (fun c : List Value × List Int × Nat => (l, listOf c.fst.toArray c.snd.snd) :: nw) (fun _ => []) (fun c => IntsAre c.fst c.snd.fst) x stored m₀ P pre) own (List.map (fun x => x.fst) ((l, o₀) :: nw)) s₁ { s₁ with heap := h', toks := tk } :=
  kst_end (σ := List Value × List Int × Nat) (vs, ls, n) F N
    (fun p hp => by
      rcases List.mem_cons.mp hp with rfl | hp
      · exact List.mem_cons_self
      · exact List.mem_cons_of_mem _ (List.mem_append.mpr (.inl hp)))
    (fun p hp => List.mem_cons_of_mem _ (List.mem_append.mpr (.inr hp))) rfl hi (fun p hp => nomatch hp) (fun z h1 _ h3 => hr z h1 h3) hp
theorem kst_same1 {t c : Str} {v1 v2 : Option Value} {u rest : Str → Option Value} : ∀ z : Str, z ≠ c → [t].contains z = false → (if z = t then v1 else if z = c then v2 else if [t].contains z = true then u z else rest z) = rest z := by
  intro z h1 h3
  have h4 : z ≠ t := by
    intro e
    rw [e] at h3
    simp at h3
  rw [if_neg h4, if_neg h1, h3]
  rfl
theorem kst_same0 {c : Str} {v2 : Option Value} {u rest : Str → Option Value} {l : List Str} : ∀ z : Str, z ≠ c → l.contains z = false → (if z = c then v2 else if l.contains z = true then u z else rest z) = rest z := by
  intro z h1 h3
  rw [if_neg h1, h3]
  rfl

/-- insort_left -/
def insF (xs : List Int) (x : Int) : List Int := xs.take (bis xs x) ++ x :: xs.drop (bis xs x)
theorem insF_length (xs : List Int) (x : Int) : (insF xs x).length = xs.length + 1 := by
  have h := bis_le xs x
  unfold insF
  rw [List.length_append, List.length_cons, List.length_take, List.length_drop]
  omega
theorem intsAre_take {vs : List Value} {ns : List Int} (h : IntsAre vs ns) : ∀ k, IntsAre (vs.take k) (ns.take k) := by
  induction h with
  | nil => intro k; simpa using IntsAre.nil
  | cons i t _ ih =>
    intro k
    cases k with
    | zero => exact .nil
    | succ k => exact .cons i t (ih k)
theorem intsAre_drop {vs : List Value} {ns : List Int} (h : IntsAre vs ns) : ∀ k, IntsAre (vs.drop k) (ns.drop k) := by
  induction h with
  | nil => intro k; simpa using IntsAre.nil
  | cons i t hr ih =>
    intro k
    cases k with
    | zero => exact .cons i t hr
    | succ k => exact ih k
theorem ins_ints {vs : List Value} {ns : List Int} {x y : Int} {tx : Tok} (h : IntsAre vs ns) (hy : Is y (bis ns x : Nat)) : IntsAre (kl_ins vs y (.int x tx)) (insF ns x) := by
  have hy := hy.eq
  have hl := bis_le ns x
  have e : (if y < 0 then (y + (vs.length : Int)).toNat else min y.toNat vs.length) = bis ns x := by
    rw [hy, if_neg (by omega), Int.toNat_natCast, h.length]
    omega
  unfold kl_ins insF
  rw [e]
  exact (intsAre_take h _).append (.cons x tx (intsAre_drop h _))
/-- it changes the list at the ledger's head, and hands back None -/
def RetIns (l : Addr) (nw : Led) (v : List Int) (h₀ : Heap) (L : Addr) (m : Str → Option Value) (s : Shared) (Q : Value → Shared → Prop) : Prop :=
  ∀ (y : List Int) (vs : List Value) (n : Nat) (h' : Heap) (tk' : Nat), Is y v → IntsAre vs y → Fr h₀ L h' m → News h₀ L h' ((l, listOf vs.toArray n) :: nw) → Q .none { s with heap := h', toks := tk' }
theorem retIns_end {h₀ : Heap} {L : Addr} {m : Str → Option Value} {nw : Led} {s : Shared} {Q : Value → Shared → Prop} {x y : List Int} {r : Addr} {vs : List Value} {n : Nat} {h' : Heap} {tk' : Nat}
    (hret : RetIns r nw x h₀ L m s Q) (F : Fr h₀ L h' m) (N : News h₀ L h' ((r, listOf vs.toArray n) :: nw)) (hi : IntsAre vs y) (e : y = x) : Q .none { s with heap := h', toks := tk' } := hret y vs n h' tk' e hi F N

def leftAcc (xs : List Int) (many : Int) (kn : List Int) (pre : List Int) : List Int := pre.foldl (fun acc o => if knowF xs o many = kn then insF acc o else acc) []
/-- _law_asked: the answers and the order after so many times -/
def askedN (xs : List Int) (way many : Int) : Nat → List (List Int) × List Int
  | 0 => ([], xs)
  | i + 1 => ((askedN xs way many i).1 ++ [knowF (askedN xs way many i).2 way many], leftAcc (askedN xs way many i).2 many (knowF (askedN xs way many i).2 way many) (askedN xs way many i).2)

theorem leftAcc_nil (xs : List Int) (many : Int) (kn : List Int) : [] = leftAcc xs many kn [] ∧ ([] : List Int).length ≤ ([] : List Int).length := ⟨rfl, Nat.le_refl _⟩
theorem leftAcc_skip {xs kn pre left k2 : List Int} {many o : Int} (e : Is k2 (knowF xs o many)) (hy : ¬ k2 = kn) (h : left = leftAcc xs many kn pre) (hl : left.length ≤ pre.length) :
    left = leftAcc xs many kn (pre ++ [o]) ∧ left.length ≤ (pre ++ [o]).length := by
  have e := e.eq
  rw [e] at hy
  refine ⟨?_, by rw [List.length_append]; omega⟩
  unfold leftAcc at h ⊢
  rw [List.foldl_append, ← h]
  simp only [List.foldl_cons, List.foldl_nil, if_neg hy]
theorem leftAcc_take {xs kn pre left k2 new : List Int} {many o : Int} (e : Is k2 (knowF xs o many)) (hy : k2 = kn) (h : left = leftAcc xs many kn pre) (hl : left.length ≤ pre.length) (hn : Is new (insF left o)) :
    new = leftAcc xs many kn (pre ++ [o]) ∧ new.length ≤ (pre ++ [o]).length := by
  have e := e.eq
  have hn := hn.eq
  rw [e] at hy
  refine ⟨?_, by rw [hn, insF_length, List.length_append]; simpa using hl⟩
  rw [hn]
  unfold leftAcc at h ⊢
  rw [List.foldl_append, ← h]
  simp only [List.foldl_cons, List.foldl_nil, if_pos hy]

/-- a list of references to lists of ints, borne by the ledger -/
inductive LL (led : Led) : List Value → List (List Int) → Prop
  | nil : LL led [] []
  | cons {r : Addr} {us : List Value} {n : Nat} {xs : List Int} {vs : List Value} {xss : List (List Int)} : (r, listOf us.toArray n) ∈ led → IntsAre us xs → LL led vs xss → LL led (.ref r :: vs) (xs :: xss)
theorem LL.mono {led led' : Led} {vs : List Value} {xss : List (List Int)} (h : LL led vs xss) (hs : ∀ p ∈ led, p ∈ led') : LL led' vs xss := by
  induction h with
  | nil => exact .nil
  | cons hm hi _ ih => exact .cons (hs _ hm) hi ih
theorem LL.append {led : Led} {vs ws : List Value} {xss yss : List (List Int)} (h : LL led vs xss) (h2 : LL led ws yss) : LL led (vs ++ ws) (xss ++ yss) := by
  induction h with
  | nil => exact h2
  | cons hm hi _ ih => exact .cons hm hi ih
theorem LL.length {led : Led} {vs : List Value} {xss : List (List Int)} (h : LL led vs xss) : vs.length = xss.length := by
  induction h with
  | nil => rfl
  | cons _ _ _ ih => simp [ih]

/-- what the outer loop of _law_asked turns -/
structure AskS where
  O : Addr
  ovs : List Value
  os : List Int
  on : Nat
  refs : List Value
  xss : List (List Int)
  an : Nat
  kl : Led
abbrev tupOf (vs : List Value) : Obj := { cls := .type "tuple", data := .seq vs.toArray }
def RetAsked (nw : Led) (v : List (List Int) × List Int) (h₀ : Heap) (L : Addr) (m : Str → Option Value) (s : Shared) (Q : Value → Shared → Prop) : Prop :=
  ∀ (T A : Addr) (c : AskS) (h' : Heap) (tk' : Nat), Is c.xss v.1 → Is c.os v.2 → LL c.kl c.refs c.xss → IntsAre c.ovs c.os → (c.O, listOf c.ovs.toArray c.on) ∈ c.kl ++ nw → (∀ p ∈ nw, p.1 < A) → (∀ p ∈ c.kl, A < p.1) → A < T → Fr h₀ L h' m →
    News h₀ L h' ((T, tupOf [.ref A, .ref c.O]) :: (A, listOf c.refs.toArray c.an) :: (c.kl ++ nw)) → Q (.ref T) { s with heap := h', toks := tk' }

theorem mem_as1 {α : Type} {a : α} {k n o : List α} (h : a ∈ k ++ n) : a ∈ k ++ (n ++ o) := by
  rcases List.mem_append.mp h with h | h
  · exact List.mem_append.mpr (.inl h)
  · exact List.mem_append.mpr (.inr (List.mem_append.mpr (.inl h)))
end Mine

set_option maxHeartbeats 8000000
namespace Mine
local macro_rules | `(tactic| news_mem) => `(tactic| assumption)
local macro_rules | `(tactic| k_mem) => `(tactic| assumption)

theorem bis_spec {w : World} {p : Program} {loose : List Str} {mean : ExcName → Option Value} {mg mb : Str → Option Value} {nw : Led} {l : Addr} {vs : List Value} {ns : List Int} {nn : Nat} {x : Int} {tx : Tok}
    (hm : (l, listOf vs.toArray nn) ∈ nw) (hi : IntsAre vs ns) (hfit : ns.length < 2 ^ 62) :
    Clm w p loose mean mg mb 46 8 40 nw [.ref l, .int x tx] (RetInt nw (bis ns x)) := by
  unfold Clm
  intro dp un gd cn cs a ccd cl outer A₀ base h₀ L m s Q E B F X N T hk hd hu hret
  k_with_none
  w_top off
  k_with "exec While Compare cons nil" => k_while (fun _ lo hi => BisP ns x lo hi) (fun _ lo hi => (hi - lo).toNat) "lo" "hi"
  k_with "state" => first | exact BisP.start _ _ | exact BisP.right (by assumption) (by assumption) (by assumption) | exact BisP.left (by assumption) (by assumption) (by assumption)
  k_with "measure" => (have hmid := BisP.mid (by assumption) (by assumption); omega)
  k_with "subscriptTail Name Name ref int" => (have hmid := BisP.mid (by assumption) (by assumption); refine item_list_ints (by is_list) (by assumption) hmid.1 hmid.2.1 (by omega) ?_; intro _)
  refine wpAny_call ?_
  k_dflt (refine' code_def (binds := [(Str.ofString "a", .ref l), (Str.ofString "x", .int x tx), (Str.ofString "lo", .int 0 226), (Str.ofString "hi", .none), (Str.ofString "key", .none)]) B F X N T rfl rfl hk ?k6 ?k7 ?k8 ?k9 ?kB ?_ ?c2 ?c3 ?c4 ?c5; (case k6 => k_is); (case k7 => k_is); (case k8 => ktr_room); (case k9 => (refine' kp_binds ?kx ?ke; (case kx => k_in); (case ke => exact fun _ => rfl))); (case c5 => decide); (case kB => exact locs rfl); (case c2 => exact rfl); (case c3 => exact rfl); (case c4 => exact rfl))
  intro g' L' h' FG' F' N' B' X' T'
  (try dsimp only); (try k_lift B'); (try k_fold)
  k_steps
  all_goals (refine retInt_end hret ?_ (by assumption) (by assumption); exact BisP.stop (by assumption) (by assumption))

theorem bis_spec4 {w : World} {p : Program} {loose : List Str} {mean : ExcName → Option Value} {mg mb : Str → Option Value} {nw : Led} {l : Addr} {vs : List Value} {ns : List Int} {nn : Nat} {x : Int} {tx t0 : Tok}
    (hm : (l, listOf vs.toArray nn) ∈ nw) (hi : IntsAre vs ns) (hfit : ns.length < 2 ^ 62) :
    Clm w p loose mean mg mb 46 8 40 nw [.ref l, .int x tx, .int 0 t0, .none] (RetInt nw (bis ns x)) := by
  unfold Clm
  intro dp un gd cn cs a ccd cl outer A₀ base h₀ L m s Q E B F X N T hk hd hu hret
  k_with_none
  w_top off
  k_with "exec While Compare cons nil" => k_while (fun _ lo hi => BisP ns x lo hi) (fun _ lo hi => (hi - lo).toNat) "lo" "hi"
  k_with "state" => first | exact BisP.start _ _ | exact BisP.right (by assumption) (by assumption) (by assumption) | exact BisP.left (by assumption) (by assumption) (by assumption)
  k_with "measure" => (have hmid := BisP.mid (by assumption) (by assumption); omega)
  k_with "subscriptTail Name Name ref int" => (have hmid := BisP.mid (by assumption) (by assumption); refine item_list_ints (by is_list) (by assumption) hmid.1 hmid.2.1 (by omega) ?_; intro _)
  refine wpAny_call ?_
  k_dflt (refine' code_def (binds := [(Str.ofString "a", .ref l), (Str.ofString "x", .int x tx), (Str.ofString "lo", .int 0 t0), (Str.ofString "hi", .none), (Str.ofString "key", .none)]) B F X N T rfl rfl hk ?k6 ?k7 ?k8 ?k9 ?kB ?_ ?c2 ?c3 ?c4 ?c5; (case k6 => k_is); (case k7 => k_is); (case k8 => ktr_room); (case k9 => (refine' kp_binds ?kx ?ke; (case kx => k_in); (case ke => exact fun _ => rfl))); (case c5 => decide); (case kB => exact locs rfl); (case c2 => exact rfl); (case c3 => exact rfl); (case c4 => exact rfl))
  intro g' L' h' FG' F' N' B' X' T'
  (try dsimp only); (try k_lift B'); (try k_fold)
  k_steps
  all_goals (refine retInt_end hret ?_ (by assumption) (by assumption); exact BisP.stop (by assumption) (by assumption))
end Mine

set_option maxHeartbeats 8000000
namespace Mine
local macro_rules | `(tactic| news_mem) => `(tactic| assumption)
local macro_rules | `(tactic| k_mem) => `(tactic| assumption)

theorem has_spec {w : World} {p : Program} {loose : List Str} {mean : ExcName → Option Value} {mg mb : Str → Option Value} {nw : Led} {l : Addr} {vs : List Value} {ns : List Int} {nn : Nat} {x : Int} {tx : Tok}
    (hm : (l, listOf vs.toArray nn) ∈ nw) (hi : IntsAre vs ns) (hfit : ns.length < 2 ^ 62) :
    Clm w p loose mean mg mb 60 10 60 nw [.ref l, .int x tx] (RetBool nw (hasF ns x)) := by
  unfold Clm
  intro dp un gd cn cs a ccd cl outer A₀ base h₀ L m s Q E B F X N T hk hd hu hret
  k_with_none
  w_top off
  k_with "call ref" => (k_dflt (refine' Clm.go (bis_spec ?hm ?hi ?hf) ?k1 ?k2 ?k3 ?k4 ?k5 ?kK ?kd ?ku ?kR; (case k1 => k_asm); (case k2 => k_asm); (case k3 => k_asm); (case k4 => k_asm); (case k5 => k_asm); (case hm => assumption); (case hi => assumption); (case hf => assumption); (case kK => exact rfl); (case kd => ktr_room); (case ku => ktr_units)); intro y9 t9 h9 tk9 e9 F9 N9; (have hge9 : 0 ≤ y9 := by rw [e9.eq]; exact Int.natCast_nonneg _); (try dsimp only); (try k_fold))
  refine wpAny_call ?_
  k_dflt (refine' code_def (binds := [(Str.ofString "order", .ref l), (Str.ofString "way", .int x tx)]) B F X N T rfl rfl hk ?k6 ?k7 ?k8 ?k9 ?kB ?_ ?c2 ?c3 ?c4 ?c5; (case k6 => k_is); (case k7 => k_is); (case k8 => ktr_room); (case k9 => exact BindsTo.of_eq rfl); (case c5 => decide); (case kB => exact locs rfl); (case c2 => exact rfl); (case c3 => exact rfl); (case c4 => exact rfl))
  intro g' L' h' FG' F' N' B' X' T'
  (try dsimp only); (try k_lift B'); (try k_fold)
  k_steps
  all_goals (refine retBool_end hret ?_ (by assumption) (by assumption); first | exact hasF_in (by assumption) (by assumption) | exact hasF_out (by assumption) (by assumption))
end Mine

set_option maxHeartbeats 8000000
namespace Mine
local macro_rules | `(tactic| news_mem) => `(tactic| assumption)
local macro_rules | `(tactic| k_mem) => `(tactic| assumption)

local macro_rules | `(tactic| walk_at "call type:range") => `(tactic| ((rename Fr _ _ _ _ => F'); (rename News _ _ _ _ => N'); (with_unfolding_all refine range1_rows F' N' ?_); intro _ _ _ _ _ _ _ _ _))
local macro_rules | `(tactic| walk_at "exec For Name Call cons nil") => `(tactic| (k_here; (rename Fr _ _ _ _ => lF'); (with_unfolding_all refine' For_invVF lF' ?k1 ?k2 ?_; (case k1 => exact rfl); (case k2 => exact rfl); k_whole)))
local macro_rules | `(tactic| walk_at "pyIter ref") => `(tactic| k_extra "pyIter ref")
local macro_rules | `(tactic| walk_at "InvEndN") => `(tactic| ((rename News _ _ _ _ => nE'); (rename Fr _ _ _ _ => fE'); (try simp only [List.push_toArray] at nE'); (with_unfolding_all (refine' kst_end1 fE' nE' ?_ ?_ ?_)); rotate_left; (first | assumption | exact IntsAre.append (by assumption) (.cons _ _ .nil)); (with_unfolding_all (first | exact kst_same1 | exact kst_same0)); (first | exact knowAcc_skip (by assumption) (by assumption) (by assumption) (by assumption) | exact knowAcc_take (by assumption) (by assumption) (by assumption) (by assumption))))
theorem know_spec {w : World} {p : Program} {loose : List Str} {mean : ExcName → Option Value} {mg mb : Str → Option Value} {nw : Led} {l : Addr} {vs : List Value} {ns : List Int} {nn : Nat} {x : Int} {tx : Tok} {many : Int} {tm : Tok}
    (hm : (l, listOf vs.toArray nn) ∈ nw) (hi : IntsAre vs ns) (hfit : ns.length < 2 ^ 62) (h2 : 2 ≤ many ∧ many ≤ 4) :
    Clm w p loose mean mg mb 67 12 80 nw [.ref l, .int x tx, .int many tm] (RetList nw (knowF ns x many)) := by
  unfold Clm
  intro dp un gd cn cs a ccd cl outer A₀ base h₀ L m s Q E B F X N T hk hd hu hret
  k_with_none
  w_top off
  k_with "call ref" => (k_dflt (refine' Clm.go (has_spec ?hm ?hi ?hf) ?k1 ?k2 ?k3 ?k4 ?k5 ?kK ?kd ?ku ?kR; (case k1 => k_asm); (case k2 => k_asm); (case k3 => k_asm); (case k4 => k_asm); (case k5 => k_asm); (case hm => first | k_mem | kst_mem); (case hi => assumption); (case hf => assumption); (case kK => exact rfl); (case kd => ktr_room); (case ku => ktr_units)); intro y9 h9 tk9 e9 F9 N9; (try dsimp only); (try k_fold))
  k_with "pyIter ref" => k_state (fun pre found => found = knowAcc ns x pre ∧ found.length ≤ pre.length) "found"
  k_with "state" => exact knowAcc_nil _ _
  refine wpAny_call ?_
  k_dflt (refine' code_def (binds := [(Str.ofString "order", .ref l), (Str.ofString "way", .int x tx), (Str.ofString "many", .int many tm)]) B F X N T rfl rfl hk ?k6 ?k7 ?k8 ?k9 ?kB ?_ ?c2 ?c3 ?c4 ?c5; (case k6 => k_is); (case k7 => k_is); (case k8 => ktr_room); (case k9 => exact BindsTo.of_eq rfl); (case c5 => decide); (case kB => exact locs rfl); (case c2 => exact rfl); (case c3 => exact rfl); (case c4 => exact rfl))
  intro g' L' h' FG' F' N' B' X' T'
  (try dsimp only); (try k_lift B'); (try k_fold)
  k_steps
  all_goals (refine' retList_end hret (by assumption) (by assumption) (by assumption) ?_ ?_)
  · rw [Int.sub_zero] at *
    unfold knowF
    assumption
  · assumption
end Mine

set_option maxHeartbeats 8000000
namespace Mine
local macro_rules | `(tactic| news_mem) => `(tactic| assumption)
local macro_rules | `(tactic| k_mem) => `(tactic| assumption)

local macro_rules | `(tactic| walk_at "call builtin:list.insert") => `(tactic| ((rename News _ _ _ _ => nE'); (rename Fr _ _ _ _ => fE'); (k_dflt (refine' kl_insert fE' nE' ?_ rfl (Upd.head ?_) ?_ ?_)); (simp [Builtin.List.listFitsIndex]; omega); (assumption); (rw [PySem.sizeLine_eq]; simp; omega); (intro h8 F8 N8); (try dsimp only)))
theorem ins_spec {w : World} {p : Program} {loose : List Str} {mean : ExcName → Option Value} {mg mb : Str → Option Value} {nw : Led} {l : Addr} {vs : List Value} {ns : List Int} {nn : Nat} {x : Int} {tx : Tok}
    (hne : ∀ p ∈ nw, p.1 ≠ l) (hi : IntsAre vs ns) (hfit : ns.length < 1000) :
    Clm w p loose mean mg mb 37 10 60 ((l, listOf vs.toArray nn) :: nw) [.ref l, .int x tx] (RetIns l nw (insF ns x)) := by
  unfold Clm
  intro dp un gd cn cs a ccd cl outer A₀ base h₀ L m s Q E B F X N T hk hd hu hret
  k_with_none
  w_top off
  have hlen := hi.length
  k_with "call ref" => (k_dflt (refine' Clm.go (bis_spec4 ?hm ?hi ?hf) ?k1 ?k2 ?k3 ?k4 ?k5 ?kK ?kd ?ku ?kR; (case k1 => k_asm); (case k2 => k_asm); (case k3 => k_asm); (case k4 => k_asm); (case k5 => k_asm); (case hm => exact List.Mem.head _); (case hi => assumption); (case hf => omega); (case kK => exact rfl); (case kd => ktr_room); (case ku => ktr_units)); intro y9 t9 h9 tk9 e9 F9 N9; (have hge9 : 0 ≤ y9 ∧ y9 ≤ (ns.length : Nat) := by rw [e9.eq]; exact ⟨Int.natCast_nonneg _, Int.ofNat_le.mpr (bis_le _ _)⟩); (try dsimp only); (try k_fold))
  refine wpAny_call ?_
  k_dflt (refine' code_def (binds := [(Str.ofString "a", .ref l), (Str.ofString "x", .int x tx), (Str.ofString "lo", .int 0 213), (Str.ofString "hi", .none), (Str.ofString "key", .none)]) B F X N T rfl rfl hk ?k6 ?k7 ?k8 ?k9 ?kB ?_ ?c2 ?c3 ?c4 ?c5; (case k6 => k_is); (case k7 => k_is); (case k8 => ktr_room); (case k9 => (refine' kp_binds ?kx ?ke; (case kx => k_in); (case ke => exact fun _ => rfl))); (case c5 => decide); (case kB => exact locs rfl); (case c2 => exact rfl); (case c3 => exact rfl); (case c4 => exact rfl))
  intro g' L' h' FG' F' N' B' X' T'
  (try dsimp only); (try k_lift B'); (try k_fold)
  k_steps
  all_goals (refine' retIns_end hret (by assumption) (by assumption) (ins_ints (by assumption) (by assumption)) rfl)
end Mine

namespace Mine
/-- a turn's end, where the ledger may grow -/
def GrowEnd {σ : Type} (h₀ : Heap) (L : Addr) (own : Led) (Led' : σ → Led) (ps : σ → List (Str × Value)) (Facts : σ → Prop) (x : Str) (stored : List Str) (m₀ : Str → Option Value) (P : σ → Prop) (s₁ s₂ : Shared) : Prop :=
  ∃ (c : σ) (h' : Heap) (tk : Nat) (m' : Str → Option Value), s₂ = { s₁ with heap := h', toks := tk } ∧ Fr h₀ L h' m' ∧ News h₀ L h' (Led' c ++ own) ∧ (∀ p ∈ Led' c, ∀ q ∈ own, p.1 ≠ q.1) ∧ Facts c ∧ (∀ p ∈ ps c, m' p.1 = some p.2) ∧
    (∀ z, z ≠ x → (∀ p ∈ ps c, z ≠ p.1) → stored.contains z = false → m' z = m₀ z) ∧ P c
def GrowPost {σ : Type} (h₀ : Heap) (L : Addr) (own : Led) (Led' : σ → Led) (ps : σ → List (Str × Value)) (Facts : σ → Prop) (x : Str) (stored : List Str) (m₀ : Str → Option Value) (P : σ → Prop) (s₁ : Shared) (Q : Flow → Shared → Prop) (f : Flow) (s₂ : Shared) : Prop :=
  match f with
  | .ret v => Q (.ret v) s₂
  | .brk => Q .next s₂
  | _ => GrowEnd h₀ L own Led' ps Facts x stored m₀ P s₁ s₂

theorem grow_range {prog : Program} {w : World} {A : Around} {E : Value → Shared → Prop} {s : Shared} {env : Env} {h₀ : Heap} {x : Str} {body : List Stmt} {Q : Flow → Shared → Prop}
    {σ : Type} {r : Addr} {a₀ b₀ : Int} {t₀ u₀ v₀ : Tok} {n : Nat} {m₀ : Str → Option Value} (Led' : σ → Led) (ps : σ → List (Str × Value)) (Facts : σ → Prop) (stored : List Str) (P : Nat → σ → Prop) (c₀ : σ)
    (hh : A.handled = none) (hr : IsRange s.heap r a₀ b₀ 1 t₀ u₀ v₀) (hsmall : Builtin.Range.small a₀ b₀ 1 = true) (hn : Builtin.Range.rangeSize a₀ b₀ 1 = (n : Int)) (F : Fr h₀ env.locals s.heap m₀) (N : News h₀ env.locals s.heap (Led' c₀)) (hf : Facts c₀) (hk : ∀ p ∈ ps c₀, m₀ p.1 = some p.2) (hp : P 0 c₀)
    (turn : ∀ (c : σ) (i : Nat) t (u : Str → Option Value) h tk own, i < n → (∀ p ∈ Led' c, ∀ q ∈ own, p.1 ≠ q.1) → Facts c → P i c →
      Fr h₀ env.locals h (fun y => if y = x then some (.int (a₀ + (i : Int)) t) else kstB (fun z => if stored.contains z then u z else m₀ z) (ps c) y) → News h₀ env.locals h (Led' c ++ own) →
      wpAny (model prog w) A (execs body env) (GrowPost h₀ env.locals own Led' ps Facts x stored m₀ (P (i + 1)) { s with heap := h, toks := tk } Q) E { s with heap := h, toks := tk })
    (done : ∀ (c : σ) (u : Str → Option Value) h tk, Facts c → P n c → Fr h₀ env.locals h (fun y => if y = x then u y else kstB (fun z => if stored.contains z then u z else m₀ z) (ps c) y) → News h₀ env.locals h (Led' c) → Q .next { s with heap := h, toks := tk }) :
    wpAny (model prog w) A (pyIter (.ref r)) (fun it s₂ => LoopAtV prog w A h₀ env x body Q E it s₂) E s := by
  refine wpAny_pyIter_range hr hsmall ?_
  have W : Walks prog w A s.heap.objs.size [s.heap.objs.size] [s.heap.objs.size] n (fun i v => i < n ∧ ∃ t, v = .int (a₀ + i * 1) t)
      (fun i h => IsRangeIter h s.heap.objs.size (a₀ + (i : Nat) * 1) ((n : Int) - (i : Nat)) 1) := (Walks.range hh _ a₀ 1 n).bound
  have hI0 : h₀.get? s.heap.objs.size = none := next_is_new F
  let J : Nat → (Str → Option Value) → List (Addr × Obj) → Prop := fun i m nx => ∃ c : σ, nx = Led' c ∧ Facts c ∧ (∀ p ∈ ps c, m p.1 = some p.2) ∧ (∀ z, z ≠ x → (∀ p ∈ ps c, z ≠ p.1) → stored.contains z = false → m z = m₀ z) ∧ P i c
  refine ⟨_, _, _, n, _, _, m₀, Led' c₀, J, rfl, W, ?_, ?_, ?_, (by show IsRangeIter _ _ _ _ _; rw [hn]; simpa using Heap.get?_push_size _ rfl), F.push _, (fun p hp => ⟨Heap.get?_push_of_some _ (N p hp).1, (N p hp).2⟩), ⟨c₀, rfl, hf, hk, fun _ _ _ _ => rfl, hp⟩, ?_, ?_⟩
  · intro hm
    exact absurd F.ns.lt ((List.mem_singleton.mp hm) ▸ Nat.lt_irrefl _)
  · intro b hb
    rw [List.mem_singleton.mp hb]
    exact hI0
  · intro p hp hI
    exact absurd (Heap.lt_size (N p hp).1) ((List.mem_singleton.mp hI) ▸ Nat.lt_irrefl _)
  · rintro i v m₁ nx s₁ own ⟨hh', tk', rfl⟩ hin ⟨_, t, rfl⟩ ⟨c, rfl, hf', h1, h2, hp'⟩ hoff hown _ hall hst F₁ N₁
    have e1 : a₀ + (i : Int) * 1 = a₀ + (i : Int) := by omega
    rw [e1] at F₁
    have hap : ∀ p ∈ Led' c, ∀ q ∈ own, p.1 ≠ q.1 := fun p hp q hq e => hoff p hp (e ▸ hown q hq)
    have N₂ : News h₀ env.locals hh' (Led' c ++ own) := fun p hp => N₁ p ((List.mem_append.mp hp).elim (fun h => List.mem_append.mpr (.inr h)) fun h => List.mem_append.mpr (.inl h))
    have hIown : ∃ o, (s.heap.objs.size, o) ∈ own := ⟨_, hall _ (List.mem_singleton.mpr rfl) hI0 _ hst⟩
    refine wpAny_mono (turn c i t m₁ hh' tk' own hin hap hf' hp' (kst_fr h1 h2 F₁) N₂) (fun f s₂ p => ?_) fun _ _ e => e
    have fin : GrowEnd h₀ env.locals own Led' ps Facts x stored m₀ (P (i + 1)) { s with heap := hh', toks := tk' } s₂ → LoopStepU h₀ env.locals [s.heap.objs.size] own (J (i + 1)) { s with heap := hh', toks := tk' } .next s₂ := by
      rintro ⟨c', h', tk, m', e, F', N', hap', hf9, hk9, hr9, hp9⟩
      obtain ⟨oI, hoI⟩ := hIown
      refine ⟨rfl, h', tk, m', Led' c', e, F', fun p hp => N' p ((List.mem_append.mp hp).elim (fun h => List.mem_append.mpr (.inr h)) fun h => List.mem_append.mpr (.inl h)), fun p hp hq => ?_, c', rfl, hf9, hk9, hr9, hp9⟩
      exact hap' p hp _ hoI (List.mem_singleton.mp hq)
    cases f with
    | ret v => exact .ret p
    | brk => exact .brk p
    | next => exact .next (fin p)
    | cont => exact .cont (fin p)
  · rintro h' tk m' news' F' N' _ ⟨c, rfl, hf', h1, h2, hp'⟩
    exact done c m' h' tk hf' hp' (kst_frOut h1 h2 F') N'
end Mine

namespace Mine
section
variable {prog : Program} {w : World} {A : Around} {E : Value → Shared → Prop} {s : Shared} {env : Env} {h₀ : Heap} {x : Str} {body : List Stmt} {Q : Flow → Shared → Prop}
  {r : Addr} {t₀ u₀ v₀ : Tok} {m₀ : Str → Option Value} {Aa : Addr} {nw : Led} {l : Addr} {vs : List Value} {ns : List Int} {nn : Nat} {way many : Int} {times : Nat}
abbrev askStored : List Str := [Str.ofString "known", Str.ofString "left", Str.ofString "other"]
def askLed (Aa : Addr) (nw : Led) (c : AskS) : Led := (Aa, listOf c.refs.toArray c.an) :: (c.kl ++ nw)
def askPs (c : AskS) : List (Str × Value) := [(Str.ofString "order", .ref c.O)]
def askFacts (Aa : Addr) (nw : Led) (c : AskS) : Prop := (c.O, listOf c.ovs.toArray c.on) ∈ c.kl ++ nw ∧ IntsAre c.ovs c.os ∧ LL c.kl c.refs c.xss ∧ ∀ p ∈ c.kl, Aa < p.1
def askP (ns : List Int) (way many : Int) (i : Nat) (c : AskS) : Prop := c.xss = (askedN ns way many i).1 ∧ c.os = (askedN ns way many i).2 ∧ c.os.length ≤ ns.length ∧ c.xss.length = i
def AskEnd (h₀ : Heap) (L : Addr) (own : Led) (Aa : Addr) (nw : Led) (x : Str) (m₀ : Str → Option Value) (ns : List Int) (way many : Int) (i : Nat) (s₁ s₂ : Shared) : Prop :=
  GrowEnd h₀ L own (askLed Aa nw) askPs (askFacts Aa nw) x askStored m₀ (askP ns way many i) s₁ s₂
def AskPost (h₀ : Heap) (L : Addr) (own : Led) (Aa : Addr) (nw : Led) (x : Str) (m₀ : Str → Option Value) (ns : List Int) (way many : Int) (i : Nat) (s₁ : Shared) (Q : Flow → Shared → Prop) (f : Flow) (s₂ : Shared) : Prop :=
  match f with
  | .ret v => Q (.ret v) s₂
  | .brk => Q .next s₂
  | _ => AskEnd h₀ L own Aa nw x m₀ ns way many i s₁ s₂

theorem asked_loop (hm : (l, listOf vs.toArray nn) ∈ nw) (hi : IntsAre vs ns) (hA : ∀ p ∈ nw, p.1 < Aa) (ht : times < 100)
    (hh : A.handled = none) (hr : IsRange s.heap r 0 (times : Nat) 1 t₀ u₀ v₀) (F : Fr h₀ env.locals s.heap m₀) (N : News h₀ env.locals s.heap ((Aa, listOf #[] 0) :: nw)) (hk : m₀ (Str.ofString "order") = some (.ref l))
    (turn : ∀ (O : Addr) (ovs : List Value) (os : List Int) (on : Nat) (refs : List Value) (xss : List (List Int)) (an : Nat) (kl : Led) (i : Nat) (t : Tok) (u : Str → Option Value) (h : Heap) (tk : Nat) (own : Led),
      i < times → (∀ p ∈ (Aa, listOf refs.toArray an) :: (kl ++ nw), ∀ q ∈ own, p.1 ≠ q.1) → (O, listOf ovs.toArray on) ∈ kl ++ nw → IntsAre ovs os → LL kl refs xss → (∀ p ∈ kl, Aa < p.1) →
      xss = (askedN ns way many i).1 → os = (askedN ns way many i).2 → os.length ≤ ns.length → xss.length = i →
      Fr h₀ env.locals h (fun y => if y = x then some (.int (0 + (i : Int)) t) else if y = Str.ofString "order" then some (.ref O) else if askStored.contains y then u y else m₀ y) →
      News h₀ env.locals h ((Aa, listOf refs.toArray an) :: ((kl ++ nw) ++ own)) →
      wpAny (model prog w) A (execs body env) (AskPost h₀ env.locals own Aa nw x m₀ ns way many (i + 1) { s with heap := h, toks := tk } Q) E { s with heap := h, toks := tk })
    (done : ∀ (O : Addr) (ovs : List Value) (os : List Int) (on : Nat) (refs : List Value) (xss : List (List Int)) (an : Nat) (kl : Led) (u : Str → Option Value) (h : Heap) (tk : Nat),
      (O, listOf ovs.toArray on) ∈ kl ++ nw → IntsAre ovs os → LL kl refs xss → (∀ p ∈ kl, Aa < p.1) → xss = (askedN ns way many times).1 → os = (askedN ns way many times).2 →
      Fr h₀ env.locals h (fun y => if y = x then u y else if y = Str.ofString "order" then some (.ref O) else if askStored.contains y then u y else m₀ y) →
      News h₀ env.locals h ((Aa, listOf refs.toArray an) :: (kl ++ nw)) → Q .next { s with heap := h, toks := tk }) :
    wpAny (model prog w) A (pyIter (.ref r)) (fun it s₂ => LoopAtV prog w A h₀ env x body Q E it s₂) E s := by
  refine grow_range (n := times) (askLed Aa nw) askPs (askFacts Aa nw) askStored (askP ns way many) ⟨l, vs, ns, nn, [], [], 0, []⟩ hh hr (small_one (by omega) (by omega) (by omega) (by omega)) ((rangeSize_nat _ _).trans (by omega)) F N ⟨hm, hi, .nil, fun _ hp => nomatch hp⟩
    (fun p hp => by rw [List.mem_singleton.mp hp]; exact hk) ⟨rfl, rfl, Nat.le_refl _, rfl⟩ ?_ ?_
  · rintro ⟨O, ovs, os, on, refs, xss, an, kl⟩ i t u h tk own hin hap ⟨h1, h2, h3, h4⟩ ⟨g1, g2, g3, g4⟩ F' N'
    exact turn O ovs os on refs xss an kl i t u h tk own hin hap h1 h2 h3 h4 g1 g2 g3 g4 F' N'
  · rintro ⟨O, ovs, os, on, refs, xss, an, kl⟩ u h tk ⟨h1, h2, h3, h4⟩ ⟨g1, g2, _, _⟩ F' N'
    exact done O ovs os on refs xss an kl u h tk h1 h2 h3 h4 g1 g2 F' N'

theorem askEnd_intro {L : Addr} {own kl : Led} {i : Nat} {s₁ : Shared} {h' : Heap} {tk : Nat} {m' : Str → Option Value} {ℓ k : Addr} {lvs kvs refs : List Value} {ls ks os : List Int} {ln kn an : Nat} {xss : List (List Int)}
    (F : Fr h₀ L h' m') (N : News h₀ L h' ((ℓ, listOf lvs.toArray ln) :: (k, listOf kvs.toArray kn) :: (Aa, listOf (refs ++ [Value.ref k]).toArray (an + 1)) :: (kl ++ (nw ++ own))))
    (hap : ∀ p ∈ (Aa, listOf refs.toArray an) :: (kl ++ nw), ∀ q ∈ own, p.1 ≠ q.1) (hl : IntsAre lvs ls) (hk : IntsAre kvs ks) (hLL : LL kl refs xss) (hkl : ∀ p ∈ kl, Aa < p.1)
    (hlt1 : ∀ p ∈ (Aa, listOf refs.toArray an) :: ((kl ++ nw) ++ own), p.1 < k) (hlt2 : k < ℓ ∧ Aa < ℓ ∧ AllLt ℓ ((kl ++ nw) ++ own))
    (g1 : xss = (askedN ns way many i).1) (g2 : os = (askedN ns way many i).2) (g3 : os.length ≤ ns.length) (g4 : xss.length = i) (e1 : Is ks (knowF os way many)) (e2 : ls = leftAcc os many ks os ∧ ls.length ≤ os.length)
    (ho : m' (Str.ofString "order") = some (.ref ℓ)) (hr : ∀ z, z ≠ x → z ≠ Str.ofString "order" → askStored.contains z = false → m' z = m₀ z) :
    AskEnd h₀ L own Aa nw x m₀ ns way many (i + 1) s₁ { s₁ with heap := h', toks := tk } := by
  have hA1 : Aa < k := hlt1 _ (.head _)
  have hA2 : Aa < ℓ := hlt2.2.1
  refine ⟨⟨ℓ, lvs, ls, ln, refs ++ [Value.ref k], xss ++ [ks], an + 1, (ℓ, listOf lvs.toArray ln) :: (k, listOf kvs.toArray kn) :: kl⟩, h', tk, m', rfl, F, ?_, ?_, ?_, ?_, ?_, ?_⟩
  · intro p hp
    refine N p ?_
    simp only [askLed, List.mem_append, List.mem_cons] at hp ⊢
    rcases hp with (h | (h | h | h) | h) | h
    · simp only [h, true_or, or_true]
    · simp only [h, true_or]
    · simp only [h, true_or, or_true]
    · simp only [h, true_or, or_true]
    · simp only [h, true_or, or_true]
    · simp only [h, or_true]
  · intro p hp q hq
    simp only [askLed, List.mem_append, List.mem_cons] at hp
    rcases hp with h | (h | h | h) | h
    · rw [h]; exact hap (Aa, listOf refs.toArray an) (.head _) q hq
    · rw [h]
      exact Nat.ne_of_gt (kst_ltOf hlt2.2.2 q (List.mem_append.mpr (.inr hq)))
    · rw [h]
      exact Nat.ne_of_gt (hlt1 q (.tail _ (List.mem_append.mpr (.inr hq))))
    · exact hap p (.tail _ (List.mem_append.mpr (.inl h))) q hq
    · exact hap p (.tail _ (List.mem_append.mpr (.inr h))) q hq
  · refine ⟨List.mem_append.mpr (.inl (.head _)), hl, ?_, ?_⟩
    · exact (hLL.mono fun p hp => .tail _ (.tail _ hp)).append (.cons (.tail _ (.head _)) hk .nil)
    · intro p hp
      rcases List.mem_cons.mp hp with h | hp
      · rw [h]; exact hA2
      · rcases List.mem_cons.mp hp with h | hp
        · rw [h]; exact hA1
        · exact hkl p hp
  · intro p hp
    rw [List.mem_singleton.mp hp]
    exact ho
  · intro z h1 h2 h3
    exact hr z h1 (h2 _ (.head _)) h3
  · have e1 := e1.eq
    refine ⟨?_, ?_, ?_, ?_⟩
    · show xss ++ [ks] = _ ++ [_]
      rw [g1, e1, g2]
    · show ls = leftAcc _ many (knowF _ way many) _
      rw [e2.1, e1, g2]
    · exact Nat.le_trans e2.2 g3
    · show (xss ++ [ks]).length = i + 1
      rw [List.length_append, g4]
      rfl
theorem ask_append {L k : Addr} {ok : Obj} {refs : List Value} {an : Nat} {kl own : Led} {v : Value} {m : Str → Option Value} {Q : Value → Shared → Prop} (F : Fr h₀ L s.heap m) (N : News h₀ L s.heap ((k, ok) :: (Aa, listOf refs.toArray an) :: ((kl ++ nw) ++ own)))
    (hlt1 : ∀ p ∈ (Aa, listOf refs.toArray an) :: ((kl ++ nw) ++ own), p.1 < k) (hkl : ∀ p ∈ kl, Aa < p.1) (hA : ∀ p ∈ nw, p.1 < Aa) (hap : ∀ p ∈ (Aa, listOf refs.toArray an) :: (kl ++ nw), ∀ q ∈ own, p.1 ≠ q.1) (hz : refs.length < 100)
    (h : ∀ h', Fr h₀ L h' m → News h₀ L h' ((k, ok) :: (Aa, listOf (refs ++ [v]).toArray (an + 1)) :: ((kl ++ nw) ++ own)) → Q .none { s with heap := h' }) :
    wpAny (model prog w) A (call (.builtin "list.append") [.ref Aa, v]) Q E s := by
  refine append_K F N (Upd.tail (Nat.ne_of_gt (hlt1 _ (.head _))) (Upd.head fun p hp => ?_)) (fun h' F' N' => h h' F' ?_) (by rw [PySem.sizeLine_eq, List.size_toArray]; omega)
  · rcases List.mem_append.mp hp with hp | hp
    · rcases List.mem_append.mp hp with hp | hp
      · exact Nat.ne_of_gt (hkl p hp)
      · exact Nat.ne_of_lt (hA p hp)
    · exact Ne.symm (hap _ (.head _) p hp)
  · rw [List.push_toArray] at N'
    exact N'
theorem ask_ne {k ℓ : Addr} {ok oA : Obj} {kl own kOwn : Led} {adr : List Addr} (hlt2 : k < ℓ ∧ Aa < ℓ ∧ AllLt ℓ ((kl ++ nw) ++ own)) (hoff : OwnOff kOwn (ℓ :: adr)) : ∀ p ∈ (k, ok) :: (Aa, oA) :: ((kl ++ (nw ++ own)) ++ kOwn), p.1 ≠ ℓ := by
  intro p hp
  simp only [List.mem_cons, List.mem_append] at hp
  rcases hp with h | h | (h | h | h) | h
  · rw [h]; exact Nat.ne_of_lt hlt2.1
  · rw [h]; exact Nat.ne_of_lt hlt2.2.1
  · exact Nat.ne_of_lt (kst_ltOf hlt2.2.2 p (List.mem_append.mpr (.inl (List.mem_append.mpr (.inl h)))))
  · exact Nat.ne_of_lt (kst_ltOf hlt2.2.2 p (List.mem_append.mpr (.inl (List.mem_append.mpr (.inr h)))))
  · exact Nat.ne_of_lt (kst_ltOf hlt2.2.2 p (List.mem_append.mpr (.inr h)))
  · exact hoff p h ℓ (.head _)
theorem ask_same {v1 v3 v4 v5 v6 : Option Value} {u2 u3 u7 rest : Str → Option Value} : ∀ z : Str, z ≠ Str.ofString "turn" → z ≠ Str.ofString "order" → askStored.contains z = false →
    (if z = Str.ofString "order" then v1 else if z = Str.ofString "other" then u2 z else if ([] : List Str).contains z = true then u3 z else if z = Str.ofString "left" then v3 else if z = Str.ofString "known" then v4 else if z = Str.ofString "turn" then v5 else if z = Str.ofString "order" then v6 else if askStored.contains z = true then u7 z else rest z) = rest z := by
  intro z h1 h2 h3
  have h4 : ∀ y ∈ askStored, z ≠ y := fun y hy e => by
    rw [e] at h3
    rw [List.contains_iff_mem.mpr hy] at h3
    cases h3
  rw [if_neg h2, if_neg (h4 _ (by simp)), if_neg (by simp), if_neg (h4 _ (by simp)), if_neg (h4 _ (by simp)), if_neg h1, if_neg h2, h3]
  rfl
end
end Mine

set_option maxHeartbeats 8000000
namespace Mine
local macro_rules | `(tactic| news_mem) => `(tactic| assumption)
local macro_rules | `(tactic| k_mem) => `(tactic| first | assumption | kst_mem)
local macro_rules | `(tactic| walk_at "call type:range") => `(tactic| ((rename Fr _ _ _ _ => F'); (rename News _ _ _ _ => N'); (with_unfolding_all refine range1_rows F' N' ?_); intro _ _ _ _ _ _ _ _ _))
local macro_rules | `(tactic| walk_at "exec For Name Call cons nil") => `(tactic| (k_here; (rename Fr _ _ _ _ => lF'); (with_unfolding_all refine' For_invVF lF' ?k1 ?k2 ?_; (case k1 => exact rfl); (case k2 => exact rfl); k_whole)))
local macro_rules | `(tactic| walk_at "pyIter ref") => `(tactic| k_extra "pyIter ref")
local macro_rules | `(tactic| walk_at "exec For Name Name cons nil") => `(tactic| (k_here; (rename Fr _ _ _ _ => lF'); (with_unfolding_all refine' For_invVF lF' ?k1 ?k2 ?_; (case k1 => exact rfl); (case k2 => exact rfl); k_whole)))
local macro_rules | `(tactic| kst_mem) => `(tactic| first | exact mem_as1 (by assumption) | exact List.mem_append.mpr (.inl (mem_as1 (by assumption))))
local macro_rules | `(tactic| k_memK) => `(tactic| kst_mem)
local macro_rules | `(tactic| walk_at "AskPost") => `(tactic| (dsimp only [AskPost]))
local macro_rules | `(tactic| walk_at "AskEnd") => `(tactic| ((rename News _ _ _ _ => nE'); (rename Fr _ _ _ _ => fE'); (with_unfolding_all (refine' askEnd_intro fE' nE' (by assumption) (by assumption) (by assumption) (by assumption) (by assumption) (by assumption) (by assumption) (by assumption) (by assumption) (by assumption) (by assumption) (by assumption) ⟨by assumption, by assumption⟩ rfl ?_)); (with_unfolding_all exact ask_same)))
local macro_rules | `(tactic| walk_at "InvEndN") => `(tactic| ((rename News _ _ _ _ => nE'); (rename Fr _ _ _ _ => fE'); (with_unfolding_all (first | refine' kst_end1 fE' (fun p hp => nE' p hp) ?_ ?_ ?_ | refine' kst_end1 fE' (fun p hp => nE' p (List.mem_cons_of_mem _ hp)) ?_ ?_ ?_)); rotate_left; (assumption); (with_unfolding_all exact kst_same0); (first | exact leftAcc_skip (by assumption) (by assumption) (by assumption) (by assumption) | exact leftAcc_take (by assumption) (by assumption) (by assumption) (by assumption) (by assumption))))
local macro_rules | `(tactic| walk_at "call builtin:list.append") => `(tactic| ((rename News _ _ _ _ => nE'); (rename Fr _ _ _ _ => fE'); (have hLr := LL.length (by assumption)); (k_dflt (refine' ask_append fE' nE' (by assumption) (by assumption) (by assumption) (by assumption) (by omega) ?_)); (intro h8 F8 N8); (try dsimp only)))
theorem asked_spec {w : World} {p : Program} {loose : List Str} {mean : ExcName → Option Value} {mg mb : Str → Option Value} {nw : Led} {l : Addr} {vs : List Value} {ns : List Int} {nn : Nat} {x : Int} {tx : Tok} {many : Int} {tm : Tok} {times : Nat} {tt : Tok}
    (hm : (l, listOf vs.toArray nn) ∈ nw) (hi : IntsAre vs ns) (hfit : ns.length < 100) (h2 : 2 ≤ many ∧ many ≤ 4) (ht : times < 100) :
    Clm w p loose mean mg mb 74 20 120 nw [.ref l, .int x tx, .int many tm, .int (times : Nat) tt] (RetAsked nw (askedN ns x many times)) := by
  unfold Clm
  intro dp un gd cn cs a ccd cl outer A₀ base h₀ L m s Q E B F X N T hk hd hu hret
  k_with_none
  w_top off
  k_with "call ref" => (k_dflt (refine' Clm.use (by k_asm) (by k_asm) (by k_asm) (by k_asm) (by k_asm) rfl (know_spec (by kst_mem) (by assumption) (by omega) (by assumption)) (by ktr_room) (by ktr_units) ?_); intro r9 y9 vs9 n9 h9 tk9 e9 i9 F9 N9 l9; (try dsimp only); (try k_fold))
  k_with "call ref" => ((rename News _ _ _ _ => nI); k_dflt (refine' Clm.use (by k_asm) (by k_asm) (by k_asm) (fun p hp => nI p (List.mem_cons_of_mem _ hp)) (by k_asm) rfl (ins_spec (ask_ne (by assumption) (by assumption)) (by assumption) (by omega)) (by ktr_room) (by ktr_units) ?_); intro y9 vs9 n9 h9 tk9 e9 i9 F9 N9; (try dsimp only); (try k_fold))
  k_with "pyIter ref" => (k_of "other" => (k_state (fun pre left => left = leftAcc os many y9 pre ∧ left.length ≤ pre.length) "left"))
  k_with "pyIter ref" =>
    k_of "turn" =>
      rename Fr _ _ _ _ => fO
      rename News _ _ _ _ => nO
      rename IsRange _ _ _ _ _ _ _ _ => rgO
      with_unfolding_all refine' asked_loop (way := x) (many := many) hm hi (by assumption) ht rfl rgO fO nO rfl ?turn ?done
      case' turn =>
        intro O ovs os on refs xss an kl i t9 u9 h9 tk9 own hin hap hO hoi hLL hkl g1 g2 g3 g4 kFr kNews
        have kMark := kstMark
        try k_fold
      case' done =>
        intro O ovs os on refs xss an kl u9 h9 tk9 hO hoi hLL hkl g1 g2 kFr kNews
        have kMark := kstMark
        try k_fold
  k_with "state" => exact leftAcc_nil _ _ _
  refine wpAny_call ?_
  k_dflt (refine' code_def (binds := [(Str.ofString "order", .ref l), (Str.ofString "way", .int x tx), (Str.ofString "many", .int many tm), (Str.ofString "times", .int (times : Nat) tt)]) B F X N T rfl rfl hk ?k6 ?k7 ?k8 ?k9 ?kB ?_ ?c2 ?c3 ?c4 ?c5; (case k6 => k_is); (case k7 => k_is); (case k8 => ktr_room); (case k9 => exact BindsTo.of_eq rfl); (case c5 => decide); (case kB => exact locs rfl); (case c2 => exact rfl); (case c3 => exact rfl); (case c4 => exact rfl))
  intro g' L' h' FG' F' N' B' X' T'
  (try dsimp only); (try k_lift B'); (try k_fold)
  k_steps
  all_goals (with_unfolding_all exact hret _ _ ⟨O, ovs, os, on, refs, xss, an, kl⟩ _ _ g1 g2 hLL hoi hO (by assumption) hkl (And.left (by assumption)) (by assumption) (by assumption))
end Mine

set_option maxHeartbeats 8000000
namespace Mine
/-- _int2digits' inner, and the digits it lays -/
def midF (L R : Int) : Int := (L + R).fdiv (2 ^ (1 : Int).toNat)
def upF (x s : Int) : Int := x.fdiv (2 ^ s.toNat)
def lowF (x s : Int) : Int := Builtin.bitXor x (upF x s * 2 ^ s.toNat)
def putD : Nat → List Int → Int → Int → Int → List Int
  | 0, ds, _, _, _ => ds
  | f + 1, ds, x, L, R => if L + 1 = R then ds.set L.toNat x else putD f (putD f ds (lowF x ((midF L R - L) * 1)) L (midF L R)) (upF x ((midF L R - L) * 1)) (midF L R) R
def int2F (x : Int) : List Int := putD 4 (List.replicate ((((Builtin.Int.intBits x : Nat) : Int) + 1 - 1).fdiv 1).toNat [(0 : Int)]).flatten x 0 ((List.replicate ((((Builtin.Int.intBits x : Nat) : Int) + 1 - 1).fdiv 1).toNat [(0 : Int)]).flatten.length : Nat)

theorem putD_length : ∀ (f : Nat) (ds : List Int) (x L R : Int), (putD f ds x L R).length = ds.length
  | 0, _, _, _, _ => rfl
  | f + 1, ds, x, L, R => by
    rw [putD]
    split
    · rw [List.length_set]
    · rw [putD_length f, putD_length f]
theorem mid_in {y L R : Int} (e : Is y ((L + R).fdiv (2 ^ (1 : Int).toNat))) (h0 : 0 ≤ L) (h1 : L < R) (h2 : ¬ L + 1 = R) : L < y ∧ y < R := by
  have e := e.eq
  rw [Int.fdiv_eq_ediv_of_nonneg _ (by decide)] at e
  have : (2 : Int) ^ (1 : Int).toNat = 2 := by decide
  rw [this] at e
  omega
theorem bits_all : ∀ x : Fin 16, ∀ s : Fin 4, 0 ≤ upF (x.val : Int) (s.val : Int) ∧ upF (x.val : Int) (s.val : Int) < 16 ∧ 0 ≤ lowF (x.val : Int) (s.val : Int) ∧ lowF (x.val : Int) (s.val : Int) < 16 := by decide +kernel
theorem bits_in {x s : Int} (h0 : 0 ≤ x) (h1 : x < 16) (h2 : 0 ≤ s) (h3 : s < 4) : 0 ≤ upF x s ∧ upF x s < 16 ∧ 0 ≤ lowF x s ∧ lowF x s < 16 := by
  have h := bits_all ⟨x.toNat, by omega⟩ ⟨s.toNat, by omega⟩
  simp only [Int.toNat_of_nonneg h0, Int.toNat_of_nonneg h2] at h
  exact h
theorem up_in {y x s : Int} (e : Is y (x.fdiv (2 ^ s.toNat))) (h0 : 0 ≤ x) (h1 : x < 16) (h2 : 0 ≤ s) (h3 : s < 4) : 0 ≤ y ∧ y < 16 := by
  rw [e.eq]
  exact ⟨(bits_in h0 h1 h2 h3).1, (bits_in h0 h1 h2 h3).2.1⟩
theorem low_in {y z u x s : Int} (e : Is y (Builtin.bitXor x z)) (ez : Is z (u * 2 ^ s.toNat)) (eu : Is u (x.fdiv (2 ^ s.toNat))) (h0 : 0 ≤ x) (h1 : x < 16) (h2 : 0 ≤ s) (h3 : s < 4) : Is y (lowF x s) ∧ 0 ≤ y ∧ y < 16 := by
  have e1 : y = lowF x s := by rw [e.eq, ez.eq, eu.eq]; rfl
  exact ⟨e1, by rw [e1]; exact (bits_in h0 h1 h2 h3).2.2⟩

section
variable {prog : Program} {w : World} {A : Around} {E : Value → Shared → Prop} {s : Shared} {a b n : Int} {t u : Tok} {Q : Value → Shared → Prop}
theorem rshift_is (hn : 0 ≤ n) (h : ∀ y, Is y (a.fdiv (2 ^ n.toNat)) → Q (.int y s.toks) { s with toks := s.toks + 1 }) : wpAny (model prog w) A (binaryOp .RShift (.int a t) (.int n u)) Q E s := rshift_int hn (h _ rfl)
theorem lshift_is (hn : 0 ≤ n) (hn2 : n < 100) (h0 : 0 ≤ a) (ha : a < 2 ^ 20) (h : ∀ y, Is y (a * 2 ^ n.toNat) → Q (.int y s.toks) { s with toks := s.toks + 1 }) : wpAny (model prog w) A (binaryOp .LShift (.int a t) (.int n u)) Q E s :=
  lshift_int_small hn (by omega) (by omega) (h _ rfl)
theorem xor_is (h : ∀ y, Is y (Builtin.bitXor a b) → Q (.int y s.toks) { s with toks := s.toks + 1 }) : wpAny (model prog w) A (binaryOp .BitXor (.int a t) (.int b u)) Q E s := xor_int (h _ rfl)
end

def PutClaim (w : World) (p : Program) (loose : List Str) (mean : ExcName → Option Value) (mg mb : Str → Option Value) (g D : Addr) (rest : Led) (f : Nat) : Prop :=
  ∀ (x L R : Int) (tx tL tR : Tok) (vs : List Value) (ds : List Int) (n : Nat), IntsAre vs ds → 0 ≤ L → L < R → R - L ≤ (f : Int) → R ≤ (ds.length : Nat) → ds.length ≤ 4 → 0 ≤ x → x < 16 →
    Clm w p loose mean mg mb g (4 * f + 4) (20 * f + 40) ((D, listOf vs.toArray n) :: rest) [.int x tx, .int L tL, .int R tR] (RetIns D rest (putD f ds x L R))
theorem put_use {w : World} {p : Program} {loose : List Str} {mean : ExcName → Option Value} {mg mb : Str → Option Value} {g D c' : Addr} {ob oc : Obj} {r3 : Led} {x L R : Int} {tx tL tR : Tok} {vs : List Value} {ds : List Int} {n : Nat}
    {dp un : Nat} {gd : Option (List Code)} {cn : Str} {cs : Scope} {a : Addr} {ccd : Value} {cl : List (Str × Addr)} {outer : List Env} {A₀ : Around} {base h₀ : Heap} {Lo : Addr} {m : Str → Option Value} {s : Shared} {Q E : Value → Shared → Prop}
    (B : Below A₀ base outer h₀) (F : Fr h₀ Lo s.heap m) (X : (hd.heap_39 w.params).In h₀) (N : News h₀ Lo s.heap ((g, ob) :: (c', oc) :: (D, listOf vs.toArray n) :: r3)) (T : Top p loose mean mg mb h₀) (hk : cs.kind = .function)
    (hd : dp + 30 < recursionLimit) (hu : un + 130 < cLine) (h4 : IntsAre vs ds) (h0 : 0 ≤ L) (h1 : L < R) (h2 : R - L ≤ 4) (h3 : R ≤ (ds.length : Nat)) (h3' : ds.length ≤ 4) (h5 : 0 ≤ x) (h6 : x < 16) (key : ∀ f, PutClaim w p loose mean mg mb g D ((g, ob) :: (c', oc) :: r3) f)
    (hr : RetIns D ((g, ob) :: (c', oc) :: r3) (putD 4 ds x L R) h₀ Lo m s Q) : wpAny (model PP w) (ktrTop dp un gd cn cs Lo a ccd cl outer) (call (.ref g) [.int x tx, .int L tL, .int R tR]) Q E s := by
  refine Clm.use B F X ?_ T hk (key 4 x L R tx tL tR vs ds n h4 h0 h1 h2 h3 h3' h5 h6) (by omega) (by omega) hr
  intro q hq
  refine N q ?_
  simp only [List.mem_cons] at hq ⊢
  rcases hq with h | h | h | h
  · simp only [h, true_or, or_true]
  · simp only [h, true_or]
  · simp only [h, true_or, or_true]
  · simp only [h, or_true]

/-- a code table, empty or with the one nested def's code -/
def TabSt (nw : Led) (line col : Nat) (qual : Str) (ps : Array Value) : Prop := ps = #[] ∨ ∃ c0 oc vs t, ps = #[rawInt line, rawInt col, .ref c0] ∧ (c0, oc) ∈ nw ∧ oc.data = .fields vs ∧ vs[1]? = some (.str qual t)
theorem updF_pre {P : Addr} {o : Obj} {post : Led} : ∀ {pre : Led}, (∀ p ∈ pre, p.1 ≠ P) → (∀ p ∈ post, p.1 ≠ P) → UpdF P o (pre ++ (P, o) :: post) (fun o' => pre ++ (P, o') :: post)
  | [], _, h2 => .head h2
  | _ :: _, h1, h2 => .tail (h1 _ (.head _)) (updF_pre (fun p hp => h1 p (.tail _ hp)) h2)
theorem nest_either {M : Model} {A : Around} {E : Value → Shared → Prop} {s : Shared} {h₀ : Heap} {L a c P : Addr} {m mg mb : Str → Option Value} {cn : Str} {cs : Scope} {ccd : Value} {cl : List (Str × Addr)} {pre nw : Led}
    {p : Program} {loose : List Str} {mean : ExcName → Option Value} {name qual : Str} {params : Arguments} {body : List Stmt} {scope : Scope} {ps : Array Value} {pos : Pos} {firstLine : Nat} {clos : List (Str × Addr)} {Q : Value → Shared → Prop}
    (F : Fr h₀ L s.heap m) (N : News h₀ L s.heap (pre ++ (P, tabObj ps) :: nw)) (T : Top p loose mean mg mb h₀) (C : CodeHd h₀ c P) (hcd : ccd = .ref c) (h1 : ∀ p ∈ pre, p.1 ≠ P) (h2 : ∀ p ∈ nw, p.1 ≠ P) (hl : ∀ p ∈ nw, p.1 < L)
    (hst : TabSt nw pos.line pos.col qual ps) (hcl : closureFor scope (envX cn cs L a ccd cl) = pure clos)
    (h : ∀ f c' oc vs t ctv doc h' tk, Fr h₀ L h' m →
      News h₀ L h' ((f, fnMade name qual params body scope clos doc ((mg "__name__").getD .none) c' ctv) :: (c', oc) :: (pre ++ (P, tabObj #[rawInt pos.line, rawInt pos.col, .ref c']) :: nw)) →
      oc.data = .fields vs → vs[1]? = some (.str qual t) → (@LT.lt Nat _ c' L ∨ AllLt c' pre) → AllLt f pre → @Ne Nat c' P → ((ps = #[] ∧ AllLt c' nw) ∨ ps = #[rawInt pos.line, rawInt pos.col, .ref c']) → Q (.ref f) { s with heap := h', toks := tk }) :
    wpAny M A (makeFunction name qual params (.stmts body) scope (envX cn cs L a ccd cl) [] [] [] pos firstLine) Q E s := by
  rcases hst with rfl | ⟨c0, oc, vs, t, rfl, hm, hd, hv⟩
  · refine nest_K F N T C hcd (updF_pre h1 h2) trivial rfl hcl ?_
    intro f c' oc vs t ctv doc h' tk F' N' e1 e2 l1 l2
    refine h f c' oc vs t ctv doc h' tk F' ?_ e1 e2 (.inr (allLt_of fun q hq => l1 q (List.mem_append.mpr (.inl hq)))) (allLt_of fun q hq => Nat.lt_trans (l1 q (List.mem_append.mpr (.inl hq))) l2) (Nat.ne_of_gt (l1 (P, tabObj #[]) (List.mem_append.mpr (.inr (.head _))))) (.inl ⟨rfl, allLt_of fun q hq => l1 q (List.mem_append.mpr (.inr (.tail _ hq)))⟩)
    simpa using N'
  · refine nestHit_K (c' := c0) F N T C hcd (List.mem_append.mpr (.inr (.head _))) (by simp [TriplesOk, rawInt]) (by simp [codeAmong, rawInt]) hcl ?_
    intro f ctv doc h' tk F' N' l1
    refine h f c0 oc vs t ctv doc h' tk F' ?_ hd hv (.inl (hl _ hm)) (allLt_of fun q hq => l1 q (List.mem_append.mpr (.inl hq))) (h2 _ hm) (.inr rfl)
    intro q hq
    rcases List.mem_cons.mp hq with rfl | hq
    · exact N' _ (.head _)
    · rcases List.mem_cons.mp hq with rfl | hq
      · exact N' _ (.tail _ (List.mem_append.mpr (.inr (.tail _ hm))))
      · exact N' _ (.tail _ hq)

theorem ne_allLt {nw : Led} {a d : Addr} (h : AllLt a nw) (hle : @LE.le Nat _ a d) : ∀ p ∈ nw, p.1 ≠ d := fun p hp => Nat.ne_of_lt (Nat.lt_of_lt_of_le (kst_ltOf h p hp) hle)
theorem fdiv_lit {k : Int} (h : 0 ≤ k) : (k + 1 - 1).fdiv 1 = k := by rw [Int.fdiv_eq_ediv_of_nonneg _ (by omega)]; omega
theorem put_done {f : Nat} {ds : List Int} {x L R : Int} (h : L + 1 = R) : ds.set L.toNat x = putD (f + 1) ds x L R := by rw [putD, if_pos h]
theorem put_step {f : Nat} {ds y1 y2 : List Int} {x L R mid up low : Int} (h : ¬ L + 1 = R) (em : Is mid ((L + R).fdiv (2 ^ (1 : Int).toNat))) (eu : Is up (x.fdiv (2 ^ ((mid - L) * 1).toNat))) (el : Is low (lowF x ((mid - L) * 1)))
    (e1 : Is y1 (putD f ds low L mid)) (e2 : Is y2 (putD f y1 up mid R)) : y2 = putD (f + 1) ds x L R := by
  rw [putD, if_neg h, e2.eq, e1.eq, el.eq, eu.eq, em.eq]
  rfl
def RetInt2 (ps : Array Value) (nw : Led) (v : List Int) (h₀ : Heap) (L : Addr) (m : Str → Option Value) (s : Shared) (Q : Value → Shared → Prop) : Prop :=
  ∀ (r c' : Addr) (oc : Obj) (vs2 : Array Value) (t : Tok) (y : List Int) (vs : List Value) (n : Nat) (h' : Heap) (tk' : Nat), Is y v → IntsAre vs y → Fr h₀ L h' m → News h₀ L h' ((r, listOf vs.toArray n) :: (c', oc) :: (16, tabObj #[rawInt 5, rawInt 4, .ref c']) :: nw) →
    oc.data = .fields vs2 → vs2[1]? = some (.str (Str.ofString "_int2digits.<locals>.inner") t) → AllLt r nw → (@LT.lt Nat _ 16 r ∧ @Ne Nat c' 16 ∧ @Ne Nat c' r) → ((ps = #[] ∧ AllLt c' nw) ∨ ps = #[rawInt 5, rawInt 4, .ref c']) → Q (.ref r) { s with heap := h', toks := tk' }
theorem ib_all : ∀ x : Fin 16, 1 ≤ x.val → 1 ≤ Builtin.Int.intBits (x.val : Int) ∧ Builtin.Int.intBits (x.val : Int) ≤ 4 := by decide +kernel
theorem ib_in {x : Int} (h0 : 1 ≤ x) (h1 : x < 16) : 1 ≤ ((Builtin.Int.intBits x : Nat) : Int) ∧ ((Builtin.Int.intBits x : Nat) : Int) ≤ 4 := by
  have h := ib_all ⟨x.toNat, by omega⟩ (by show 1 ≤ x.toNat; omega)
  simp only [Int.toNat_of_nonneg (by omega : 0 ≤ x)] at h
  omega
theorem allLt_mono {nw : Led} {a d : Addr} (h : AllLt a nw) (hle : @LE.le Nat _ a d) : AllLt d nw := allLt_of fun p hp => Nat.lt_of_lt_of_le (kst_ltOf h p hp) hle
theorem int_is {x : Int} {y : List Int} {n1 : Nat} (e1 : ((List.replicate ((((Builtin.Int.intBits x : Nat) : Int) + 1 - 1).fdiv 1).toNat [(0 : Int)]).flatten).length = n1)
    (e9 : Is y (putD 4 (List.replicate ((((Builtin.Int.intBits x : Nat) : Int) + 1 - 1).fdiv 1).toNat [(0 : Int)]).flatten x 0 (n1 : Nat))) : Is y (int2F x) := by
  subst e1; exact e9
theorem int_end {ps : Array Value} {nw : Led} {v y : List Int} {h₀ : Heap} {L : Addr} {m : Str → Option Value} {s : Shared} {Q : Value → Shared → Prop} {D g c' : Addr} {ob oc : Obj} {a1 a2 a3 a4 : Addr × Obj} {vs2 : Array Value} {t : Tok} {vs : List Value} {n : Nat} {h' : Heap} {tk' : Nat}
    (hret : RetInt2 ps nw v h₀ L m s Q) (F : Fr h₀ L h' m) (N : News h₀ L h' ((D, listOf vs.toArray n) :: (g, ob) :: (c', oc) :: a1 :: a2 :: a3 :: a4 :: (16, tabObj #[rawInt 5, rawInt 4, .ref c']) :: nw)) (hi : IntsAre vs y) (e : Is y v)
    (hd : oc.data = .fields vs2) (hv : vs2[1]? = some (.str (Str.ofString "_int2digits.<locals>.inner") t)) (hl : AllLt D nw) (h16 : @LT.lt Nat _ 16 D) (hc : @Ne Nat c' 16) (hcD : @Ne Nat c' D) (hps : (ps = #[] ∧ AllLt c' nw) ∨ ps = #[rawInt 5, rawInt 4, .ref c']) : Q (.ref D) { s with heap := h', toks := tk' } := by
  refine hret D c' oc vs2 t y vs n h' tk' e hi F (fun p hp => N p ?_) hd hv hl ⟨h16, hc, hcD⟩ hps
  simp only [List.mem_cons] at hp ⊢
  rcases hp with h | h | h | h
  · exact .inl h
  · exact .inr (.inr (.inl h))
  · exact .inr (.inr (.inr (.inr (.inr (.inr (.inr (.inl h)))))))
  · exact .inr (.inr (.inr (.inr (.inr (.inr (.inr (.inr h)))))))

/-- _law_figures -/
def figF (x many : Int) : List Int := List.take many.toNat (int2F x ++ (List.replicate many.toNat [(0 : Int)]).flatten)
theorem int2_all : ∀ x : Fin 16, 1 ≤ x.val → 1 ≤ (int2F (x.val : Int)).length ∧ (int2F (x.val : Int)).length ≤ 4 := by decide +kernel
theorem int2_len {x : Int} (h0 : 1 ≤ x) (h1 : x < 16) : 1 ≤ (int2F x).length ∧ (int2F x).length ≤ 4 := by
  have h := int2_all ⟨x.toNat, by omega⟩ (by show 1 ≤ x.toNat; omega)
  simp only [Int.toNat_of_nonneg (by omega : 0 ≤ x)] at h
  exact h
theorem fig_is {x many : Int} {y : List Int} (e : Is y (int2F x)) : Is (List.take many.toNat (y ++ (List.replicate many.toNat [(0 : Int)]).flatten)) (figF x many) := by
  rw [e.eq]; exact rfl
theorem fig_end {ps : Array Value} {nw : Led} {v y : List Int} {h₀ : Heap} {L : Addr} {m : Str → Option Value} {s : Shared} {Q : Value → Shared → Prop} {D c' : Addr} {oc : Obj} {a1 a2 a3 a4 : Addr × Obj} {vs2 : Array Value} {t : Tok} {vs : List Value} {n : Nat} {h' : Heap} {tk' : Nat}
    (hret : RetInt2 ps nw v h₀ L m s Q) (F : Fr h₀ L h' m) (N : News h₀ L h' ((D, listOf vs.toArray n) :: a1 :: a2 :: a3 :: a4 :: (c', oc) :: (16, tabObj #[rawInt 5, rawInt 4, .ref c']) :: nw)) (hi : IntsAre vs y) (e : Is y v)
    (hd : oc.data = .fields vs2) (hv : vs2[1]? = some (.str (Str.ofString "_int2digits.<locals>.inner") t)) (hl : AllLt D nw) (h16 : @LT.lt Nat _ 16 D) (hc : @Ne Nat c' 16) (hcD : @Ne Nat c' D) (hps : (ps = #[] ∧ AllLt c' nw) ∨ ps = #[rawInt 5, rawInt 4, .ref c']) : Q (.ref D) { s with heap := h', toks := tk' } := by
  refine hret D c' oc vs2 t y vs n h' tk' e hi F (fun p hp => N p ?_) hd hv hl ⟨h16, hc, hcD⟩ hps
  simp only [List.mem_cons] at hp ⊢
  rcases hp with h | h | h | h
  · exact .inl h
  · exact .inr (.inr (.inr (.inr (.inr (.inl h)))))
  · exact .inr (.inr (.inr (.inr (.inr (.inr (.inl h))))))
  · exact .inr (.inr (.inr (.inr (.inr (.inr (.inr h))))))
end Mine

set_option maxHeartbeats 8000000
namespace Mine
local macro_rules | `(tactic| k_all) => `(tactic| first | assumption | exact ne_allLt (by assumption) (by omega))
local macro_rules | `(tactic| walk_at "binaryOp RShift int int") => `(tactic| (k_here; refine rshift_is (by omega) ?_; intro y8 e8; (first | (have hb8 := mid_in e8 (by omega) (by omega) (by omega)) | (have hb8 := up_in e8 (by omega) (by omega) (by omega) (by omega)))))
local macro_rules | `(tactic| walk_at "binaryOp LShift int int") => `(tactic| (k_here; refine lshift_is (by omega) (by omega) (by omega) (by omega) ?_; intro y8 e8))
local macro_rules | `(tactic| walk_at "binaryOp BitXor int int") => `(tactic| (k_here; refine xor_is ?_; intro y8 e8; (have hb8 := low_in e8 (by assumption) (by assumption) (by omega) (by omega) (by omega) (by omega)); obtain ⟨hl8, hb8⟩ := hb8))
local macro_rules | `(tactic| walk_at "exec FunctionDef") => `(tactic| (k_here; kn_here; k_dflt (refine' nestDef_K ?d0 ?k0 ?a0 ?_; (case d0 => exact rfl); (case k0 => exact rfl); (case a0 => exact rfl)); (rename News _ _ _ _ => nE'); (rename Fr _ _ _ _ => fE'); (with_unfolding_all (refine' nest_either (pre := [_, _, _, _, _]) fE' nE' (by assumption) (by assumption) rfl (by k_all) (by assumption) (kst_ltOf (by assumption)) (by assumption) rfl ?_)); (intro f' c' oc' vs' t' ct' dc' h' tk' F' N' d1' d2' l1 l2 l3 hps'); (simp only [List.cons_append, List.nil_append] at N'); (simp only [AllLt, and_true] at l1 l2); (try dsimp only)))
local macro_rules | `(tactic| tb_start) => `(tactic| (refine wpAny_call ?_; k_dflt (refine' code_nest ?k1 ?k2 ?k3 ?k4 ?k5 ?kA ?kF ?kK ?k6 ?k7 ?k8 ?k9 ?kB ?_ ?c2 ?c3 ?c4 ?c5; (case kA => exact rfl); (case kF => exact rfl); (case kK => assumption); (case k1 => k_asm); (case k2 => k_asm); (case k3 => k_asm); (case k4 => k_asm); (case k5 => k_asm); (case k6 => k_mem); (case k7 => exact codeRec_news (by k_asm) (by k_mem) (by assumption) (by assumption)); (case k8 => ktr_room); (case k9 => exact BindsTo.of_eq rfl); (case c5 => decide); (case kB => exact locs rfl); (case c2 => exact rfl); (case c3 => exact rfl); (case c4 => exact rfl); k_whole; intro g' L' h' FG' F' N' B' X' T'; (try dsimp only); (try k_lift B'); (try k_fold))))
theorem int_spec {w : World} {p : Program} {loose : List Str} {mean : ExcName → Option Value} {mg mb : Str → Option Value} {nw : Led} {tx t1 : Tok} {x : Int} {ps : Array Value}
    (hst : TabSt nw 5 4 (Str.ofString "_int2digits.<locals>.inner") ps) (hn16 : ∀ p ∈ nw, p.1 ≠ 16) (hx : 1 ≤ x ∧ x < 16) :
    Clm w p loose mean mg mb 21 40 200 ((16, tabObj ps) :: nw) [.int x tx, .int 1 t1] (RetInt2 ps nw (int2F x)) := by
  unfold Clm
  intro dp un gd cn cs a ccd cl outer A₀ base h₀ L m s Q E B F X N T hk hd hu hret
  k_with_none
  w_top off
  have hCd : CodeHd h₀ 20 16 := codeHd_of_K X (by kernel_rfl)
  k_with "call ref" =>
    rename News _ _ _ _ => nC
    k_dflt refine' put_use (by k_asm) (by k_asm) (by k_asm) nC (by k_asm) rfl (by ktr_room) (by ktr_units) (by assumption) (by omega) (by omega) (by omega) (by omega) (by omega) (by omega) (by omega) ?key ?go
    case' key =>
      intro f
      induction f with
      | zero =>
        unfold PutClaim
        intro x L R tx tL tR vs ds n hi h0 h1 h2 h3 h4 h5 h6
        exfalso
        omega
      | succ f IH =>
        unfold PutClaim at IH ⊢
        intro x L R tx tL tR vs ds n hi h0 h1 h2 h3 h4 h5 h6
        unfold Clm
        intro dp un gd cn cs a ccd cl outer A₀ base h₀ Lo m s Q E B F X N T hk hd hu hret
        tb_start
        k_dflt k_steps
        all_goals first | (refine' retIns_end hret (by assumption) (by assumption) (by assumption) ?_; first | exact put_done (by assumption) | exact put_step (by assumption) (by assumption) (by assumption) (by assumption) (by assumption) (by assumption))
    case' go =>
      unfold RetIns
      intro y9 vs9 n9 h9 tk9 e9 i9 F9 N9
      (try dsimp only)
      (try k_fold)
  k_with "call ref" => (k_dflt (refine' Clm.use (by k_asm) (by k_asm) (by k_asm) (by k_asm) (by k_asm) rfl (IH _ _ _ _ _ _ _ _ _ (by assumption) (by omega) (by omega) (by omega) (by omega) (by omega) (by omega) (by omega)) (by ktr_room) (by ktr_units) ?_); unfold RetIns; intro y9 vs9 n9 h9 tk9 e9 i9 F9 N9; (have hlen9 : y9.length = _ := (congrArg List.length e9.eq).trans (putD_length _ _ _ _ _)); (try dsimp only); (try k_fold))
  refine wpAny_call ?_
  k_dflt (refine' code_defC (binds := [(Str.ofString "a", .int x tx), (Str.ofString "n", .int 1 t1)]) B F X N T rfl rfl hk ?k6 ?k7 ?k8 ?k9 ?kB ?kD ?_ ?c2 ?c3 ?c4; (case k6 => k_is); (case k7 => k_is); (case k8 => ktr_room); (case k9 => exact BindsTo.of_eq rfl); (case kB => exact rfl); (case kD => decide +kernel); (case c2 => exact rfl); (case c3 => exact rfl); (case c4 => exact rfl))
  intro g' L' h' tk' cells' FG' F' N' Y' B' X' T' l1
  (try k_lt l1); k_cells Y'
  (try simp only [List.cons_append, List.nil_append] at N')
  have hCd' : CodeHd g' 20 16 := CodeHd.keeps hCd FG'.keep
  (try dsimp only); (try k_lift B'); (try k_fold)
  have hnL : AllLt L' nw := l1.2
  have hfd := fdiv_lit (Int.natCast_nonneg (Builtin.Int.intBits x))
  have hib := ib_in hx.1 hx.2
  k_steps
  all_goals (try (exfalso; omega))
  all_goals ((with_unfolding_all (exact int_end hret (by assumption) (by assumption) (by assumption) (int_is (by assumption) (by assumption)) (by assumption) (by assumption) (allLt_mono hnL (by omega)) (by omega) (by assumption) (by omega) (by assumption))))
end Mine

set_option maxHeartbeats 8000000
namespace Mine
local macro_rules | `(tactic| k_all) => `(tactic| first | assumption | exact ne_allLt (by assumption) (by omega))
theorem fig_spec {w : World} {p : Program} {loose : List Str} {mean : ExcName → Option Value} {mg mb : Str → Option Value} {nw : Led} {tx t1 : Tok} {x many : Int} {ps : Array Value}
    (hst : TabSt nw 5 4 (Str.ofString "_int2digits.<locals>.inner") ps) (hn16 : ∀ p ∈ nw, p.1 ≠ 16) (hx : 1 ≤ x ∧ x < 16) (h2 : 2 ≤ many ∧ many ≤ 4) :
    Clm w p loose mean mg mb 53 50 240 ((16, tabObj ps) :: nw) [.int x tx, .int many t1] (RetInt2 ps nw (figF x many)) := by
  unfold Clm
  intro dp un gd cn cs a ccd cl outer A₀ base h₀ L m s Q E B F X N T hk hd hu hret
  k_with_none
  w_top off
  k_with "call ref" => (k_dflt (refine' Clm.use (by k_asm) (by k_asm) (by k_asm) (by k_asm) (by k_asm) rfl (int_spec (by assumption) (by assumption) (by assumption)) (by ktr_room) (by ktr_units) ?_); unfold RetInt2; intro r9 c9 oc9 vs29 t9 y9 vs9 n9 h9 tk9 e9 i9 F9 N9 d19 d29 l9 f9 hps9; obtain ⟨f91, f92, f93⟩ := f9; (have hlen9 : y9.length = _ := congrArg List.length e9.eq); (try dsimp only); (try k_fold))
  refine wpAny_call ?_
  k_dflt (refine' code_def (binds := [(Str.ofString "way", .int x tx), (Str.ofString "many", .int many t1)]) B F X N T rfl rfl hk ?k6 ?k7 ?k8 ?k9 ?kB ?_ ?c2 ?c3 ?c4 ?c5; (case k6 => k_is); (case k7 => k_is); (case k8 => ktr_room); (case k9 => exact BindsTo.of_eq rfl); (case c5 => decide); (case kB => exact locs rfl); (case c2 => exact rfl); (case c3 => exact rfl); (case c4 => exact rfl))
  intro g' L' h' FG' F' N' B' X' T'
  (try dsimp only); (try k_lift B'); (try k_fold)
  have hb2 := int2_len hx.1 hx.2
  k_steps
  all_goals ((with_unfolding_all (exact fig_end hret (by assumption) (by assumption) (by assumption) (fig_is (by assumption)) (by assumption) (by assumption) (allLt_mono l9 (by omega)) (by omega) (by omega) (by omega) (by assumption))))
end Mine

namespace Mine
/-- _digits2int's inner -/
def sumD : Nat → List Int → Int → Int → Int
  | 0, _, _, _ => 0
  | f + 1, ds, L, R => if L + 1 = R then ds.getD L.toNat 0 else sumD f ds (midF L R) R * 2 ^ ((midF L R - L) * 1).toNat + sumD f ds L (midF L R)
def digF (ds : List Int) : Int := sumD 4 ds 0 (ds.length : Nat)
theorem midF_in {L R : Int} (h0 : 0 ≤ L) (h1 : L < R) (h2 : ¬ L + 1 = R) : L < midF L R ∧ midF L R < R := mid_in rfl h0 h1 h2
theorem shl_in {a s B : Int} (h0 : 0 ≤ a) (h1 : a ≤ B) (h2 : 0 ≤ s) (h3 : s ≤ 2) : 0 ≤ a * 2 ^ s.toNat ∧ a * 2 ^ s.toNat ≤ 4 * B := by
  have : s = 0 ∨ s = 1 ∨ s = 2 := by omega
  rcases this with rfl | rfl | rfl
  · have : (2 : Int) ^ (0 : Int).toNat = 1 := by decide
    rw [this]; omega
  · have : (2 : Int) ^ (1 : Int).toNat = 2 := by decide
    rw [this]; omega
  · have : (2 : Int) ^ (2 : Int).toNat = 4 := by decide
    rw [this]; omega
theorem sumD_in {ds : List Int} (hd : ∀ d ∈ ds, 0 ≤ d ∧ d ≤ 1) : ∀ (k f : Nat) (L R : Int), 0 ≤ L → L < R → R - L ≤ (k : Int) → k ≤ 4 → 0 ≤ sumD f ds L R ∧ sumD f ds L R ≤ (5 : Int) ^ k
  | 0, _, _, _, _, _, _, _ => by omega
  | k + 1, 0, _, _, _, _, _, _ => ⟨Int.le_refl _, Int.le_of_lt (Int.pow_pos (by decide))⟩
  | k + 1, f + 1, L, R, h0, h1, h2, h4 => by
    rw [sumD]
    have h5 : (1 : Int) ≤ 5 ^ k := Int.pow_pos (by decide)
    have e5 : (5 : Int) ^ (k + 1) = 5 ^ k * 5 := Int.pow_succ 5 k
    split
    · by_cases h : L.toNat < ds.length
      · have hm : ds.getD L.toNat 0 ∈ ds := by
          rw [List.getD_eq_getElem?_getD, List.getElem?_eq_getElem h]
          exact List.getElem_mem h
        have := hd _ hm
        omega
      · rw [List.getD_eq_getElem?_getD, List.getElem?_eq_none (by omega)]
        show (0 : Int) ≤ 0 ∧ (0 : Int) ≤ _
        omega
    · rename_i hne
      have hm := midF_in h0 h1 hne
      have a1 := sumD_in hd k f (midF L R) R (by omega) hm.2 (by omega) (by omega)
      have a2 := sumD_in hd k f L (midF L R) h0 hm.1 (by omega) (by omega)
      have a3 := shl_in a1.1 a1.2 (s := (midF L R - L) * 1) (by omega) (by
        have e : midF L R = (L + R) / 2 := by
          unfold midF
          rw [Int.fdiv_eq_ediv_of_nonneg _ (by decide)]
          rfl
        omega)
      omega
theorem sumD_is {ds : List Int} (hd : ∀ d ∈ ds, 0 ≤ d ∧ d ≤ 1) {f : Nat} {L R y : Int} (e : Is y (sumD f ds L R)) (h0 : 0 ≤ L) (h1 : L < R) (h2 : R - L ≤ 4) : 0 ≤ y ∧ y ≤ 625 := by
  rw [e.eq]
  exact sumD_in hd 4 f L R h0 h1 h2 (Nat.le_refl _)
theorem sum_done {f : Nat} {ds : List Int} {L R : Int} (h : L + 1 = R) : ds.getD L.toNat 0 = sumD (f + 1) ds L R := by rw [sumD, if_pos h]
theorem sum_step {f : Nat} {ds : List Int} {L R mid y1 y2 y3 : Int} (h : ¬ L + 1 = R) (em : Is mid ((L + R).fdiv (2 ^ (1 : Int).toNat))) (e1 : Is y1 (sumD f ds mid R)) (e2 : Is y2 (y1 * 2 ^ ((mid - L) * 1).toNat)) (e3 : Is y3 (sumD f ds L mid)) : y2 + y3 = sumD (f + 1) ds L R := by
  rw [sumD, if_neg h, e2.eq, e1.eq, e3.eq, em.eq]
  rfl
def SumClaim (w : World) (p : Program) (loose : List Str) (mean : ExcName → Option Value) (mg mb : Str → Option Value) (g : Addr) (rest : Led) (ds : List Int) (f : Nat) : Prop :=
  ∀ (L R : Int) (tL tR : Tok), 0 ≤ L → L < R → R - L ≤ (f : Int) → R ≤ (ds.length : Nat) →
    Clm w p loose mean mg mb g (4 * f + 4) (20 * f + 40) rest [.int L tL, .int R tR] (RetInt rest (sumD f ds L R))
def RetDig (nw : Led) (v : Int) (h₀ : Heap) (L : Addr) (m : Str → Option Value) (s : Shared) (Q : Value → Shared → Prop) : Prop :=
  ∀ (y : Int) (t : Tok) (ps : Array Value) (h' : Heap) (tk' : Nat), Is y v → Fr h₀ L h' m → News h₀ L h' ((23, tabObj ps) :: nw) → Q (.int y t) { s with heap := h', toks := tk' }
theorem sum_use {w : World} {p : Program} {loose : List Str} {mean : ExcName → Option Value} {mg mb : Str → Option Value} {g : Addr} {ob : Obj} {r3 : Led} {L R : Int} {tL tR : Tok} {ds : List Int}
    {dp un : Nat} {gd : Option (List Code)} {cn : Str} {cs : Scope} {a : Addr} {ccd : Value} {cl : List (Str × Addr)} {outer : List Env} {A₀ : Around} {base h₀ : Heap} {Lo : Addr} {m : Str → Option Value} {s : Shared} {Q E : Value → Shared → Prop}
    (B : Below A₀ base outer h₀) (F : Fr h₀ Lo s.heap m) (X : (hd.heap_39 w.params).In h₀) (N : News h₀ Lo s.heap ((g, ob) :: r3)) (T : Top p loose mean mg mb h₀) (hk : cs.kind = .function)
    (hd : dp + 30 < recursionLimit) (hu : un + 130 < cLine) (h0 : 0 ≤ L) (h1 : L < R) (h2 : R - L ≤ 4) (h3 : R ≤ (ds.length : Nat)) (key : ∀ f, SumClaim w p loose mean mg mb g ((g, ob) :: r3) ds f)
    (hr : RetInt ((g, ob) :: r3) (sumD 4 ds L R) h₀ Lo m s Q) : wpAny (model PP w) (ktrTop dp un gd cn cs Lo a ccd cl outer) (call (.ref g) [.int L tL, .int R tR]) Q E s :=
  Clm.use B F X N T hk (key 4 L R tL tR h0 h1 h2 h3) (by omega) (by omega) hr
theorem dig_end {nw : Led} {v y : Int} {ty : Tok} {h₀ : Heap} {L : Addr} {m : Str → Option Value} {s : Shared} {Q : Value → Shared → Prop} {a1 a2 a3 a4 a5 : Addr × Obj} {ps : Array Value} {h' : Heap} {tk' : Nat}
    (hret : RetDig nw v h₀ L m s Q) (F : Fr h₀ L h' m) (N : News h₀ L h' (a1 :: a2 :: a3 :: a4 :: a5 :: (23, tabObj ps) :: nw)) (e : Is y v) : Q (.int y ty) { s with heap := h', toks := tk' } :=
  hret y ty ps h' tk' e F fun p hp => N p (.tail _ (.tail _ (.tail _ (.tail _ (.tail _ hp)))))
end Mine

set_option maxHeartbeats 8000000
namespace Mine
local macro_rules | `(tactic| k_all) => `(tactic| first | assumption | exact ne_allLt (by assumption) (by omega))
local macro_rules | `(tactic| k_mem) => `(tactic| assumption)
local macro_rules | `(tactic| news_mem) => `(tactic| k_mem)
local macro_rules | `(tactic| walk_at "binaryOp RShift int int") => `(tactic| (k_here; refine rshift_is (by omega) ?_; intro y8 e8; (have hb8 := mid_in e8 (by omega) (by omega) (by omega))))
local macro_rules | `(tactic| walk_at "binaryOp LShift int int") => `(tactic| (k_here; refine lshift_is (by omega) (by omega) (by omega) (by omega) ?_; intro y8 e8))
local macro_rules | `(tactic| walk_at "exec FunctionDef") => `(tactic| (k_here; kn_here; k_dflt (refine' nestDef_K ?d0 ?k0 ?a0 ?_; (case d0 => exact rfl); (case k0 => exact rfl); (case a0 => exact rfl)); (rename News _ _ _ _ => nE'); (rename Fr _ _ _ _ => fE'); (with_unfolding_all (refine' nest_either (pre := [_, _, _]) fE' nE' (by assumption) (by assumption) rfl (by k_all) (by assumption) (kst_ltOf (by assumption)) (.inl rfl) rfl ?_)); (intro f' c' oc' vs' t' ct' dc' h' tk' F' N' d1' d2' l1 l2 l3 hps'); (simp only [List.cons_append, List.nil_append] at N'); (simp only [AllLt, and_true] at l1 l2); (try dsimp only)))
local macro_rules | `(tactic| tb_start) => `(tactic| (refine wpAny_call ?_; k_dflt (refine' code_nest ?k1 ?k2 ?k3 ?k4 ?k5 ?kA ?kF ?kK ?k6 ?k7 ?k8 ?k9 ?kB ?_ ?c2 ?c3 ?c4 ?c5; (case kA => exact rfl); (case kF => exact rfl); (case kK => assumption); (case k1 => k_asm); (case k2 => k_asm); (case k3 => k_asm); (case k4 => k_asm); (case k5 => k_asm); (case k6 => k_mem); (case k7 => exact codeRec_news (by k_asm) (by k_mem) (by assumption) (by assumption)); (case k8 => ktr_room); (case k9 => exact BindsTo.of_eq rfl); (case c5 => decide); (case kB => exact locs rfl); (case c2 => exact rfl); (case c3 => exact rfl); (case c4 => exact rfl); k_whole; intro g' L' h' FG' F' N' B' X' T'; (try dsimp only); (try k_lift B'); (try k_fold))))
theorem dig_spec {w : World} {p : Program} {loose : List Str} {mean : ExcName → Option Value} {mg mb : Str → Option Value} {nw : Led} {l : Addr} {vs : List Value} {ds : List Int} {nn : Nat} {t1 : Tok}
    (hm : (l, listOf vs.toArray nn) ∈ nw) (hi : IntsAre vs ds) (hlen : 1 ≤ ds.length ∧ ds.length ≤ 4) (hd01 : ∀ d ∈ ds, 0 ≤ d ∧ d ≤ 1) (hn23 : ∀ p ∈ nw, p.1 ≠ 23) :
    Clm w p loose mean mg mb 28 40 200 ((23, tabObj #[]) :: nw) [.ref l, .int 1 t1] (RetDig nw (digF ds)) := by
  unfold Clm
  intro dp un gd cn cs a ccd cl outer A₀ base h₀ L m s Q E B F X N T hk hd hu hret
  k_with_none
  w_top off
  have hCd : CodeHd h₀ 27 23 := codeHd_of_K X (by kernel_rfl)
  k_with "call ref" =>
    rename News _ _ _ _ => nC
    k_dflt refine' sum_use (ds := ds) (by k_asm) (by k_asm) (by k_asm) nC (by k_asm) rfl (by ktr_room) (by ktr_units) (by omega) (by omega) (by omega) (by omega) ?key ?go
    case' key =>
      intro f
      induction f with
      | zero =>
        unfold SumClaim
        intro L R tL tR h0 h1 h2 h3
        exfalso
        omega
      | succ f IH =>
        unfold SumClaim at IH ⊢
        intro L R tL tR h0 h1 h2 h3
        unfold Clm
        intro dp un gd cn cs a ccd cl outer A₀ base h₀ Lo m s Q E B F X N T hk hd hu hret
        tb_start
        k_dflt k_steps
        all_goals first | (refine' retInt_end hret ?_ (by assumption) (by assumption); first | exact sum_done (by assumption) | exact sum_step (by assumption) (by assumption) (by assumption) (by assumption) (by assumption))
    case' go =>
      unfold RetInt
      intro y9 t9 h9 tk9 e9 F9 N9
      (try dsimp only)
      (try k_fold)
  k_with "call ref" => (k_dflt (refine' Clm.use (by k_asm) (by k_asm) (by k_asm) (by k_asm) (by k_asm) rfl (IH _ _ _ _ (by omega) (by omega) (by omega) (by omega)) (by ktr_room) (by ktr_units) ?_); unfold RetInt; intro y9 t9 h9 tk9 e9 F9 N9; (have hs9 := sumD_is hd01 e9 (by omega) (by omega) (by omega)); (try dsimp only); (try k_fold))
  refine wpAny_call ?_
  k_dflt (refine' code_defC (binds := [(Str.ofString "digits", .ref l), (Str.ofString "n", .int 1 t1)]) B F X N T rfl rfl hk ?k6 ?k7 ?k8 ?k9 ?kB ?kD ?_ ?c2 ?c3 ?c4; (case k6 => k_is); (case k7 => k_is); (case k8 => ktr_room); (case k9 => exact BindsTo.of_eq rfl); (case kB => exact rfl); (case kD => decide +kernel); (case c2 => exact rfl); (case c3 => exact rfl); (case c4 => exact rfl))
  intro g' L' h' tk' cells' FG' F' N' Y' B' X' T' l1
  (try k_lt l1); k_cells Y'
  (try simp only [List.cons_append, List.nil_append] at N')
  have hCd' : CodeHd g' 27 23 := CodeHd.keeps hCd FG'.keep
  (try dsimp only); (try k_lift B'); (try k_fold)
  have hnL : AllLt L' nw := l1.2
  k_steps
  all_goals (try (exfalso; omega))
  all_goals (with_unfolding_all (exact dig_end hret (by assumption) (by assumption) (by assumption)))
end Mine

namespace Mine
theorem add_is {prog : Program} {w : World} {A : Around} {E : Value → Shared → Prop} {s : Shared} {a b : Int} {t u : Tok} {Q : Value → Shared → Prop} (h : ∀ y, Is y (a + b) → Q (.int y s.toks) { s with toks := s.toks + 1 }) : wpAny (model prog w) A (binaryOp .Add (.int a t) (.int b u)) Q E s := add_int (h _ rfl)
theorem pow_b {prog : Program} {w : World} {A : Around} {E : Value → Shared → Prop} {s : Shared} {n : Int} {t u : Tok} {Q : Value → Shared → Prop} (h2 : 2 ≤ n ∧ n ≤ 4)
    (h : (4 : Int) ≤ 2 ^ n.toNat ∧ (2 : Int) ^ n.toNat ≤ 16 → Q (.int (2 ^ n.toNat) s.toks) { s with toks := s.toks + 1 }) : wpAny (model prog w) A (binaryOp .Pow (.int 2 t) (.int n u)) Q E s := by
  refine pow_int_small (by omega) (by omega) (by decide) (h ?_)
  have hm : n = 2 ∨ n = 3 ∨ n = 4 := by omega
  rcases hm with rfl | rfl | rfl <;> decide
theorem way_in {y a many : Int} (e : Is y (1 + a.fmod (2 ^ many.toNat - 1))) (h : 2 ≤ many ∧ many ≤ 4) : 1 ≤ y ∧ y < 16 ∧ y < 2 ^ many.toNat := by
  have e := e.eq
  have hm : many = 2 ∨ many = 3 ∨ many = 4 := by omega
  rcases hm with rfl | rfl | rfl
  · have h2 : (2 : Int) ^ (2 : Int).toNat = 4 := by decide
    rw [h2] at e ⊢
    have h1 := fmod_lo a (n := 4 - 1) (by decide)
    have h3 := fmod_hi a (n := 4 - 1) (by decide)
    omega
  · have h2 : (2 : Int) ^ (3 : Int).toNat = 8 := by decide
    rw [h2] at e ⊢
    have h1 := fmod_lo a (n := 8 - 1) (by decide)
    have h3 := fmod_hi a (n := 8 - 1) (by decide)
    omega
  · have h2 : (2 : Int) ^ (4 : Int).toNat = 16 := by decide
    rw [h2] at e ⊢
    have h1 := fmod_lo a (n := 16 - 1) (by decide)
    have h3 := fmod_hi a (n := 16 - 1) (by decide)
    omega
theorem led_fig {h₀ h : Heap} {L : Addr} {a b c4 c3 c2 c1 t16 t23 : Addr × Obj} (N : News h₀ L h [a, b, c4, c3, c2, c1, t16, t23]) : News h₀ L h (t16 :: [c4, c3, c2, c1, t23]) := by
  intro p hp
  refine N p ?_
  simp only [List.mem_cons, List.not_mem_nil, or_false] at hp ⊢
  rcases hp with h | h | h | h | h | h <;> simp only [h, true_or, or_true]
theorem asked_spec' {w : World} {p : Program} {loose : List Str} {mean : ExcName → Option Value} {mg mb : Str → Option Value} {nw : Led} {l : Addr} {vs : List Value} {ns : List Int} {nn : Nat} {x : Int} {tx : Tok} {many : Int} {tm : Tok} {times : Int} {tt : Tok}
    (hm : (l, listOf vs.toArray nn) ∈ nw) (hi : IntsAre vs ns) (hfit : ns.length < 100) (h2 : 2 ≤ many ∧ many ≤ 4) (ht : 0 ≤ times ∧ times < 100) :
    Clm w p loose mean mg mb 74 20 120 nw [.ref l, .int x tx, .int many tm, .int times tt] (RetAsked nw (askedN ns x many times.toNat)) := by
  have e : times = (times.toNat : Int) := by omega
  have h := asked_spec (w := w) (p := p) (loose := loose) (mean := mean) (mg := mg) (mb := mb) (tx := tx) (x := x) (tm := tm) (tt := tt) hm hi hfit h2 (times := times.toNat) (by omega)
  rw [← e] at h
  exact h
theorem many_in {y a : Int} (e : Is y (2 + a.fmod 3)) : 2 ≤ y ∧ y ≤ 4 := by
  have e := e.eq
  have h1 := fmod_lo a (n := 3) (by decide)
  have h3 := fmod_hi a (n := 3) (by decide)
  omega
theorem cell_ne {h₀ h : Heap} {L c b : Addr} {oc ob : Obj} {nw : Led} {vs : Array Value} {v : Option Value} (N : News h₀ L h nw) (hc : (c, oc) ∈ nw) (hd : oc.data = .fields vs) (hb : (b, ob) ∈ nw) (hbd : ob.data = .cell v) : @Ne Nat c b := by
  intro e
  have e' : c = b := e
  have h1 := (N _ hc).1
  have h2 := (N _ hb).1
  rw [e'] at h1
  have h3 : oc = ob := Option.some.inj (h1.symm.trans h2)
  rw [h3, hbd] at hd
  cases hd
theorem led_fig2 {h₀ h : Heap} {L : Addr} {r c t16 c4 c3 c2 c1 t23 : Addr × Obj} (N : News h₀ L h [r, c, t16, c4, c3, c2, c1, t23]) : News h₀ L h [r, c4, c3, c2, c1, c, t16, t23] := by
  intro p hp
  refine N p ?_
  simp only [List.mem_cons, List.not_mem_nil, or_false] at hp ⊢
  rcases hp with h | h | h | h | h | h | h | h <;> simp only [h, true_or, or_true]
theorem figs_ne {h₀ h : Heap} {L c b1 b2 b3 b4 : Addr} {oc o1 o2 o3 o4 : Obj} {r t16 t23 : Addr × Obj} {vs : Array Value} {v1 v2 v3 v4 : Option Value} (N : News h₀ L h [r, (c, oc), t16, (b4, o4), (b3, o3), (b2, o2), (b1, o1), t23]) (hd : oc.data = .fields vs)
    (h1 : o1.data = .cell v1) (h2 : o2.data = .cell v2) (h3 : o3.data = .cell v3) (h4 : o4.data = .cell v4) : @Ne Nat c b1 ∧ @Ne Nat c b2 ∧ @Ne Nat c b3 ∧ @Ne Nat c b4 :=
  ⟨cell_ne N (by simp) hd (by simp) h1, cell_ne N (by simp) hd (by simp) h2, cell_ne N (by simp) hd (by simp) h3, cell_ne N (by simp) hd (by simp) h4⟩
theorem flat_rep : ∀ n : Nat, (List.replicate n [(0 : Int)]).flatten.length = n
  | 0 => rfl
  | n + 1 => by rw [List.replicate_succ, List.flatten_cons, List.length_append, flat_rep n]; simp; omega
theorem figF_length {y : List Int} {x many : Int} (e : Is y (figF x many)) (h2 : 2 ≤ many ∧ many ≤ 4) : (y.length : Int) = many := by
  rw [e.eq]
  unfold figF
  rw [List.length_take, List.length_append, flat_rep]
  omega
theorem idx_in {k many : Int} {y : List Int} (h0 : 0 ≤ k) (h : k < 0 + ((many - 0).toNat : Int)) (hl : (y.length : Int) = many) : k < (y.length : Int) := by omega
theorem idx_fit {k many : Int} (h : k < 0 + ((many - 0).toNat : Int)) (hl : 2 ≤ many ∧ many ≤ 4) : k < 2 ^ 63 := by omega
theorem hps_new {A : Prop} {a b c : Value} (h : ((#[] : Array Value) = #[] ∧ A) ∨ (#[] : Array Value) = #[a, b, c]) : A := by
  rcases h with h | h
  · exact h.2
  · simp at h
/-- law's every -/
def everyAcc (pre : List Int) : List Int := pre.foldl insF []
theorem everyAcc_nil : [] = everyAcc [] ∧ ([] : List Int).length = ([] : List Int).length := ⟨rfl, rfl⟩
theorem everyAcc_step {pre ev new : List Int} {k : Int} (h : ev = everyAcc pre) (hl : ev.length = pre.length) (e : Is new (insF ev k)) : new = everyAcc (pre ++ [k]) ∧ new.length = (pre ++ [k]).length := by
  have e := e.eq
  refine ⟨?_, by rw [e, insF_length, List.length_append, hl]; rfl⟩
  rw [e, h]
  unfold everyAcc
  rw [List.foldl_append]
  rfl
end Mine

namespace Mine
theorem dig_all : ∀ m : Fin 3, ∀ x : Fin 16, 1 ≤ x.val → x.val < 2 ^ (m.val + 2) → (∀ d ∈ figF (x.val : Int) ((m.val : Int) + 2), 0 ≤ d ∧ d ≤ 1) ∧ digF (figF (x.val : Int) ((m.val : Int) + 2)) = (x.val : Int) := by decide +kernel
theorem ev_all : ∀ m : Fin 3, everyAcc (rangeKs 1 ((2 : Int) ^ ((m.val : Int) + 2).toNat - 1).toNat) = rangeKs 1 ((2 : Int) ^ ((m.val : Int) + 2).toNat - 1).toNat := by decide +kernel
theorem pow_le {many y : Int} (h2 : 2 ≤ many ∧ many ≤ 4) (hy : 1 ≤ y ∧ y < 16 ∧ y < 2 ^ many.toNat) : ∃ m : Fin 3, ∃ x : Fin 16, many = (m.val : Int) + 2 ∧ y = (x.val : Int) ∧ 1 ≤ x.val ∧ x.val < 2 ^ (m.val + 2) := by
  refine ⟨⟨(many - 2).toNat, by omega⟩, ⟨y.toNat, by omega⟩, ?_, ?_, ?_, ?_⟩
  · show many = (((many - 2).toNat : Nat) : Int) + 2
    omega
  · show y = ((y.toNat : Nat) : Int)
    omega
  · show 1 ≤ y.toNat
    omega
  · show y.toNat < 2 ^ ((many - 2).toNat + 2)
    have e : many.toNat = (many - 2).toNat + 2 := by omega
    have h := hy.2.2
    rw [e] at h
    have h3 : ((y.toNat : Nat) : Int) = y := by omega
    rw [← h3] at h
    exact_mod_cast h
theorem fig01 {y many : Int} {ds : List Int} (h2 : 2 ≤ many ∧ many ≤ 4) (hy : 1 ≤ y ∧ y < 16 ∧ y < 2 ^ many.toNat) (e : Is ds (figF y many)) : ∀ d ∈ ds, 0 ≤ d ∧ d ≤ 1 := by
  obtain ⟨m, x, rfl, rfl, hx1, hx2⟩ := pow_le h2 hy
  rw [e.eq]
  exact (dig_all m x hx1 hx2).1
theorem dig_way {y z many : Int} {ds : List Int} (h2 : 2 ≤ many ∧ many ≤ 4) (hy : 1 ≤ y ∧ y < 16 ∧ y < 2 ^ many.toNat) (e : Is ds (figF y many)) (ez : Is z (digF ds)) : z = y := by
  obtain ⟨m, x, rfl, rfl, hx1, hx2⟩ := pow_le h2 hy
  rw [ez.eq, e.eq]
  exact (dig_all m x hx1 hx2).2
theorem ev_is {many : Int} {ev : List Int} (h2 : 2 ≤ many ∧ many ≤ 4) (e : ev = everyAcc (rangeKs 1 ((2 : Int) ^ many.toNat - 1).toNat)) : ev = rangeKs 1 ((2 : Int) ^ many.toNat - 1).toNat := by
  rw [e]
  have h := ev_all ⟨(many - 2).toNat, by omega⟩
  have e2 : (((many - 2).toNat : Nat) : Int) + 2 = many := by omega
  simp only [e2] at h
  exact h
theorem ev_len {many : Int} {ev : List Int} (hp : (4 : Int) ≤ 2 ^ many.toNat ∧ (2 : Int) ^ many.toNat ≤ 16) (e : ev = rangeKs 1 ((2 : Int) ^ many.toNat - 1).toNat) : ev.length < 100 := by
  rw [e, rangeKs_length]
  omega
/-- law's muddy -/
def mudOf (ds : List Int) (many : Int) : List Int := List.foldl (fun l' k' => if ds.getD k'.toNat 0 = 1 then l' ++ [k'] else l') [] (rangeKs 0 (many - 0).toNat)
theorem mud_all : ∀ m : Fin 3, ∀ x : Fin 16, 1 ≤ x.val → x.val < 2 ^ (m.val + 2) → 1 ≤ (mudOf (figF (x.val : Int) ((m.val : Int) + 2)) ((m.val : Int) + 2)).length ∧ (mudOf (figF (x.val : Int) ((m.val : Int) + 2)) ((m.val : Int) + 2)).length ≤ 4 := by decide +kernel
theorem mud_is {y many : Int} {ds : List Int} {ys : List Value} (h2 : 2 ≤ many ∧ many ≤ 4) (hy : 1 ≤ y ∧ y < 16 ∧ y < 2 ^ many.toNat) (e : Is ds (figF y many))
    (hi : IntsAre ys (List.foldl (fun l' k' => if ds.getD k'.toNat 0 = 1 then l' ++ [k'] else l') [] (rangeKs 0 (many - 0).toNat))) : ∃ mu, Is mu (mudOf (figF y many) many) ∧ IntsAre ys mu ∧ (1 ≤ mu.length ∧ mu.length ≤ 4) := by
  obtain ⟨m, x, rfl, rfl, hx1, hx2⟩ := pow_le h2 hy
  refine ⟨_, rfl, ?_, mud_all m x hx1 hx2⟩
  rw [e.eq] at hi
  exact hi
theorem times_in {y : Int} {len : Nat} (e : Is y ((len : Nat) + 1)) (h : 1 ≤ len ∧ len ≤ 4) : 2 ≤ y ∧ y ≤ 5 := by
  have e := e.eq
  omega
theorem lst_eq (ys : List Value) : LCg.lst ys = listOf ys.toArray ys.length := rfl
theorem led_dig {h₀ h : Heap} {L : Addr} {ev mu r c4 c3 c2 c1 c t16 t23 : Addr × Obj} (N : News h₀ L h [ev, mu, r, c4, c3, c2, c1, c, t16, t23]) : News h₀ L h [t23, ev, mu, r, c4, c3, c2, c1, c, t16] := by
  intro p hp
  refine N p ?_
  simp only [List.mem_cons, List.not_mem_nil, or_false] at hp ⊢
  rcases hp with h | h | h | h | h | h | h | h | h | h <;> simp only [h, true_or, or_true]
theorem led_dig2 {h₀ h : Heap} {L : Addr} {ev mu r c4 c3 c2 c1 c t16 t23 : Addr × Obj} (N : News h₀ L h [t23, ev, mu, r, c4, c3, c2, c1, c, t16]) : News h₀ L h [ev, mu, r, c4, c3, c2, c1, c, t16, t23] := by
  intro p hp
  refine N p ?_
  simp only [List.mem_cons, List.not_mem_nil, or_false] at hp ⊢
  rcases hp with h | h | h | h | h | h | h | h | h | h <;> simp only [h, true_or, or_true]
theorem ne23 {ev mu r c4 c3 c2 c1 c t16 : Addr × Obj} {z : Addr} (h1 : @LT.lt Nat _ z ev.1) (h2 : @Ne Nat z mu.1) (h3 : @LT.lt Nat _ z r.1) (h4 : @LT.lt Nat _ z c4.1) (h5 : @LT.lt Nat _ z c3.1) (h6 : @LT.lt Nat _ z c2.1) (h7 : @LT.lt Nat _ z c1.1) (h8 : @LT.lt Nat _ z c.1) (h9 : @Ne Nat z t16.1) :
    ∀ p ∈ [ev, mu, r, c4, c3, c2, c1, c, t16], p.1 ≠ z := by
  intro p hp
  simp only [List.mem_cons, List.not_mem_nil, or_false] at hp
  rcases hp with h | h | h | h | h | h | h | h | h <;> rw [h]
  · exact Nat.ne_of_gt h1
  · exact Ne.symm h2
  · exact Nat.ne_of_gt h3
  · exact Nat.ne_of_gt h4
  · exact Nat.ne_of_gt h5
  · exact Nat.ne_of_gt h6
  · exact Nat.ne_of_gt h7
  · exact Nat.ne_of_gt h8
  · exact Ne.symm h9
end Mine

open PySem.SeqAt PySem.Spec
namespace Mine
section
variable {h₀ h : Heap} {L : Addr} {nw : Led}
theorem nat_lt {a b : Addr} (h : a < b) : @LT.lt Nat _ a b := h
theorem mem_comm {α : Type} {x : α} {a b : List α} (h : x ∈ a ++ b) : x ∈ b ++ a := List.mem_append.mpr (List.mem_append.mp h).symm
theorem led_comm {t a : Addr × Obj} {kl can : Led} (N : News h₀ L h (t :: a :: (kl ++ can))) : News h₀ L h (t :: a :: (can ++ kl)) := by
  intro p hp
  refine N p ?_
  rcases List.mem_cons.mp hp with e | hp
  · rw [e]; exact .head _
  · rcases List.mem_cons.mp hp with e | hp
    · rw [e]; exact .tail _ (.head _)
    · exact .tail _ (.tail _ (mem_comm hp))
theorem isList_of (N : News h₀ L h nw) {r : Addr} {us : List Value} {n : Nat} (hm : (r, listOf us.toArray n) ∈ nw) : h.IsList r us.toArray := ⟨_, (N _ hm).1, rfl, n, rfl⟩
def dat (ns : List Int) : PyData := .list (ns.map PyData.int)
theorem reads_LL (N : News h₀ L h nw) : ∀ {vs : List Value} {xss : List (List Int)}, LL nw vs xss → ∃ as, ReadsAll h vs (xss.map dat) as := by
  intro vs xss l
  induction l with
  | nil => exact ⟨[], .nil⟩
  | cons hm hi _ ih =>
    obtain ⟨as, ih⟩ := ih
    exact ⟨_, .cons (reads_of_ints (isList_of N hm) hi) ih⟩
theorem canLay_LL : ∀ xss : List (List Int), PyData.canLayAll0 (xss.map dat) = true
  | [] => by simp [PyData.canLayAll0]
  | ns :: r => by simp [PyData.canLayAll0, PyData.canLay0, dat, canLayAll0_ints ns, canLay_LL r]
theorem depth_LL : ∀ xss : List (List Int), PyData.depthAll (xss.map dat) ≤ 2
  | [] => by simp [PyData.depthAll]
  | ns :: r => by
    have h1 := depth_LL r
    have h2 := PySem.W.depthAll_ints ns
    simp only [List.map_cons, PyData.depthAll, PyData.depth, dat]
    omega
theorem shaped_LL (xss : List (List Int)) : shaped (.list (xss.map dat)) = true := by
  have h1 := depth_LL xss
  have h2 : PyData.depth (.list (xss.map dat)) ≤ 64 := by simp only [PyData.depth]; omega
  show (PyData.canLay0 (.list (xss.map dat)) && decide (PyData.depth (.list (xss.map dat)) ≤ 64)) = true
  rw [Bool.and_eq_true]
  exact ⟨by simp only [PyData.canLay0]; exact canLay_LL xss, decide_eq_true h2⟩
theorem noMix_LL : ∀ xss yss : List (List Int), noMixAll (xss.map dat) (yss.map dat) = true
  | [], [] => by simp [noMixAll]
  | [], _ :: _ => by simp [noMixAll]
  | _ :: _, [] => by simp [noMixAll]
  | ns :: r, ms :: q => by simp [noMixAll, noMix, dat, noMix_ints, noMix_LL r q]
theorem same_LL : ∀ xss yss : List (List Int), PySem.Spec.sameAll (xss.map dat) (yss.map dat) = decide (xss = yss)
  | [], [] => by simp [PySem.Spec.sameAll]
  | [], _ :: _ => by simp [PySem.Spec.sameAll]
  | _ :: _, [] => by simp [PySem.Spec.sameAll]
  | ns :: r, ms :: q => by
    simp only [List.map_cons, PySem.Spec.sameAll, same_LL r q]
    rw [dat, dat, PySem.Spec.same, same_ints]
    by_cases h : ns = ms <;> simp [h]
theorem reads_of_LL {a : Addr} {us : List Value} {n : Nat} {xss : List (List Int)} (N : News h₀ L h nw) (hm : (a, listOf us.toArray n) ∈ nw) (l : LL nw us xss) : ∃ as, Reads h (.ref a) (.list (xss.map dat)) as := by
  obtain ⟨as, ha⟩ := reads_LL N l
  exact ⟨_, Reads.list (N _ hm).1 rfl rfl (by simpa using ha)⟩
variable {prog : Program} {w : World} {A : Around} {E : Value → Shared → Prop} {s : Shared} {m : Str → Option Value}
theorem eq_LL {a b : Addr} {us vs : List Value} {n k : Nat} {xss yss : List (List Int)} {Q : Value → Shared → Prop} (N : News h₀ L s.heap nw) (h1 : (a, listOf us.toArray n) ∈ nw) (l1 : LL nw us xss) (h2 : (b, listOf vs.toArray k) ∈ nw) (l2 : LL nw vs yss) (hu : A.units + 64 < cLine)
    (hq : Q (.bool (decide (xss = yss))) s) : wpAny (model prog w) A (compareOp .Eq (.ref a) (.ref b)) Q E s := by
  obtain ⟨as, ra⟩ := reads_of_LL N h1 l1
  obtain ⟨bs, rb⟩ := reads_of_LL N h2 l2
  exact eq_dataH_same ra rb (shaped_LL _) (shaped_LL _) hu (by simp only [noMix]; exact noMix_LL _ _) (by simp only [PySem.Spec.same]; rw [same_LL]; exact hq)
theorem ne_LL {a b : Addr} {us vs : List Value} {n k : Nat} {xss yss : List (List Int)} {Q : Value → Shared → Prop} (N : News h₀ L s.heap nw) (h1 : (a, listOf us.toArray n) ∈ nw) (l1 : LL nw us xss) (h2 : (b, listOf vs.toArray k) ∈ nw) (l2 : LL nw vs yss) (hu : A.units + 64 < cLine)
    (hq : Q (.bool (!decide (xss = yss))) s) : wpAny (model prog w) A (compareOp .NotEq (.ref a) (.ref b)) Q E s := by
  obtain ⟨as, ra⟩ := reads_of_LL N h1 l1
  obtain ⟨bs, rb⟩ := reads_of_LL N h2 l2
  exact ne_dataH_same ra rb (shaped_LL _) (shaped_LL _) hu (by simp only [noMix]; exact noMix_LL _ _) (by simp only [PySem.Spec.same]; rw [same_LL]; exact hq)
theorem eq_ints' {a b : Addr} {us vs : List Value} {n k : Nat} {xs ys : List Int} {Q : Value → Shared → Prop} (N : News h₀ L s.heap nw) (h1 : (a, listOf us.toArray n) ∈ nw) (l1 : IntsAre us xs) (h2 : (b, listOf vs.toArray k) ∈ nw) (l2 : IntsAre vs ys) (hu : A.units + 64 < cLine)
    (hq : Q (.bool (decide (xs = ys))) s) : wpAny (model prog w) A (compareOp .Eq (.ref a) (.ref b)) Q E s := eq_intsK (isList_of N h1) l1 (isList_of N h2) l2 hu hq
theorem ne_ints' {a b : Addr} {us vs : List Value} {n k : Nat} {xs ys : List Int} {Q : Value → Shared → Prop} (N : News h₀ L s.heap nw) (h1 : (a, listOf us.toArray n) ∈ nw) (l1 : IntsAre us xs) (h2 : (b, listOf vs.toArray k) ∈ nw) (l2 : IntsAre vs ys) (hu : A.units + 64 < cLine)
    (hq : Q (.bool (!decide (xs = ys))) s) : wpAny (model prog w) A (compareOp .NotEq (.ref a) (.ref b)) Q E s := ne_intsK (isList_of N h1) l1 (isList_of N h2) l2 hu hq
theorem LL.take {vs : List Value} {xss : List (List Int)} (h : LL nw vs xss) : ∀ k, LL nw (vs.take k) (xss.take k) := by
  induction h with
  | nil => intro k; simpa using LL.nil
  | cons hm hi _ ih =>
    intro k
    cases k with
    | zero => exact .nil
    | succ k => exact .cons hm hi (ih k)
theorem LL.drop {vs : List Value} {xss : List (List Int)} (h : LL nw vs xss) : ∀ k, LL nw (vs.drop k) (xss.drop k) := by
  induction h with
  | nil => intro k; simpa using LL.nil
  | cons hm hi hr ih =>
    intro k
    cases k with
    | zero => exact .cons hm hi hr
    | succ k => exact ih k
theorem LL.rep {e : Addr} {n : Nat} (hm : (e, listOf #[] n) ∈ nw) : ∀ k, LL nw (List.replicate k [Value.ref e]).flatten (List.replicate k [])
  | 0 => .nil
  | k + 1 => by
    rw [List.replicate_succ, List.flatten_cons, List.replicate_succ]
    exact LL.cons (us := []) hm .nil (LL.rep hm k)
def pickI (l : List (List Int)) (lo hi : Option Int) : List (List Int) := (l.drop (kms_lo lo l.length)).take (kms_hi hi l.length - kms_lo lo l.length)
abbrev everyR (many : Int) : List Int := rangeKs 1 ((2 : Int) ^ many.toNat - 1).toNat
theorem LL.one {nw : Led} {a : Addr} {us : List Value} {n : Nat} {xs : List Int} (h1 : (a, listOf us.toArray n) ∈ nw) (i1 : IntsAre us xs) : LL nw [.ref a] [xs] := .cons h1 i1 .nil
theorem LL.two {nw : Led} {a b : Addr} {us vs : List Value} {n k : Nat} {xs ys : List Int} (h1 : (a, listOf us.toArray n) ∈ nw) (i1 : IntsAre us xs) (h2 : (b, listOf vs.toArray k) ∈ nw) (i2 : IntsAre vs ys) : LL nw [.ref a, .ref b] [xs, ys] := .cons h1 i1 (.cons h2 i2 .nil)
theorem LL.pick {vs : List Value} {xss : List (List Int)} (h : LL nw vs xss) (lo hi : Option Int) : LL nw (kms_pick vs lo hi) (pickI xss lo hi) := by
  unfold kms_pick pickI
  rw [h.length]
  exact (h.drop _).take _
theorem slice_LL {l : Addr} {value slice : PySem.Expr} {us : List Value} {xss : List (List Int)} {n : Nat} {kl : Led} {vl vu : Value} {lo hi : Option Int} {Q : Value → Shared → Prop} (F : Fr h₀ L s.heap m) (N : News h₀ L s.heap nw) (hm : (l, listOf us.toArray n) ∈ nw) (pl : IsPart vl lo) (pu : IsPart vu hi) (ll : LL kl us xss)
    (hz : xss.length ≤ 1000)
    (hq : ∀ D zs h', Fr h₀ L h' m → News h₀ L h' ((D, listOf zs.toArray 0) :: nw) → (∀ p ∈ nw, p.1 < D) → LL kl zs (pickI xss lo hi) → Q (.ref D) { s with heap := h' })
    (hs : subscripted slice false (.ref l) (.ref s.heap.objs.size) = operate [.ref s.heap.objs.size, .ref l] (getItem (.ref l) (.ref s.heap.objs.size))) (ht : ∀ r, letTemporaryGo value (.ref l) r = pure ()) :
    wpAny (model prog w) A (subscriptTail value slice (.ref l) (.ref s.heap.objs.size)) Q E { s with heap := s.heap.push { cls := .type "slice", data := .fields #[vl, vu, .none] } } := by
  refine kms_slice_lit F N (isList_of N hm) pl pu rfl (fun D h' F' N' l1 => hq D _ h' F' N' l1 ?_) hs ht ?_
  · exact ll.pick lo hi
  · rw [sizeLine_eq, List.size_toArray, ll.length]
    omega
end
/-- what the law asks of the first answers -/
abbrev ans1R (way many : Int) : List (List Int) × List Int := askedN (everyR many) way many ((mudOf (figF way many) many).length + 1)
abbrev Ans1 (way many : Int) : Prop :=
  pickI (ans1R way many).1 none (some (-2)) = List.replicate (((mudOf (figF way many) many).length : Int) - 1).toNat [] ∧ pickI (ans1R way many).1 (some (-2)) none = [mudOf (figF way many) many, rangeKs 0 (many - 0).toNat] ∧ (ans1R way many).2 = [way] ∧ (ans1R way many).1.length ≤ 1000
theorem ans1_all : ∀ m : Fin 3, ∀ x : Fin 16, 1 ≤ x.val → x.val < 2 ^ (m.val + 2) → Ans1 (x.val : Int) ((m.val : Int) + 2) := by decide +kernel
end Mine
namespace Mine
theorem ans1_is {way many times : Int} {mu ev os : List Int} {xss : List (List Int)} (h2 : 2 ≤ many ∧ many ≤ 4) (hy : 1 ≤ way ∧ way < 16 ∧ way < 2 ^ many.toNat) (hev : ev = rangeKs 1 ((2 : Int) ^ many.toNat - 1).toNat) (hmu : Is mu (mudOf (figF way many) many)) (ht : Is times ((mu.length : Nat) + 1))
    (hx : Is xss (askedN ev way many times.toNat).1) (ho : Is os (askedN ev way many times.toNat).2) :
    pickI xss none (some (-2)) = List.replicate ((mu.length : Int) - 1).toNat [] ∧ pickI xss (some (-2)) none = [mu, rangeKs 0 (many - 0).toNat] ∧ os = [way] ∧ xss.length ≤ 1000 := by
  have et : times.toNat = mu.length + 1 := by have := ht.eq; omega
  have hx := hx.eq
  have ho := ho.eq
  obtain ⟨m, x, rfl, rfl, hx1, hx2⟩ := pow_le h2 hy
  have h := ans1_all m x hx1 hx2
  rw [hx, ho, et, hev]
  unfold Ans1 at h
  rw [hmu.eq]
  exact h
end Mine

open PySem.Calls
namespace Mine
/-- the end of a turn of a loop whose target is a cell -/
def CellEnd {σ : Type} (h₀ : Heap) (L : Addr) (own : Led) (Led' : σ → Led) (stored : List Str) (m₀ : Str → Option Value) (P : σ → Prop) (s₁ s₂ : Shared) : Prop :=
  ∃ (c : σ) (h' : Heap) (tk : Nat) (m' : Str → Option Value), s₂ = { s₁ with heap := h', toks := tk } ∧ Fr h₀ L h' m' ∧ News h₀ L h' (Led' c ++ own) ∧ (∀ p ∈ Led' c, ∀ q ∈ own, p.1 ≠ q.1) ∧ (∀ z, stored.contains z = false → m' z = m₀ z) ∧ P c
def CellPost {σ : Type} (h₀ : Heap) (L : Addr) (own : Led) (Led' : σ → Led) (stored : List Str) (m₀ : Str → Option Value) (P : σ → Prop) (s₁ : Shared) (Q : Flow → Shared → Prop) (f : Flow) (s₂ : Shared) : Prop :=
  match f with
  | .ret v => Q (.ret v) s₂
  | .brk => Q .next s₂
  | _ => CellEnd h₀ L own Led' stored m₀ P s₁ s₂
/-- what a loop over an iterator asks, target stored by its own rule -/
def LoopAtC (prog : Program) (w : World) (A : Around) (env : Env) (x : Str) (px : Pos) (body : List Stmt) (Q : Flow → Shared → Prop) (E : Value → Shared → Prop) (it : Value) (s₂ : Shared) : Prop :=
  codeAny (model prog w) A (.forLoop (.Name x px) it body [] env) (fun r s' => match r with | .ok f => Q f s' | .error e => cameBackBy (model prog w) A env E e s') s₂
theorem For_cell {prog : Program} {w : World} {A : Around} {E : Value → Shared → Prop} {s : Shared} {env : Env} {x : Str} {px pos : Pos} {iter : Expr} {body : List Stmt} {Q : Flow → Shared → Prop}
    (h : wpAny (model prog w) A (eval iter env) (fun xv s₁ => wpAny (model prog w) A (pyIter xv) (fun it s₂ => LoopAtC prog w A env x px body Q E it s₂) E s₁) E s)
    (hs : ∀ x, foldedSetIterable iter env x = pure x := by intro _; rfl) : wpAny (model prog w) A (exec (.For (.Name x px) iter body [] pos) env) Q E s := wpAny_For h hs
theorem cell_range {prog : Program} {w : World} {A : Around} {E : Value → Shared → Prop} {s : Shared} {env : Env} {h₀ : Heap} {x : Str} {px : Pos} {body : List Stmt} {Q : Flow → Shared → Prop}
    {σ : Type} {r : Addr} {a₀ b₀ : Int} {t₀ u₀ v₀ : Tok} {n : Nat} {m₀ : Str → Option Value} (Led' : σ → Led) (stored : List Str) (P : Nat → σ → Prop) (c₀ : σ)
    (hh : A.handled = none) (hr : IsRange s.heap r a₀ b₀ 1 t₀ u₀ v₀) (hsmall : Builtin.Range.small a₀ b₀ 1 = true) (hn : Builtin.Range.rangeSize a₀ b₀ 1 = (n : Int)) (F : Fr h₀ env.locals s.heap m₀) (N : News h₀ env.locals s.heap (Led' c₀)) (hp : P 0 c₀)
    (hE : PassesOwn (model prog w) A env E)
    (turn : ∀ (c : σ) (i : Nat) t (u : Str → Option Value) h tk own, i < n → (∀ p ∈ Led' c, ∀ q ∈ own, p.1 ≠ q.1) → P i c →
      Fr h₀ env.locals h (fun z => if stored.contains z then u z else m₀ z) → News h₀ env.locals h (Led' c ++ own) →
      wpAny (model prog w) A (storeName env x (.int (a₀ + (i : Int)) t)) (fun _ s₂ => wpAny (model prog w) A (execs body env) (CellPost h₀ env.locals own Led' stored m₀ (P (i + 1)) { s with heap := h, toks := tk } Q) E s₂) E { s with heap := h, toks := tk })
    (done : ∀ (c : σ) (u : Str → Option Value) h tk, P n c → Fr h₀ env.locals h (fun z => if stored.contains z then u z else m₀ z) → News h₀ env.locals h (Led' c) → Q .next { s with heap := h, toks := tk }) :
    wpAny (model prog w) A (pyIter (.ref r)) (fun it s₂ => LoopAtC prog w A env x px body Q E it s₂) E s := by
  refine wpAny_pyIter_range hr hsmall ?_
  have W : Walks prog w A s.heap.objs.size [s.heap.objs.size] [s.heap.objs.size] n (fun i v => i < n ∧ ∃ t, v = .int (a₀ + i * 1) t)
      (fun i h => IsRangeIter h s.heap.objs.size (a₀ + (i : Nat) * 1) ((n : Int) - (i : Nat)) 1) := (Walks.range hh _ a₀ 1 n).bound
  have hI0 : h₀.get? s.heap.objs.size = none := next_is_new F
  have hIL : s.heap.objs.size ≠ env.locals := fun e => absurd F.ns.lt (e ▸ Nat.lt_irrefl _)
  have frm : ∀ {h : Heap} {m : Str → Option Value}, Fr h₀ env.locals h m → (∀ z, stored.contains z = false → m z = m₀ z) → Fr h₀ env.locals h (fun z => if stored.contains z then m z else m₀ z) := by
    intro h m F' hm
    have e : (fun z => if stored.contains z then m z else m₀ z) = m := by
      funext z
      cases hz : stored.contains z with
      | true => rfl
      | false => rw [hm z hz]; rfl
    rw [e]
    exact F'
  refine codeAny_forLoop
    (fun k s' => ∃ h' tk m' c i, s' = { s with heap := h', toks := tk } ∧ IsRangeIter h' s.heap.objs.size (a₀ + (i : Nat) * 1) ((n : Int) - (i : Nat)) 1 ∧ Fr h₀ env.locals h' m' ∧ News h₀ env.locals h' (Led' c) ∧ (∀ p ∈ Led' c, p.1 ≠ s.heap.objs.size) ∧ (∀ z, stored.contains z = false → m' z = m₀ z) ∧ P i c ∧ i ≤ n ∧ k = n + 1 - i) ?_ (n + 1)
    ⟨_, s.toks, m₀, c₀, 0, rfl, (by show IsRangeIter _ _ _ _ _; rw [hn]; simpa using Heap.get?_push_size _ rfl), F.push _, (fun p hp => ⟨Heap.get?_push_of_some _ (N p hp).1, (N p hp).2⟩), (fun p hp e => absurd (Heap.lt_size (N p hp).1) (e ▸ Nat.lt_irrefl _)), (fun _ _ => rfl), hp, Nat.zero_le _, rfl⟩
  rintro k s' ⟨h', tk, m', c, i, rfl, hst', F', N', hnw', hm', hJ, hi, rfl⟩
  have old : ∀ b o, h₀.get? b = some o → b ∉ [s.heap.objs.size] := fun b o e hb => by rw [List.mem_singleton.mp hb, hI0] at e; cases e
  have next : ∀ h₁ : Heap, (∀ b o, b ∉ [s.heap.objs.size] → h'.get? b = some o → h₁.get? b = some o) → Fr h₀ env.locals h₁ m' ∧ News h₀ env.locals h₁ (Led' c) := fun h₁ hk₁ =>
    ⟨⟨F'.ns.at' fun o e => hk₁ _ o (fun hm => hIL (List.mem_singleton.mp hm).symm) e, fun b o e => hk₁ b o (old b o e) (F'.keep b o e), F'.above⟩, fun p hp => ⟨hk₁ _ _ (fun hm => hnw' p hp (List.mem_singleton.mp hm)) (N' p hp).1, (N' p hp).2⟩⟩
  by_cases hlt : i < n
  · refine W.item i _ _ _ hlt hst' fun v h₁ tk₁ hP hst₁ hk₁ => ?_
    obtain ⟨F₁, N₁⟩ := next h₁ hk₁
    obtain ⟨_, t, rfl⟩ := hP
    have e1 : a₀ + (i : Int) * 1 = a₀ + (i : Int) := by omega
    rw [e1]
    obtain ⟨oI, hoI, hoE⟩ : ∃ o, h₁.get? s.heap.objs.size = some o ∧ (∀ h : Heap, h.get? s.heap.objs.size = some o → IsRangeIter h s.heap.objs.size (a₀ + ((i + 1 : Nat) : Nat) * 1) ((n : Int) - ((i + 1 : Nat) : Nat)) 1) := ⟨_, hst₁, fun h e => e⟩
    have NI : News h₀ env.locals h₁ (Led' c ++ [(s.heap.objs.size, oI)]) := by
      intro p hp
      rcases List.mem_append.mp hp with hp | hp
      · exact N₁ p hp
      · rw [List.mem_singleton.mp hp]
        exact ⟨hoI, hIL, hI0⟩
    have hap : ∀ p ∈ Led' c, ∀ q ∈ [(s.heap.objs.size, oI)], p.1 ≠ q.1 := fun p hp q hq => by
      rw [List.mem_singleton.mp hq]
      exact hnw' p hp
    refine wpAny_assign_Name (wpAny_passesOwn hE (wpAny_mono (turn c i t m' h₁ tk₁ _ hlt hap hJ (frm F₁ hm') NI) (fun _ s₂ h₂ => wpAny_passesOwn hE (wpAny_mono h₂ (fun f s₃ h₃ => ?_) fun _ _ e => e)) fun _ _ e => e))
    have fin : CellEnd h₀ env.locals [(s.heap.objs.size, oI)] Led' stored m₀ (P (i + 1)) { s with heap := h₁, toks := tk₁ } s₃ → ∃ m, m < n + 1 - i ∧ ∃ h' tk m' c i, s₃ = { s with heap := h', toks := tk } ∧ IsRangeIter h' s.heap.objs.size (a₀ + (i : Nat) * 1) ((n : Int) - (i : Nat)) 1 ∧ Fr h₀ env.locals h' m' ∧ News h₀ env.locals h' (Led' c) ∧ (∀ p ∈ Led' c, p.1 ≠ s.heap.objs.size) ∧ (∀ z, stored.contains z = false → m' z = m₀ z) ∧ P i c ∧ i ≤ n ∧ m = n + 1 - i := by
      rintro ⟨c', h₃', tk₃, m₂, rfl, F₃, N₃, hap₃, hm₃, hp₃⟩
      exact ⟨n + 1 - (i + 1), by omega, h₃', tk₃, m₂, c', i + 1, rfl, hoE _ (N₃ _ (List.mem_append_right _ (List.mem_singleton.mpr rfl))).1, F₃, fun p hp => N₃ p (List.mem_append_left _ hp), fun p hp => hap₃ p hp _ (List.mem_singleton.mpr rfl), hm₃, hp₃, hlt, rfl⟩
    cases f with
    | ret v => exact h₃
    | brk => exact h₃
    | next => exact fin h₃
    | cont => exact fin h₃
  · have hin : i = n := by omega
    subst hin
    refine W.done _ _ _ hst' fun h₁ tk₁ hk₁ => wpAny_execs_nil ?_
    obtain ⟨F₁, N₁⟩ := next h₁ hk₁
    exact done c m' h₁ tk₁ hJ (frm F₁ hm') N₁
end Mine

namespace Mine
abbrev tLed (e m r : Addr × Obj) (tc : Addr) (c3 c2 c1 c t16 t23 : Addr × Obj) (o : Obj) : Led := [e, m, r, (tc, o), c3, c2, c1, c, t16, t23]
theorem led_times {h₀ h : Heap} {L : Addr} {a1 a2 a3 a4 a5 a6 a7 a8 a9 a10 a11 e m r t c3 c2 c1 c t16 t23 : Addr × Obj} {kl : Led} (N : News h₀ L h (a1 :: a2 :: a3 :: a4 :: a5 :: a6 :: a7 :: a8 :: a9 :: a10 :: a11 :: e :: m :: r :: t :: c3 :: c2 :: c1 :: c :: t16 :: t23 :: kl)) :
    News h₀ L h [e, m, r, t, c3, c2, c1, c, t16, t23] := fun p hp => N p (.tail _ (.tail _ (.tail _ (.tail _ (.tail _ (.tail _ (.tail _ (.tail _ (.tail _ (.tail _ (.tail _ (List.mem_append_left kl hp))))))))))))
theorem upd_times {e m r c3 c2 c1 c t16 t23 : Addr × Obj} {tc : Addr} {o : Obj} {own : Led} (h1 : @Ne Nat e.1 tc) (h2 : @Ne Nat m.1 tc) (h3 : @Ne Nat r.1 tc) (h4 : @Ne Nat c3.1 tc) (h5 : @Ne Nat c2.1 tc) (h6 : @Ne Nat c1.1 tc) (h7 : @Ne Nat c.1 tc) (h8 : @Ne Nat t16.1 tc) (h9 : @Ne Nat t23.1 tc)
    (ha : ∀ p ∈ tLed e m r tc c3 c2 c1 c t16 t23 o, ∀ q ∈ own, p.1 ≠ q.1) : UpdF tc o (e :: m :: r :: (tc, o) :: c3 :: c2 :: c1 :: c :: t16 :: t23 :: own) (fun o' => e :: m :: r :: (tc, o') :: c3 :: c2 :: c1 :: c :: t16 :: t23 :: own) := by
  refine .tail h1 (.tail h2 (.tail h3 (.head ?_)))
  intro p hp
  simp only [List.mem_cons] at hp
  rcases hp with h | h | h | h | h | h | h
  · rw [h]; exact h4
  · rw [h]; exact h5
  · rw [h]; exact h6
  · rw [h]; exact h7
  · rw [h]; exact h8
  · rw [h]; exact h9
  · exact Ne.symm (ha (tc, o) (.tail _ (.tail _ (.tail _ (.head _)))) p h)
end Mine

set_option maxHeartbeats 8000000
namespace Mine
/-- as RetInt2, and all that the ledger does not name is left as it was -/
def RetFig (ps : Array Value) (nw : Led) (v : List Int) (h₀ : Heap) (L : Addr) (m : Str → Option Value) (s : Shared) (Q : Value → Shared → Prop) : Prop :=
  ∀ (r c' : Addr) (oc : Obj) (vs2 : Array Value) (t : Tok) (y : List Int) (vs : List Value) (n : Nat) (h' : Heap) (tk' : Nat), Is y v → IntsAre vs y → Fr h₀ L h' m → News h₀ L h' ((r, listOf vs.toArray n) :: (c', oc) :: (16, tabObj #[rawInt 5, rawInt 4, .ref c']) :: nw) →
    oc.data = .fields vs2 → vs2[1]? = some (.str (Str.ofString "_int2digits.<locals>.inner") t) → AllLt r nw → (@LT.lt Nat _ 16 r ∧ @Ne Nat c' 16 ∧ @Ne Nat c' r) → ((ps = #[] ∧ AllLt c' nw) ∨ ps = #[rawInt 5, rawInt 4, .ref c']) →
    (∀ b o, s.heap.get? b = some o → b ∉ ((16, tabObj ps) :: nw).map (·.1) → h'.get? b = some o) → Q (.ref r) { s with heap := h', toks := tk' }
local macro_rules | `(tactic| k_all) => `(tactic| first | assumption | exact ne_allLt (by assumption) (by omega))
theorem fig_endE {ps : Array Value} {nw : Led} {v y : List Int} {h₀ g : Heap} {L L' : Addr} {m m' : Str → Option Value} {s : Shared} {Q : Value → Shared → Prop} {D c' : Addr} {oc : Obj} {a1 a2 a3 a4 : Addr × Obj} {vs2 : Array Value} {t : Tok} {vs : List Value} {n : Nat} {h' : Heap} {tk' : Nat}
    (hret : RetFig ps nw v h₀ L m s Q) (GS : GSub s.heap g (((16, tabObj ps) :: nw).map (·.1))) (Fg : Fr g L' h' m') (F : Fr h₀ L h' m) (N : News h₀ L h' ((D, listOf vs.toArray n) :: a1 :: a2 :: a3 :: a4 :: (c', oc) :: (16, tabObj #[rawInt 5, rawInt 4, .ref c']) :: nw)) (hi : IntsAre vs y) (e : Is y v)
    (hd : oc.data = .fields vs2) (hv : vs2[1]? = some (.str (Str.ofString "_int2digits.<locals>.inner") t)) (hl : AllLt D nw) (h16 : @LT.lt Nat _ 16 D) (hc : @Ne Nat c' 16) (hcD : @Ne Nat c' D) (hps : (ps = #[] ∧ AllLt c' nw) ∨ ps = #[rawInt 5, rawInt 4, .ref c']) : Q (.ref D) { s with heap := h', toks := tk' } := by
  refine hret D c' oc vs2 t y vs n h' tk' e hi F (fun p hp => N p ?_) hd hv hl ⟨h16, hc, hcD⟩ hps (fun b o e hb => Fg.keep b o (GS b o e hb))
  simp only [List.mem_cons] at hp ⊢
  rcases hp with h | h | h | h
  · exact .inl h
  · exact .inr (.inr (.inr (.inr (.inr (.inl h)))))
  · exact .inr (.inr (.inr (.inr (.inr (.inr (.inl h))))))
  · exact .inr (.inr (.inr (.inr (.inr (.inr (.inr h))))))
theorem fig_specE {w : World} {p : Program} {loose : List Str} {mean : ExcName → Option Value} {mg mb : Str → Option Value} {nw : Led} {tx t1 : Tok} {x many : Int} {ps : Array Value}
    (hst : TabSt nw 5 4 (Str.ofString "_int2digits.<locals>.inner") ps) (hn16 : ∀ p ∈ nw, p.1 ≠ 16) (hx : 1 ≤ x ∧ x < 16) (h2 : 2 ≤ many ∧ many ≤ 4) :
    Clm w p loose mean mg mb 53 50 240 ((16, tabObj ps) :: nw) [.int x tx, .int many t1] (RetFig ps nw (figF x many)) := by
  unfold Clm
  intro dp un gd cn cs a ccd cl outer A₀ base h₀ L m s Q E B F X N T hk hd hu hret
  k_with_none
  w_top off
  k_with "call ref" => (k_dflt (refine' Clm.use (by k_asm) (by k_asm) (by k_asm) (by k_asm) (by k_asm) rfl (int_spec (by assumption) (by assumption) (by assumption)) (by ktr_room) (by ktr_units) ?_); unfold RetInt2; intro r9 c9 oc9 vs29 t9 y9 vs9 n9 h9 tk9 e9 i9 F9 N9 d19 d29 l9 f9 hps9; obtain ⟨f91, f92, f93⟩ := f9; (have hlen9 : y9.length = _ := congrArg List.length e9.eq); (try dsimp only); (try k_fold))
  refine wpAny_call ?_
  k_dflt (refine' code_defG (binds := [(Str.ofString "way", .int x tx), (Str.ofString "many", .int many t1)]) B F X N T rfl rfl hk ?k6 ?k7 ?k8 ?k9 ?kB ?_ ?c2 ?c3 ?c4 ?c5; (case k6 => k_is); (case k7 => k_is); (case k8 => ktr_room); (case k9 => exact BindsTo.of_eq rfl); (case c5 => decide); (case kB => exact locs rfl); (case c2 => exact rfl); (case c3 => exact rfl); (case c4 => exact rfl))
  intro g' L' h' FG' F' N' B' X' T' GS'
  (try dsimp only); (try k_lift B'); (try k_fold)
  have hb2 := int2_len hx.1 hx.2
  k_steps
  all_goals ((with_unfolding_all (exact fig_endE hret GS' (by assumption) (by assumption) (by assumption) (by assumption) (fig_is (by assumption)) (by assumption) (by assumption) (allLt_mono l9 (by omega)) (by omega) (by omega) (by omega) (by assumption))))
end Mine

namespace Mine
theorem led_hit {h₀ h : Heap} {L : Addr} {a1 a2 a3 a4 a5 a6 a7 a8 a9 a10 t16 : Addr × Obj} {rest : Led} (N : News h₀ L h (a1 :: a2 :: a3 :: a4 :: a5 :: a6 :: a7 :: a8 :: a9 :: a10 :: t16 :: rest)) :
    News h₀ L h (t16 :: a1 :: a2 :: a3 :: a4 :: a5 :: a6 :: a7 :: a8 :: a9 :: a10 :: rest) := by
  intro p hp
  refine N p ?_
  simp only [List.mem_cons] at hp ⊢
  rcases hp with h | h | h | h | h | h | h | h | h | h | h | h <;> simp only [h, true_or, or_true]
theorem led_unhit {h₀ h : Heap} {L : Addr} {r c a1 a2 a3 a4 a5 a6 a7 a8 a9 a10 t16 : Addr × Obj} {rest : Led} (N : News h₀ L h (r :: c :: t16 :: a1 :: a2 :: a3 :: a4 :: a5 :: a6 :: a7 :: a8 :: a9 :: a10 :: rest)) :
    News h₀ L h (r :: a1 :: a2 :: a3 :: a4 :: a5 :: a6 :: a7 :: a8 :: a9 :: a10 :: t16 :: rest) := by
  intro p hp
  refine N p ?_
  simp only [List.mem_cons] at hp ⊢
  rcases hp with h | h | h | h | h | h | h | h | h | h | h | h | h <;> simp only [h, true_or, or_true]
theorem ne16 {a1 a2 a3 a4 a5 a6 a7 a8 a9 a10 t23 : Addr × Obj} {own kl : Led} {A : Addr} (h1 : @Ne Nat a1.1 16) (h2 : @Ne Nat a2.1 16) (h3 : @Ne Nat a3.1 16) (h4 : @Ne Nat a4.1 16) (h5 : @Ne Nat a5.1 16) (h6 : @Ne Nat a6.1 16) (h7 : @Ne Nat a7.1 16) (h8 : @Ne Nat a8.1 16) (h9 : @Ne Nat a9.1 16) (h10 : @Ne Nat a10.1 16) (h23 : @Ne Nat t23.1 16)
    (ho : ∀ q ∈ own, (16 : Addr) ≠ q.1) (hk : ∀ p ∈ kl, A < p.1) (hA : @LT.lt Nat _ 16 A) : ∀ p ∈ a1 :: a2 :: a3 :: a4 :: a5 :: a6 :: a7 :: a8 :: a9 :: a10 :: t23 :: (own ++ kl), p.1 ≠ 16 := by
  intro p hp
  simp only [List.mem_cons, List.mem_append] at hp
  rcases hp with h | h | h | h | h | h | h | h | h | h | h | h | h
  · rw [h]; exact h1
  · rw [h]; exact h2
  · rw [h]; exact h3
  · rw [h]; exact h4
  · rw [h]; exact h5
  · rw [h]; exact h6
  · rw [h]; exact h7
  · rw [h]; exact h8
  · rw [h]; exact h9
  · rw [h]; exact h10
  · rw [h]; exact h23
  · exact Ne.symm (ho p h)
  · exact Nat.ne_of_gt (Nat.lt_trans hA (hk p h))
theorem own16 {e m r : Addr × Obj} {tc : Addr} {c3 c2 c1 c t16 t23 : Addr × Obj} {o : Obj} {own : Led} (ha : ∀ p ∈ tLed e m r tc c3 c2 c1 c t16 t23 o, ∀ q ∈ own, p.1 ≠ q.1) : ∀ q ∈ own, t16.1 ≠ q.1 := ha t16 (.tail _ (.tail _ (.tail _ (.tail _ (.tail _ (.tail _ (.tail _ (.tail _ (.head _)))))))))
theorem num_in {many k : Int} {ev : List Int} (hp : (4 : Int) ≤ 2 ^ many.toNat ∧ (2 : Int) ^ many.toNat ≤ 16) (e : ev = rangeKs 1 ((2 : Int) ^ many.toNat - 1).toNat) (hk : k ∈ ev) : 1 ≤ k ∧ k < 16 := by
  rw [e] at hk
  unfold rangeKs at hk
  obtain ⟨i, hi, rfl⟩ := List.mem_map.mp hk
  have := List.mem_range.mp hi
  omega
theorem hit_is {A : Prop} {x y : Value} {c c' : Addr} (h : ((#[x, y, .ref c] : Array Value) = #[] ∧ A) ∨ (#[x, y, .ref c] : Array Value) = #[x, y, .ref c']) : c = c' := by
  rcases h with h | h
  · have := congrArg Array.size h.1
    simp at this
  · simp at h
    exact h
theorem elt_fig {s₂ H H' h₀ : Heap} {L : Addr} {a b : Addr × Obj} {t16 : Addr × Obj} {nw : Led} (E : InElt s₂ H) (N : News h₀ L H (t16 :: nw)) (N' : News h₀ L H' (a :: b :: t16 :: nw)) (K : ∀ b o, H.get? b = some o → b ∉ (t16 :: nw).map (·.1) → H'.get? b = some o) : InElt s₂ H' := fun b o e => by
  have e1 := E b o e
  by_cases hb : b ∈ (t16 :: nw).map (·.1)
  · obtain ⟨p, hp, rfl⟩ := List.mem_map.mp hb
    have h1 := (N p hp).1
    rw [e1] at h1
    cases h1
    exact (N' p (.tail _ (.tail _ hp))).1
  · exact K b o e1 hb
theorem tab_hit {nw : Led} {c oc : _} {vs : Array Value} {t : Tok} {line col : Nat} {qual : Str} (hm : (c, oc) ∈ nw) (hd : oc.data = .fields vs) (hv : vs[1]? = some (.str qual t)) : TabSt nw line col qual #[rawInt line, rawInt col, .ref c] := .inr ⟨c, oc, vs, t, rfl, hm, hd, hv⟩
theorem sum_elt {prog : Program} {w : World} {A : Around} {E : Value → Shared → Prop} {s : Shared} {h₀ s₂ : Heap} {L l : Addr} {m : Str → Option Value} {nw : Led} {vs : List Value} {ns : List Int} {n : Nat} {Q : Value → Shared → Prop} (hh : A.handled = none) (F : Fr h₀ L s.heap m) (N : News h₀ L s.heap ((l, listOf vs.toArray n) :: nw)) (hi : IntsAre vs ns) (K : InElt s₂ s.heap)
    (h : ∀ h' tk t', Fr h₀ L h' m → News h₀ L h' nw → InElt s₂ h' → Q (.int ns.sum t') { s with heap := h', toks := tk }) :
    wpAny (model prog w) A (call (.builtin "sum") [.ref l]) Q E s := by
  have hl : s.heap.IsList l vs.toArray := isList_of N (.head _)
  obtain ⟨xs, hx⟩ := hi.allInts.items
  have hn : numsOf vs.toArray.toList = ns := by rw [show vs.toArray.toList = vs from rfl, hi.numsOf]
  rw [hx] at hl hn
  rw [nums_intItems] at hn
  refine sum_intListG hh hl fun h' tk t' hk => ?_
  have := h h' tk t' (F.keeps hk) (News.grown (fun p hp => N p (.tail _ hp)) hk) (fun b o e => hk b o (K b o e))
  rw [preSum_eq, List.take_of_length_le (by simp), hn]
  exact this
theorem cell_same {v1 : Option Value} {u rest : Str → Option Value} : ∀ z : Str, [Str.ofString "left"].contains z = false → (if z = Str.ofString "left" then v1 else if [Str.ofString "left"].contains z = true then u z else rest z) = rest z := by
  intro z h3
  have h4 : z ≠ Str.ofString "left" := by
    intro e
    rw [e] at h3
    simp at h3
  rw [if_neg h4, h3]
  rfl
theorem cell_end {h₀ h' : Heap} {L : Addr} {x1 x2 x3 e m r : Addr × Obj} {tc : Addr} {c3 c2 c1 c t16 t23 : Addr × Obj} {o o0 : Obj} {own kl : Led} {v : Option Value} {m' m₀ : Str → Option Value} {i : Nat} {s₁ : Shared} {tk : Nat}
    (F : Fr h₀ L h' m') (N : News h₀ L h' (x1 :: x2 :: x3 :: e :: m :: r :: (tc, o) :: c3 :: c2 :: c1 :: c :: t16 :: t23 :: (own ++ kl))) (hd : o.data = .cell v) (ha : ∀ p ∈ tLed e m r tc c3 c2 c1 c t16 t23 o0, ∀ q ∈ own, p.1 ≠ q.1)
    (hm : ∀ z, [Str.ofString "left"].contains z = false → m' z = m₀ z) :
    CellEnd h₀ L own (tLed e m r tc c3 c2 c1 c t16 t23) [Str.ofString "left"] m₀ ((fun _ o => ∃ v, o.data = Data.cell v : Nat → Obj → Prop) i) s₁ { s₁ with heap := h', toks := tk } := by
  refine ⟨o, h', tk, m', rfl, F, fun p hp => N p ?_, fun p hp q hq => ?_, hm, v, hd⟩
  · refine .tail _ (.tail _ (.tail _ ?_))
    rcases List.mem_append.mp hp with hp | hp
    · exact List.mem_append_left (own ++ kl) hp
    · exact List.mem_append_right (tLed e m r tc c3 c2 c1 c t16 t23 o) (List.mem_append_left kl hp)
  · simp only [tLed, List.mem_cons, List.not_mem_nil, or_false] at hp
    rcases hp with h | h | h | h | h | h | h | h | h | h
    · exact ha p (by simp [tLed, h]) q hq
    · exact ha p (by simp [tLed, h]) q hq
    · exact ha p (by simp [tLed, h]) q hq
    · rw [h]; exact ha (tc, o0) (by simp [tLed]) q hq
    · exact ha p (by simp [tLed, h]) q hq
    · exact ha p (by simp [tLed, h]) q hq
    · exact ha p (by simp [tLed, h]) q hq
    · exact ha p (by simp [tLed, h]) q hq
    · exact ha p (by simp [tLed, h]) q hq
    · exact ha p (by simp [tLed, h]) q hq
/-- what the law asks of the later answers -/
abbrev Ans2 (way many : Int) (t : Nat) : Prop := 1 + t < (mudOf (figF way many) many).length →
  (askedN (everyR many) way many (1 + t)).2 = List.map (fun a => a) (List.filter (fun k => decide (1 + (t : Int) < (figF k many).sum)) (everyR many))
theorem ans2_all : ∀ t : Fin 4, ∀ m : Fin 3, ∀ x : Fin 16, 1 ≤ x.val → x.val < 2 ^ (m.val + 2) → Ans2 (x.val : Int) ((m.val : Int) + 2) t.val := by decide +kernel
theorem ans2_is {way many : Int} {t : Nat} {mu ev os : List Int} (h2 : 2 ≤ many ∧ many ≤ 4) (hy : 1 ≤ way ∧ way < 16 ∧ way < 2 ^ many.toNat) (hev : ev = rangeKs 1 ((2 : Int) ^ many.toNat - 1).toNat) (hmu : Is mu (mudOf (figF way many) many)) (hl : 1 ≤ mu.length ∧ mu.length ≤ 4) (ht : t < ((mu.length : Int) - 1).toNat)
    (ho : Is os (askedN ev way many (1 + (t : Int)).toNat).2) : os = List.map (fun a => a) (List.filter (fun k => decide (1 + (t : Int) < (figF k many).sum)) ev) := by
  have et : (1 + (t : Int)).toNat = 1 + t := by omega
  have ho := ho.eq
  obtain ⟨m, x, rfl, rfl, hx1, hx2⟩ := pow_le h2 hy
  have h := ans2_all ⟨t, by omega⟩ m x hx1 hx2
  rw [ho, et, hev]
  unfold Ans2 at h
  refine h ?_
  rw [← hmu.eq]
  show 1 + t < mu.length
  omega
theorem many1_in {y many : Int} (e : Is y (many + 1)) (h : 2 ≤ many ∧ many ≤ 4) : 3 ≤ y ∧ y ≤ 5 := by
  have e := e.eq
  omega
theorem rk_len {many : Int} (hp : (4 : Int) ≤ 2 ^ many.toNat ∧ (2 : Int) ^ many.toNat ≤ 16) : (rangeKs 0 ((2 : Int) ^ many.toNat - 0).toNat).length < 100 := by
  rw [rangeKs_length]
  omega
abbrev allR (many : Int) : List Int := rangeKs 0 ((2 : Int) ^ many.toNat - 0).toNat
/-- nobody is told: none ever knows -/
theorem none_knows : ∀ m : Fin 3, ∀ x : Fin 16, 1 ≤ x.val → x.val < 2 ^ (m.val + 2) → knowF (allR ((m.val : Int) + 2)) (x.val : Int) ((m.val : Int) + 2) = [] := by decide +kernel
theorem none_left : ∀ m : Fin 3, leftAcc (allR ((m.val : Int) + 2)) ((m.val : Int) + 2) [] (allR ((m.val : Int) + 2)) = allR ((m.val : Int) + 2) := by decide +kernel
theorem asked_none {xs : List Int} {way many : Int} (hk : knowF xs way many = []) (hl : leftAcc xs many [] xs = xs) : ∀ i, askedN xs way many i = (List.replicate i [], xs)
  | 0 => rfl
  | i + 1 => by rw [askedN, asked_none hk hl i, hk, hl, List.replicate_succ']
theorem ans3_is {way many : Int} {xss : List (List Int)} (h2 : 2 ≤ many ∧ many ≤ 4) (hy : 1 ≤ way ∧ way < 16 ∧ way < 2 ^ many.toNat) (hx : Is xss (askedN (rangeKs 0 ((2 : Int) ^ many.toNat - 0).toNat) way many (many + 1).toNat).1) : xss = List.replicate (many + 1).toNat [] := by
  obtain ⟨m, x, rfl, rfl, hx1, hx2⟩ := pow_le h2 hy
  rw [hx.eq, asked_none (none_knows m x hx1 hx2) (none_left m)]
/-- one is told of -/
def toldOf (many i : Int) (ev : List Int) : List Int := List.map (fun a => a) (List.filter (fun k => decide ((figF k many).getD i.toNat 0 = 1)) ev)
abbrev ans4I (way many : Int) : Int := (mudOf (figF way many) many).getD (0 : Int).toNat 0
abbrev Ans4 (way many : Int) : Prop := (0 ≤ ans4I way many ∧ ans4I way many < many) ∧ (askedN (toldOf many (ans4I way many) (everyR many)) way many (1 : Int).toNat).1 = [[ans4I way many]]
theorem ans4_all : ∀ m : Fin 3, ∀ x : Fin 16, 1 ≤ x.val → x.val < 2 ^ (m.val + 2) → Ans4 (x.val : Int) ((m.val : Int) + 2) := by decide +kernel
theorem mud0 {way many : Int} {mu : List Int} (h2 : 2 ≤ many ∧ many ≤ 4) (hy : 1 ≤ way ∧ way < 16 ∧ way < 2 ^ many.toNat) (hmu : Is mu (mudOf (figF way many) many)) : 0 ≤ mu.getD (0 : Int).toNat 0 ∧ mu.getD (0 : Int).toNat 0 < many := by
  obtain ⟨m, x, rfl, rfl, hx1, hx2⟩ := pow_le h2 hy
  have h := (ans4_all m x hx1 hx2).1
  rw [hmu.eq]
  exact h
theorem ans4_is {way many : Int} {mu ev : List Int} {xss : List (List Int)} (h2 : 2 ≤ many ∧ many ≤ 4) (hy : 1 ≤ way ∧ way < 16 ∧ way < 2 ^ many.toNat) (hev : ev = rangeKs 1 ((2 : Int) ^ many.toNat - 1).toNat) (hmu : Is mu (mudOf (figF way many) many))
    (hx : Is xss (askedN (List.map (fun a => a) (List.filter (fun k => decide ((figF k many).getD (mu.getD (0 : Int).toNat 0).toNat 0 = 1)) ev)) way many (1 : Int).toNat).1) : xss = [[mu.getD (0 : Int).toNat 0]] := by
  obtain ⟨m, x, rfl, rfl, hx1, hx2⟩ := pow_le h2 hy
  have h := (ans4_all m x hx1 hx2).2
  have hmu := hmu.eq
  rw [hx.eq, hev, hmu]
  exact h
end Mine

namespace Mine
theorem led_told {h₀ h : Heap} {L : Addr} {a1 a2 a3 a4 a5 a6 e m r t c3 c2 c1 c t16 t23 : Addr × Obj} {kl : Led} (N : News h₀ L h (a1 :: a2 :: a3 :: a4 :: a5 :: a6 :: e :: m :: r :: t :: c3 :: c2 :: c1 :: c :: t16 :: t23 :: kl)) :
    News h₀ L h [e, m, r, t, c3, c2, c1, c, t16, t23] := fun p hp => N p (.tail _ (.tail _ (.tail _ (.tail _ (.tail _ (.tail _ (List.mem_append_left kl hp)))))))
theorem led_hit8 {h₀ h : Heap} {L : Addr} {a1 a2 a3 a4 a5 a6 a7 a8 t16 t23 : Addr × Obj} (N : News h₀ L h [a1, a2, a3, a4, a5, a6, a7, a8, t16, t23]) : News h₀ L h [t16, a1, a2, a3, a4, a5, a6, a7, a8, t23] := by
  intro p hp
  refine N p ?_
  simp only [List.mem_cons, List.not_mem_nil, or_false] at hp ⊢
  rcases hp with h | h | h | h | h | h | h | h | h | h <;> simp only [h, true_or, or_true]
theorem led_unhit8 {h₀ h : Heap} {L : Addr} {r c a1 a2 a3 a4 a5 a6 a7 a8 t16 t23 : Addr × Obj} (N : News h₀ L h [r, c, t16, a1, a2, a3, a4, a5, a6, a7, a8, t23]) : News h₀ L h [r, a1, a2, a3, a4, a5, a6, a7, a8, t16, t23] := by
  intro p hp
  refine N p ?_
  simp only [List.mem_cons, List.not_mem_nil, or_false] at hp ⊢
  rcases hp with h | h | h | h | h | h | h | h | h | h | h <;> simp only [h, true_or, or_true]
theorem ne16b {a1 a2 a3 a4 a5 a6 a7 a8 t23 : Addr × Obj} (h1 : @Ne Nat a1.1 16) (h2 : @Ne Nat a2.1 16) (h3 : @Ne Nat a3.1 16) (h4 : @Ne Nat a4.1 16) (h5 : @Ne Nat a5.1 16) (h6 : @Ne Nat a6.1 16) (h7 : @Ne Nat a7.1 16) (h8 : @Ne Nat a8.1 16) (h23 : @Ne Nat t23.1 16) : ∀ p ∈ [a1, a2, a3, a4, a5, a6, a7, a8, t23], p.1 ≠ 16 := by
  intro p hp
  simp only [List.mem_cons, List.not_mem_nil, or_false] at hp
  rcases hp with h | h | h | h | h | h | h | h | h
  · rw [h]; exact h1
  · rw [h]; exact h2
  · rw [h]; exact h3
  · rw [h]; exact h4
  · rw [h]; exact h5
  · rw [h]; exact h6
  · rw [h]; exact h7
  · rw [h]; exact h8
  · rw [h]; exact h23
theorem told_len {many : Int} {ev : List Int} {p : Int → Bool} (hp : (4 : Int) ≤ 2 ^ many.toNat ∧ (2 : Int) ^ many.toNat ≤ 16) (e : ev = rangeKs 1 ((2 : Int) ^ many.toNat - 1).toNat) : (List.map (fun a => a) (List.filter p ev)).length < 100 := by
  have h := ev_len hp e
  rw [List.length_map]
  exact Nat.lt_of_le_of_lt (List.length_filter_le _ _) h
theorem fig_len {k many : Int} (h2 : 2 ≤ many ∧ many ≤ 4) : ((figF k many).length : Int) = many := figF_length rfl h2
theorem mu_fit {mu : List Int} (h : 1 ≤ mu.length ∧ mu.length ≤ 4) : (0 : Int) < (mu.length : Int) := by omega
theorem idx_told {i many : Int} {ds : List Int} (h : 0 ≤ i ∧ i < many) (hl : (ds.length : Int) = many) : i < (ds.length : Int) := by omega
theorem idx_told2 {i many : Int} (h : 0 ≤ i ∧ i < many) (h2 : 2 ≤ many ∧ many ≤ 4) : i < 2 ^ 63 := by omega
end Mine

set_option maxHeartbeats 8000000
namespace Mine
local macro_rules | `(tactic| walk_at "binaryOp Add int int") => `(tactic| (k_here; refine add_is ?_; intro y8 e8; first | (have hb8 := many_in e8) | (have hb8 := way_in e8 (by assumption)) | (have hb8 := times_in e8 (by assumption)) | (have hb8 := many1_in e8 (by assumption); have e8' := e8.eq; subst e8'; clear e8) | skip))
local macro_rules | `(tactic| walk_at "execs cons") => `(tactic| (k_here; (with_reducible refine wpAny_execs_cons ?_); try dsimp only))
local macro_rules | `(tactic| walk_at "subscriptTail Name Name ref int") => `(tactic| (k_here; with_unfolding_all refine' item_anyK ?k1 ?k2 ?k3 ?k4 ?k5 ?_ ?k6; (case k1 => is_list); (case k2 => assumption); (case k3 => assumption); (case k4 => exact idx_in (by assumption) (by assumption) (by assumption)); (case k5 => exact idx_fit (by assumption) (by assumption)); (case k6 => with_unfolding_all rfl); k_whole; intro _))
local macro_rules | `(tactic| walk_at "binaryOp Pow int int") => `(tactic| (k_here; refine pow_b (by assumption) ?_; intro hp8))
local macro_rules | `(tactic| walk_at "exec For Name Call cons nil") => `(tactic| (k_here; (rename Fr _ _ _ _ => lF'); (with_unfolding_all refine' For_invVF lF' ?k1 ?k2 ?_; (case k1 => exact rfl); (case k2 => exact rfl); k_whole)))
local macro_rules | `(tactic| walk_at "pyIter ref") => `(tactic| k_extra "pyIter ref")
local macro_rules | `(tactic| kst_mem) => `(tactic| first | with_reducible assumption | (repeat (first | with_reducible assumption | with_reducible exact List.mem_cons_self | with_reducible apply List.mem_cons_of_mem)))
local macro_rules | `(tactic| l_intsC) => `(tactic| first | with_reducible assumption | exact LL.mono (by with_reducible assumption) (fun p hp => by repeat (first | with_reducible exact hp | with_reducible exact List.mem_append_left _ hp | with_reducible apply List.mem_cons_of_mem)) | exact LL.rep (by kst_mem) _ |  exact LL.one (by kst_mem) (by first | with_reducible assumption | l_ints) | exact LL.two (by kst_mem) (by with_reducible assumption) (by kst_mem) (by with_reducible assumption))
local macro_rules | `(tactic| walk_at "subscriptTail Name Slice ref ref") => `(tactic| (k_here; (rename News _ _ _ _ => nS'); (rename Fr _ _ _ _ => fS'); k_dflt (refine' slice_LL fS' nS' (by kst_mem) (by kmk_part) (by kmk_part) (by with_reducible assumption) (by assumption) ?_ (by with_unfolding_all rfl) (by kmk_pure)); intro D' zs' h' F' N' l1 ll'; (try k_lt l1); (try k_sweep)))
local macro_rules | `(tactic| walk_at "compareOp NotEq ref ref") => `(tactic| (k_here; (rename News _ _ _ _ => nS'); k_dflt (first | refine' ne_ints' nS' (by kst_mem) (by with_reducible assumption) (by kst_mem) (by first | with_reducible assumption | l_ints) (by units_room) ?_ | refine' ne_LL nS' (by kst_mem) (by l_intsC) (by kst_mem) (by l_intsC) (by units_room) ?_)))
local macro_rules | `(tactic| walk_at "binaryOp Mult ref int") => `(tactic| (k_here; (rename News _ _ _ _ => nS'); (rename Fr _ _ _ _ => fS'); k_dflt (refine' KMa.mul fS' nS' (isList_of nS' (by kst_mem)) (by omega) (by omega) (by simp only [List.length_cons, List.length_nil]; omega) rfl ?_); intro D' h' F' N' l1; (try k_lt l1); (try k_sweep)))
local macro_rules | `(tactic| walk_at "compareOp Eq ref ref") => `(tactic| (k_here; (rename News _ _ _ _ => nS'); k_dflt (first | refine' eq_ints' nS' (by kst_mem) (by with_reducible assumption) (by kst_mem) (by first | with_reducible assumption | l_ints) (by units_room) ?_ | refine' eq_LL nS' (by kst_mem) (by l_intsC) (by kst_mem) (by l_intsC) (by units_room) ?_)))
local macro_rules | `(tactic| walk_at "InvEndN") => `(tactic| ((rename News _ _ _ _ => nE'); (rename Fr _ _ _ _ => fE'); (with_unfolding_all (refine' kst_end1 fE' (fun p hp => nE' p hp) ?_ ?_ ?_)); rotate_left; (assumption); (with_unfolding_all exact kst_same0); (exact everyAcc_step (by assumption) (by assumption) (by assumption))))
local macro_rules | `(tactic| walk_at "exec For Name Call cons nil") => `(tactic| (k_here; (with_reducible show wpAny _ _ (exec (Stmt.For (Expr.Name (Str.ofString "times") _) _ _ [] _) _) _ _ _); (rename News _ _ _ _ => nT'); (replace nT' := led_times nT'); refine For_cell ?_))
local macro_rules | `(tactic| walk_at "pyIter ref") => `(tactic| (k_here; ((with_reducible show wpAny _ _ (pyIter (Value.ref _)) (fun _ _ => LoopAtC _ _ _ _ _ _ _ _ _ _ _) _ _); (rename News _ _ _ _ => nT'); (rename Fr _ _ _ _ => fT'); (rename IsRange _ _ _ _ _ _ _ _ => rT'); with_unfolding_all refine' cell_range (tLed _ _ _ _ _ _ _ _ _ _) [Str.ofString "left"] (fun _ o => ∃ v, o.data = Data.cell v) _ rfl rT' (small_one (by omega) (by omega) (by omega) (by omega)) (rangeSize_nat _ _) fT' nT' ⟨_, by assumption⟩ (by passes_own) ?turn ?done; (case' turn => (intro tc' ti' tt' tu' th' tk' own tlt' tap' tcd' kFr kNews; obtain ⟨tcv', tcd'⟩ := tcd'; clear fT' nT'; (simp only [tLed, List.cons_append, List.nil_append] at kNews); (have hMk9 := kstMark); (try k_fold))); (case' done => (intro tc' tu' th' tk' tcd' kFr kNews; obtain ⟨tcv', tcd'⟩ := tcd'; clear fT' nT'; (simp only [tLed] at kNews); (have hMk9 := kstMark); (try k_fold))))))
local macro_rules | `(tactic| walk_at "storeName") => `(tactic| (k_here; (with_reducible show wpAny _ _ (storeName _ (Str.ofString "times") _) _ _ _); (rename News _ _ _ _ => nT'); (rename Fr _ _ _ _ => fT'); with_unfolding_all refine' storeX_C fT' nT' rfl (upd_times (by omega) (by omega) (by omega) (by omega) (by omega) (by omega) (by omega) (by omega) (by omega) (by assumption)) (by assumption) ?_; clear nT' fT'; intro h' o' F' N' d'; (try dsimp only at N'); (try k_sweep)))
local macro_rules | `(tactic| walk_at "call ref") => `(tactic| (k_here; (with_reducible show wpAny _ _ (call (Value.ref _) [_, _, _, Value.int (1 + _) _]) _ _ _); (rename News _ _ _ _ => nI; k_dflt (refine' Clm.use (by k_asm) (by k_asm) (by k_asm) nI (by k_asm) rfl (asked_spec' (by k_mem) (by assumption) (ev_len (by assumption) (by assumption)) (by assumption) (by omega)) (by ktr_room) (by ktr_units) ?_); unfold RetAsked; intro T9 A9 c9 h9 tk9 ex9 eo9 ll9 io9 mo9 la9 lk9 lt9 F9 N9; clear nI; (replace mo9 := mem_comm mo9); (replace N9 := led_comm N9); (simp only [List.cons_append, List.nil_append] at mo9 N9); (replace la9 := allLt_of la9); (replace lt9 := nat_lt lt9); (simp only [AllLt, and_true] at la9); (have hs2 := ans2_is (by assumption) (by assumption) (by assumption) (by assumption) (by assumption) (by assumption) eo9); (try dsimp only); (try k_fold))))
local macro_rules | `(tactic| walk_at "call ref") => `(tactic| (k_here; (with_reducible show wpAny _ _ (call (Value.ref _) [_, _, _, Value.int (_ + 1) _]) _ _ _); (rename News _ _ _ _ => nI; k_dflt (refine' Clm.use (by k_asm) (by k_asm) (by k_asm) nI (by k_asm) rfl (asked_spec' (by k_mem) (by assumption) (rk_len (by assumption)) (by assumption) (by omega)) (by ktr_room) (by ktr_units) ?_); unfold RetAsked; intro T9 A9 c9 h9 tk9 ex9 eo9 ll9 io9 mo9 la9 lk9 lt9 F9 N9; clear nI; (replace mo9 := mem_comm mo9); (replace N9 := led_comm N9); (simp only [List.cons_append, List.nil_append] at mo9 N9); (replace la9 := allLt_of la9); (replace lt9 := nat_lt lt9); (simp only [AllLt, and_true] at la9); (have hs3 := ans3_is (by assumption) (by assumption) ex9); (try dsimp only); (try k_fold))))
local macro_rules | `(tactic| walk_at "call ref") => `(tactic| (k_here; (with_reducible show wpAny _ _ (call (Value.ref _) [_, _, _, Value.int 1 _]) _ _ _); (rename News _ _ _ _ => nI; k_dflt (refine' Clm.use (by k_asm) (by k_asm) (by k_asm) nI (by k_asm) rfl (asked_spec' (by k_mem) (by assumption) (told_len (by assumption) (by assumption)) (by assumption) (by omega)) (by ktr_room) (by ktr_units) ?_); unfold RetAsked; intro T9 A9 c9 h9 tk9 ex9 eo9 ll9 io9 mo9 la9 lk9 lt9 F9 N9; clear nI; (replace mo9 := mem_comm mo9); (replace N9 := led_comm N9); (simp only [List.cons_append, List.nil_append] at mo9 N9); (replace la9 := allLt_of la9); (replace lt9 := nat_lt lt9); (simp only [AllLt, and_true] at la9); (have hs4 := ans4_is (by assumption) (by assumption) (by assumption) (by assumption) ex9); (try dsimp only); (try k_fold))))
local macro_rules | `(tactic| walk_at "call ref") => `(tactic| (k_here; (with_reducible show wpAny _ _ (call (Value.ref _) [_, _]) _ _ _); ((rename InElt _ _ => eF'); (rename News _ _ _ _ => nI); (replace nI := led_hit nI); k_dflt (refine' Clm.use (by k_asm) (by k_asm) (by k_asm) nI (by k_asm) rfl (fig_specE (tab_hit (by kst_mem) (by assumption) (by assumption)) (ne16 (by omega) (by omega) (by omega) (by omega) (by omega) (by omega) (by omega) (by omega) (by omega) (by omega) (by show @Ne Nat 23 16; decide) (own16 (by assumption)) (by assumption) (by omega)) (num_in (by assumption) (by assumption) (by assumption)) (by assumption)) (by ktr_room) (by ktr_units) ?_); unfold RetFig; intro r9 c9 oc9 vs29 t9 y9 vs9 n9 h9 tk9 e9 i9 F9 N9 d19 d29 l9 f9 hps9 K9; (have hc9 := hit_is hps9); subst hc9; (have cE9 := elt_fig eF' nI N9 K9); clear eF' K9 hps9 nI; (replace N9 := led_unhit N9); (have e9' := e9.eq); subst e9'; clear e9; (simp only [AllLt, and_true] at l9); (try dsimp only); (try k_fold))))
local macro_rules | `(tactic| walk_at "call builtin:sum") => `(tactic| (k_here; (rename InElt _ _ => eF'); (rename News _ _ _ _ => nS'); (rename Fr _ _ _ _ => fS'); with_unfolding_all refine' sum_elt rfl fS' nS' (by assumption) eF' ?_; clear eF' nS' fS'; intro h' tk' t' F' N' cE'; (try dsimp only)))
local macro_rules | `(tactic| walk_at "call ref") => `(tactic| (k_here; (with_reducible show wpAny _ _ (call (Value.ref _) [_, _]) _ _ _); ((rename InElt _ _ => eF'); (rename News _ _ _ _ => nI); (replace nI := led_hit8 nI); k_dflt (refine' Clm.use (by k_asm) (by k_asm) (by k_asm) nI (by k_asm) rfl (fig_specE (tab_hit (by kst_mem) (by assumption) (by assumption)) (ne16b (by omega) (by omega) (by omega) (by omega) (by omega) (by omega) (by omega) (by omega) (by show @Ne Nat 23 16; decide)) (num_in (by assumption) (by assumption) (by assumption)) (by assumption)) (by ktr_room) (by ktr_units) ?_); unfold RetFig; intro r9 c9 oc9 vs29 t9 y9 vs9 n9 h9 tk9 e9 i9 F9 N9 d19 d29 l9 f9 hps9 K9; (have hc9 := hit_is hps9); subst hc9; (have cE9 := elt_fig eF' nI N9 K9); clear eF' K9 hps9 nI; (replace N9 := led_unhit8 N9); (have e9' := e9.eq); subst e9'; clear e9; (simp only [AllLt, and_true] at l9); (try dsimp only); (try k_fold))))
local macro_rules | `(tactic| walk_at "exec Assign cons ListComp") => `(tactic| ((rename News _ _ _ _ => nC'); (replace nC' := led_told nC'); walk_at "exec Assign cons ListComp"))
local macro_rules | `(tactic| walk_at "subscriptTail Call") => `(tactic| (k_here; (with_reducible show wpAny _ _ (subscriptTail _ _ (Value.ref _) (Value.int _ _)) _ _ _); with_unfolding_all refine' item_anyK (by is_list) (by assumption) (mud0 (by assumption) (by assumption) (by assumption)).1 (idx_told (mud0 (by assumption) (by assumption) (by assumption)) (fig_len (by assumption))) (idx_told2 (mud0 (by assumption) (by assumption) (by assumption)) (by assumption)) ?_ (by with_unfolding_all rfl); intro _))
local macro_rules | `(tactic| walk_at "CellPost") => `(tactic| (dsimp only [CellPost]))
local macro_rules | `(tactic| walk_at "CellEnd") => `(tactic| ((rename News _ _ _ _ => nE'); (rename Fr _ _ _ _ => fE'); (with_unfolding_all refine' cell_end (i := 0) fE' nE' (by assumption) (by assumption) ?_); (with_unfolding_all exact cell_same)))
theorem law_holds : PySem.Challenge.rw_hf0005_01.Holds := by
  refine hd ?_
  k_with_none
  k_with "call ref" => (rename News _ _ _ _ => nI; have nF := led_fig nI; k_dflt (refine' Clm.use (by k_asm) (by k_asm) (by k_asm) nF (by k_asm) rfl (fig_spec (.inl rfl) (by k_all) (by omega) (by assumption)) (by ktr_room) (by ktr_units) ?_); unfold RetInt2; intro r9 c9 oc9 vs29 t9 y9 vs9 n9 h9 tk9 e9 i9 F9 N9 d19 d29 l9 f9 hps9; obtain ⟨f91, f92, f93⟩ := f9; (have l8 := hps_new hps9); clear nI nF hps9; (simp only [AllLt, and_true] at l9 l8); (replace N9 := led_fig2 N9); (have hln9 := figF_length e9 (by assumption)); (try dsimp only); (try k_fold))
  k_with "call ref" => (rename News _ _ _ _ => nI; k_dflt (refine' Clm.use (by k_asm) (by k_asm) (by k_asm) (by k_asm) (by k_asm) rfl (ins_spec (by k_all) (by assumption) (by omega)) (by ktr_room) (by ktr_units) ?_); unfold RetIns; intro y9 vs9 n9 h9 tk9 e9 i9 F9 N9; (try dsimp only); (try k_fold))
  k_with "call ref" => (rename News _ _ _ _ => nI; replace nI := led_dig nI; k_dflt (refine' Clm.use (by k_asm) (by k_asm) (by k_asm) nI (by k_asm) rfl (dig_spec (by k_mem) (by assumption) (by omega) (fig01 (by assumption) (by assumption) (by assumption)) (ne23 (by omega) (by omega) (by omega) (by omega) (by omega) (by omega) (by omega) (by omega) (by show @Ne Nat 23 16; decide))) (by ktr_room) (by ktr_units) ?_); unfold RetDig; intro y9 t9 ps9 h9 tk9 e9 F9 N9; clear nI; (replace N9 := led_dig2 N9); (simp only [lst_eq] at N9); (replace e9 := dig_way (by assumption) (by assumption) (by assumption) e9); subst e9; (rename _ = everyAcc _ => hEv); (replace hEv := ev_is (by assumption) hEv); (rename IntsAre _ (List.foldl _ _ (rangeKs 0 _)) => hMu); (obtain ⟨mu, hMu1, hMu2, hMu3⟩ := mud_is (by assumption) (by assumption) (by assumption) hMu); clear hMu; (try dsimp only); (try k_fold))
  k_with "call ref" => ((rename News _ _ _ _ => nI; k_dflt (refine' Clm.use (by k_asm) (by k_asm) (by k_asm) nI (by k_asm) rfl (asked_spec' (by k_mem) (by assumption) (ev_len (by assumption) (by assumption)) (by assumption) (by omega)) (by ktr_room) (by ktr_units) ?_); unfold RetAsked; intro T9 A9 c9 h9 tk9 ex9 eo9 ll9 io9 mo9 la9 lk9 lt9 F9 N9; clear nI; (replace mo9 := mem_comm mo9); (replace N9 := led_comm N9); (simp only [List.cons_append, List.nil_append] at mo9 N9); (replace la9 := allLt_of la9); (replace lt9 := nat_lt lt9); (simp only [AllLt, and_true] at la9); (first | (obtain ⟨hs91, hs92, hs93, hs94⟩ := ans1_is (by assumption) (by assumption) (by assumption) (by assumption) (by assumption) ex9 eo9) | skip); (try dsimp only); (try k_fold)))
  k_with "pyIter ref" => (k_of "number" => k_state (fun pre ev => ev = everyAcc pre ∧ ev.length = pre.length) "every")
  k_with "state" => (exact everyAcc_nil)
  k_go0
  all_goals try k_fold
  k_steps
  all_goals first | exact (Str.ofString "x" : Str) | exact (0 : Addr) | exact Value.none
end Mine
theorem PySem.Challenge.cw_hf0005_01_holds : PySem.Challenge.rw_hf0005_01.Holds := by
  exact Mine.law_holds
