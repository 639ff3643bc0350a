import PyProof.Rows.All
import Wide.All
import OpenK.AllK
import Wide.FinOn
import PySem.Challenge.RW_ec5003_01
set_option Elab.async false
set_option maxRecDepth 100000
set_option maxHeartbeats 8000000
set_option linter.unusedVariables false
/-! part E1 -/
namespace Mine
open PySem PySem.W PyProof.Rows
open_top hd for PySem.Challenge.rw_ec5003_01
end Mine
/-! part S1 -/
namespace Mine
open PySem PyProof.Rows
section
variable {prog : Program} {w : World} {A : Around} {E : Value → Shared → Prop} {s : Shared}

/-- every comparison of two keys gives some bool and leaves the state as it is -/
def Cmps (prog : Program) (w : World) (A : Around) (s : Shared) (κ : SortKind) (a₀ : Array Keyed) : Prop :=
  ∀ p, p ∈ a₀.toList → ∀ q, q ∈ a₀.toList → ∀ (Q : Bool → Shared → Prop) (E : Value → Shared → Prop), (∀ b, Q b s) → wpAny (model prog w) A (keyLt' κ p.1 q.1) Q E s

structure PB (κ : SortKind) (a₀ : Array Keyed) (st : SortSt) : Prop where
  perm : (arrOf st).Perm a₀
  kind : kindOf st = κ
  failed : failedOf st = none

variable {κ : SortKind} {a₀ : Array Keyed}
theorem PB.size {st : SortSt} (h : PB κ a₀ st) : (arrOf st).size = a₀.size := h.perm.size_eq
theorem PB.mem {st : SortSt} (h : PB κ a₀ st) {i : Nat} (hi : i < (arrOf st).size) : (arrOf st)[i] ∈ a₀.toList :=
  (Array.perm_iff_toList_perm.mp h.perm).mem_iff.mp (by simp)
theorem PB.setArr {st : SortSt} (h : PB κ a₀ st) {xs : Array Keyed} (hp : xs.Perm (arrOf st)) : PB κ a₀ (setArr st xs) :=
  ⟨hp.trans h.perm, h.kind, h.failed⟩

theorem wS_elem {xs : Array Keyed} {i : Nat} {st : SortSt} {Q : Keyed → SortSt → Prop} (hi : i < xs.size) (h : Q xs[i] st) : wpS (model prog w) A E s (elem' xs i) Q st := by
  rw [elem'_eq, getElem?_pos xs i hi]
  exact wpS_pure h
theorem wS_lt {st : SortSt} {p q : Keyed} {Q : Option Bool → SortSt → Prop} (hc : Cmps prog w A s κ a₀) (hk : kindOf st = κ) (hp : p ∈ a₀.toList) (hq : q ∈ a₀.toList) (h : ∀ b, Q (some b) st) :
    wpS (model prog w) A E s (lt' p q) Q st := by
  rw [lt'_eq]
  refine wpS_bind (wpS_get ?_)
  rw [hk]
  refine wpS_bind (wpS_lift (wpAny_attempt (hc p hp q hq _ _ fun b => ⟨rfl, ?_⟩)))
  exact wpS_pure (h b)
theorem wS_ltAt {st : SortSt} {i j : Nat} {Q : Option Bool → SortSt → Prop} (hc : Cmps prog w A s κ a₀) (hB : PB κ a₀ st) (hi : i < a₀.size) (hj : j < a₀.size) (h : ∀ b, Q (some b) st) :
    wpS (model prog w) A E s (ltAt' i j) Q st := by
  rw [ltAt'_eq]
  refine wpS_bind (wpS_get ?_)
  have hi' : i < (arrOf st).size := by rw [hB.size]; exact hi
  have hj' : j < (arrOf st).size := by rw [hB.size]; exact hj
  show wpS _ _ _ _ (do let x ← elem' (arrOf st) i; let y ← elem' (arrOf st) j; lt' x y) Q st
  exact wpS_bind (wS_elem hi' (wpS_bind (wS_elem hj' (wS_lt hc hB.kind (hB.mem hi') (hB.mem hj') h))))
theorem wS_rev {st : SortSt} {i j : Nat} {Q : Unit → SortSt → Prop} (hB : PB κ a₀ st) (h : ∀ st', PB κ a₀ st' → pendingOf st' = pendingOf st → Q () st') : wpS (model prog w) A E s (reverseSlice' i j) Q st := by
  rw [reverseSlice'_eq]
  exact wpS_modify (h _ (hB.setArr (mirror_perm _ _ _ _)) rfl)
theorem wS_rule {t : String} {st : SortSt} {Q : Unit → SortSt → Prop} (h : Q () st) : wpS (model prog w) A E s (liftM (rule t) : StateT SortSt Sem Unit) Q st :=
  wpS_lift (wpAny_rule ⟨rfl, h⟩)


def descAll (lo n₀ nrem : Nat) : StateT SortSt Sem (Option Nat) := do
  rule "list.sort.descending-run"
  let mut n := n₀ + 1
  let mut neq := 0
  for _ in [n:nrem] do
    let some smaller ← ltAt' (lo + n) (lo + n - 1) | return none
    if smaller then
      if neq > 0 then reverseSlice' (lo + n - (neq + 1)) (lo + n)
      neq := 0
    else
      let some larger ← ltAt' (lo + n - 1) (lo + n) | return none
      if larger then break
      neq := neq + 1
    n := n + 1
  if neq > 0 then reverseSlice' (lo + n - (neq + 1)) (lo + n)
  reverseSlice' lo (lo + n)
  for _ in [n:nrem] do
    let some smaller ← ltAt' (lo + n) (lo + n - 1) | return none
    if smaller then break
    n := n + 1
  return some n

theorem wS_ascLoop {st : SortSt} {lo a nrem : Nat} {Q : Option Nat → SortSt → Prop} (hc : Cmps prog w A s κ a₀) (hB : PB κ a₀ st) (hn : lo + nrem ≤ a₀.size) (h1 : 1 ≤ a) (han : a ≤ nrem)
    (h : ∀ m st', PB κ a₀ st' → pendingOf st' = pendingOf st → 1 ≤ m → m ≤ nrem → Q (some m) st') : wpS (model prog w) A E s (do
      let mut n := a
      for _ in [n:nrem] do
        let some smaller ← ltAt' (lo + n) (lo + n - 1) | return none
        if smaller then break
        n := n + 1
      return some n) Q st := by
  dsimp only
  refine wpS_bind (wpS_mono (wpS_forRange (I := fun x c st' => c = (none, x) ∧ PB κ a₀ st' ∧ pendingOf st' = pendingOf st) (Q := fun c st' => ∃ n, c = (none, n) ∧ 1 ≤ n ∧ n ≤ nrem ∧ PB κ a₀ st' ∧ pendingOf st' = pendingOf st) ?step ?fin ⟨rfl, hB, rfl⟩) ?post)
  case fin =>
    rintro c st' ⟨rfl, hB', hp⟩
    exact ⟨_, rfl, by omega, by omega, hB', hp⟩
  case step =>
    rintro x c st' hax hxn ⟨rfl, hB', hp⟩
    dsimp only
    refine wpS_bind (wS_ltAt hc hB' (by omega) (by omega) fun b => ?_)
    cases b with
    | true => exact wpS_pure ⟨x, rfl, by omega, by omega, hB', hp⟩
    | false => exact wpS_pure ⟨rfl, hB', hp⟩
  case post =>
    rintro c st' ⟨n, rfl, h1n, hnn, hB', hp⟩
    exact wpS_pure (h n st' hB' hp h1n hnn)

theorem wS_desc {st : SortSt} {lo n nrem : Nat} {Q : Option Nat → SortSt → Prop} (hc : Cmps prog w A s κ a₀) (hB : PB κ a₀ st) (hn : lo + nrem ≤ a₀.size) (h1 : n + 1 ≤ nrem)
    (h : ∀ m st', PB κ a₀ st' → pendingOf st' = pendingOf st → 1 ≤ m → m ≤ nrem → Q (some m) st') : wpS (model prog w) A E s (descAll lo n nrem) Q st := by
  unfold descAll
  refine wpS_bind (wS_rule ?_)
  dsimp only
  refine wpS_bind (wpS_mono (wpS_forRange (I := fun x c st' => ∃ q, c = (none, x, q) ∧ PB κ a₀ st' ∧ pendingOf st' = pendingOf st) (Q := fun c st' => ∃ n q, c = (none, n, q) ∧ 1 ≤ n ∧ n ≤ nrem ∧ PB κ a₀ st' ∧ pendingOf st' = pendingOf st) ?step ?fin ⟨0, rfl, hB, rfl⟩) ?post)
  case fin =>
    rintro c st' ⟨q, rfl, hB', hp⟩
    exact ⟨_, q, rfl, by omega, by omega, hB', hp⟩
  case step =>
    rintro x c st' hax hxn ⟨q, rfl, hB', hp⟩
    dsimp only
    refine wpS_bind (wS_ltAt hc hB' (by omega) (by omega) fun b => ?_)
    cases b with
    | true =>
      simp only [if_true]
      by_cases hq : q > 0
      · rw [if_pos hq]
        exact wpS_bind (wS_rev hB' fun st2 hB2 hp2 => wpS_pure ⟨0, rfl, hB2, hp2.trans hp⟩)
      · rw [if_neg hq]
        exact wpS_pure ⟨0, rfl, hB', hp⟩
    | false =>
      simp only [Bool.false_eq_true, if_false]
      refine wpS_bind (wS_ltAt hc hB' (by omega) (by omega) fun b => ?_)
      cases b with
      | true => exact wpS_pure ⟨x, q, rfl, by omega, by omega, hB', hp⟩
      | false => exact wpS_pure ⟨q + 1, rfl, hB', hp⟩
  case post =>
    rintro c st' ⟨n, q, rfl, h1n, hnn, hB', hp⟩
    dsimp only
    by_cases hq : q > 0
    · rw [if_pos hq]
      refine wpS_bind (wS_rev hB' fun st2 hB2 hp2 => ?_)
      refine wpS_bind (wS_rev hB2 fun st3 hB3 hp3 => ?_)
      exact wS_ascLoop hc hB3 hn h1n hnn fun m st4 hB4 hp4 => h m st4 hB4 (hp4.trans (hp3.trans (hp2.trans hp)))
    · rw [if_neg hq]
      refine wpS_bind (wS_rev hB' fun st3 hB3 hp3 => ?_)
      exact wS_ascLoop hc hB3 hn h1n hnn fun m st4 hB4 hp4 => h m st4 hB4 (hp4.trans (hp3.trans hp))

theorem wS_count {st : SortSt} {lo nrem : Nat} {Q : Option Nat → SortSt → Prop} (hc : Cmps prog w A s κ a₀) (hB : PB κ a₀ st) (hn : lo + nrem ≤ a₀.size) (h1 : 1 ≤ nrem)
    (h : ∀ m st', PB κ a₀ st' → pendingOf st' = pendingOf st → 1 ≤ m → m ≤ nrem → Q (some m) st') : wpS (model prog w) A E s (countRun' lo nrem) Q st := by
  rw [countRun'_eq]
  dsimp only
  refine wpS_bind (wpS_mono (wpS_forRange (I := fun x c st' => c = (none, x) ∧ PB κ a₀ st' ∧ pendingOf st' = pendingOf st) (Q := fun c st' => ∃ n, c = (none, n) ∧ 1 ≤ n ∧ n ≤ nrem ∧ PB κ a₀ st' ∧ pendingOf st' = pendingOf st) ?step ?fin ⟨rfl, hB, rfl⟩) ?post)
  case fin =>
    rintro c st' ⟨rfl, hB', hp⟩
    exact ⟨_, rfl, by omega, by omega, hB', hp⟩
  case step =>
    rintro x c st' hax hxn ⟨rfl, hB', hp⟩
    dsimp only
    refine wpS_bind (wS_ltAt hc hB' (by omega) (by omega) fun b => ?_)
    cases b with
    | true => exact wpS_pure ⟨x, rfl, by omega, by omega, hB', hp⟩
    | false => exact wpS_pure ⟨rfl, hB', hp⟩
  case post =>
    rintro c st' ⟨n, rfl, h1n, hnn, hB', hp⟩
    dsimp only
    by_cases hnn' : n = nrem
    · rw [if_pos (by simpa using hnn')]
      exact wpS_pure (h n st' hB' hp h1n hnn)
    · rw [if_neg (by simpa using hnn')]
      by_cases hgt : n > 1
      · rw [if_pos hgt]
        refine wpS_bind (wS_ltAt hc hB' (by omega) (by omega) fun b => ?_)
        cases b with
        | true => exact wpS_pure (h n st' hB' hp h1n hnn)
        | false =>
          simp only [Bool.false_eq_true, if_false]
          refine wpS_bind (wS_rev hB' fun st2 hB2 hp2 => ?_)
          exact wS_desc hc hB2 hn (by omega) fun m st4 hB4 hp4 => h m st4 hB4 (hp4.trans (hp2.trans hp))
      · rw [if_neg hgt]
        exact wS_desc hc hB' hn (by omega) fun m st4 hB4 hp4 => h m st4 hB4 (hp4.trans hp)
end
end Mine
/-! part S2 -/
namespace Mine
open PySem PyProof.Rows
section
variable {prog : Program} {w : World} {A : Around} {E : Value → Shared → Prop} {s : Shared}
variable {κ : SortKind} {a₀ : Array Keyed}

theorem wS_binary {st : SortSt} {lo n ok : Nat} {Q : Bool → SortSt → Prop} (hc : Cmps prog w A s κ a₀) (hB : PB κ a₀ st) (hn : lo + n ≤ a₀.size)
    (h : ∀ st', PB κ a₀ st' → pendingOf st' = pendingOf st → Q true st') : wpS (model prog w) A E s (binarySort' lo n ok) Q st := by
  rw [binarySort'_eq]
  refine wpS_bind (wpS_mono (wpS_forRange (I := fun k c st' => c = (none, ()) ∧ PB κ a₀ st' ∧ pendingOf st' = pendingOf st)
    (Q := fun c st' => c = (none, ()) ∧ PB κ a₀ st' ∧ pendingOf st' = pendingOf st) ?step (fun _ _ hh => hh) ⟨rfl, hB, rfl⟩) ?post)
  case post =>
    rintro c st' ⟨rfl, hB', hp⟩
    exact wpS_pure (h st' hB' hp)
  case step =>
    rintro k c st' hak hkn ⟨rfl, hB', hp⟩
    dsimp only
    refine wpS_bind (wpS_mono (wpS_forRange (I := fun x c st'' => st'' = st' ∧ ∃ l r, c = (none, l, r) ∧ l ≤ r ∧ r ≤ k)
      (Q := fun c st'' => st'' = st' ∧ ∃ l r, c = (none, l, r) ∧ l ≤ r ∧ r ≤ k) ?istep (fun _ _ hh => hh) ⟨rfl, 0, k, rfl, by omega, by omega⟩) ?ipost)
    case istep =>
      rintro x c st'' _ hxk ⟨rfl, l, r, rfl, hlr, hrk⟩
      dsimp only
      by_cases hge : l ≥ r
      · rw [if_pos hge]
        exact wpS_pure ⟨rfl, l, r, rfl, hlr, hrk⟩
      · rw [if_neg hge]
        refine wpS_bind (wS_ltAt hc hB' (by omega) (by omega) fun b => ?_)
        cases b with
        | true => exact wpS_pure ⟨rfl, l, (l + r) / 2, rfl, by omega, by omega⟩
        | false => exact wpS_pure ⟨rfl, (l + r) / 2 + 1, r, rfl, by omega, by omega⟩
    case ipost =>
      rintro c st'' ⟨rfl, l, r, rfl, hlr, hrk⟩
      dsimp only
      rw [moveDown'_eq]
      exact wpS_bind (wpS_modify (wpS_pure ⟨rfl, hB'.setArr (bubble_perm _ _ _), hp⟩))

def gallop' : Bool → Keyed → Array Keyed → Nat → Nat → Nat → StateT SortSt Sem (Option Nat) := sortPriv% PySem.Builtin.gallop
def mergeLo' : Array Keyed → Array Keyed → StateT SortSt Sem (Array Keyed) := sortPriv% PySem.Builtin.mergeLo
def mergeHi' : Array Keyed → Array Keyed → StateT SortSt Sem (Array Keyed) := sortPriv% PySem.Builtin.mergeHi
def setGallop' : Nat → StateT SortSt Sem Unit := sortPriv% PySem.Builtin.setMinGallop

def beyond' (left : Bool) (key : Keyed) (arr : Array Keyed) (base : Nat) (i : Nat) : StateT SortSt Sem (Option Bool) := do
  let x ← elem' arr (base + i)
  if left then lt' x key else return (← lt' key x).map (!·)

theorem gallop'_eq (left : Bool) (key : Keyed) (arr : Array Keyed) (base n hint : Nat) : gallop' left key arr base n hint = (do
  let mut lastofs := 0
  let mut ofs := 1
  let mut lo := 0
  let mut hi := 0
  let some right ← beyond' left key arr base hint | return none
  if right then
    let maxofs := n - hint
    for _ in [0:n] do
      if ofs ≥ maxofs then break
      let some more ← beyond' left key arr base (hint + ofs) | return none
      if !more then break
      lastofs := ofs
      ofs := 2 * ofs + 1
    lo := hint + lastofs + 1
    hi := hint + min ofs maxofs
  else
    let maxofs := hint + 1
    for _ in [0:n] do
      if ofs ≥ maxofs then break
      let some found ← beyond' left key arr base (hint - ofs) | return none
      if found then break
      lastofs := ofs
      ofs := 2 * ofs + 1
    lo := hint + 1 - min ofs maxofs
    hi := hint - lastofs
  for _ in [0:n] do
    if lo ≥ hi then break
    let m := lo + (hi - lo) / 2
    let some more ← beyond' left key arr base m | return none
    if more then lo := m + 1 else hi := m
  return some hi) := rfl

theorem wS_beyond {st : SortSt} {left : Bool} {key : Keyed} {arr : Array Keyed} {base i : Nat} {Q : Option Bool → SortSt → Prop} (hc : Cmps prog w A s κ a₀) (hk : kindOf st = κ) (hkey : key ∈ a₀.toList) (harr : ∀ p, p ∈ arr.toList → p ∈ a₀.toList)
    (hi : base + i < arr.size) (h : ∀ b, Q (some b) st) : wpS (model prog w) A E s (beyond' left key arr base i) Q st := by
  unfold beyond'
  refine wpS_bind (wS_elem hi ?_)
  have hm : arr[base + i] ∈ a₀.toList := harr _ (by simp)
  cases left with
  | true => exact wS_lt hc hk hm hkey h
  | false =>
    simp only [Bool.false_eq_true, if_false]
    exact wpS_bind (wS_lt hc hk hkey hm fun b => wpS_pure (h _))

theorem wS_gallop {st : SortSt} {left : Bool} {key : Keyed} {arr : Array Keyed} {base n hint : Nat} {Q : Option Nat → SortSt → Prop} (hc : Cmps prog w A s κ a₀) (hk : kindOf st = κ) (hkey : key ∈ a₀.toList) (harr : ∀ p, p ∈ arr.toList → p ∈ a₀.toList)
    (hn : base + n ≤ arr.size) (hh : hint < n) (h : ∀ k, k ≤ n → Q (some k) st) : wpS (model prog w) A E s (gallop' left key arr base n hint) Q st := by
  rw [gallop'_eq]
  have fin : ∀ lo hi, hi ≤ n → wpS (model prog w) A E s (do
      let mut lo := lo
      let mut hi := hi
      for _ in [0:n] do
        if lo ≥ hi then break
        let m := lo + (hi - lo) / 2
        let some more ← beyond' left key arr base m | return none
        if more then lo := m + 1 else hi := m
      return some hi) Q st := by
    intro lo hi hhi
    dsimp only
    refine wpS_bind (wpS_mono (wpS_forRange (I := fun x c st' => st' = st ∧ ∃ l r, c = (none, l, r) ∧ r ≤ n) (Q := fun c st' => st' = st ∧ ∃ l r, c = (none, l, r) ∧ r ≤ n) ?step (fun _ _ hh => hh) ⟨rfl, lo, hi, rfl, hhi⟩) ?post)
    case step =>
      rintro x c st' _ hxn ⟨rfl, l, r, rfl, hr⟩
      dsimp only
      by_cases hge : l ≥ r
      · rw [if_pos hge]
        exact wpS_pure ⟨rfl, l, r, rfl, hr⟩
      · rw [if_neg hge]
        refine wpS_bind (wS_beyond hc hk hkey harr (by omega) fun b => ?_)
        cases b with
        | true => exact wpS_pure ⟨rfl, _, r, rfl, hr⟩
        | false => exact wpS_pure ⟨rfl, l, _, rfl, by omega⟩
    case post =>
      rintro c st' ⟨rfl, l, r, rfl, hr⟩
      exact wpS_pure (h r hr)
  dsimp only
  refine wpS_bind (wS_beyond hc hk hkey harr (by omega) fun b => ?_)
  cases b with
  | true =>
    simp only [if_true]
    refine wpS_bind (wpS_mono (wpS_forRange (I := fun x c st' => st' = st ∧ ∃ l r, c = (none, l, r)) (Q := fun c st' => st' = st ∧ ∃ l r, c = (none, l, r)) ?step (fun _ _ hh => hh) ⟨rfl, 0, 1, rfl⟩) ?post)
    case step =>
      rintro x c st' _ hxn ⟨rfl, l, r, rfl⟩
      dsimp only
      by_cases hge : r ≥ n - hint
      · rw [if_pos hge]
        exact wpS_pure ⟨rfl, l, r, rfl⟩
      · rw [if_neg hge]
        refine wpS_bind (wS_beyond hc hk hkey harr (by omega) fun b => ?_)
        cases b with
        | true => exact wpS_pure ⟨rfl, _, _, rfl⟩
        | false => exact wpS_pure ⟨rfl, _, _, rfl⟩
    case post =>
      rintro c st' ⟨rfl, l, r, rfl⟩
      exact fin _ _ (by omega)
  | false =>
    simp only [Bool.false_eq_true, if_false]
    refine wpS_bind (wpS_mono (wpS_forRange (I := fun x c st' => st' = st ∧ ∃ l r, c = (none, l, r)) (Q := fun c st' => st' = st ∧ ∃ l r, c = (none, l, r)) ?step (fun _ _ hh => hh) ⟨rfl, 0, 1, rfl⟩) ?post)
    case step =>
      rintro x c st' _ hxn ⟨rfl, l, r, rfl⟩
      dsimp only
      by_cases hge : r ≥ hint + 1
      · rw [if_pos hge]
        exact wpS_pure ⟨rfl, l, r, rfl⟩
      · rw [if_neg hge]
        refine wpS_bind (wS_beyond hc hk hkey harr (by omega) fun b => ?_)
        cases b with
        | true => exact wpS_pure ⟨rfl, _, _, rfl⟩
        | false => exact wpS_pure ⟨rfl, _, _, rfl⟩
    case post =>
      rintro c st' ⟨rfl, l, r, rfl⟩
      exact fin _ _ (by omega)
end
end Mine
/-! part S3 -/
namespace Mine
open PySem PyProof.Rows
section
variable {prog : Program} {w : World} {A : Around} {E : Value → Shared → Prop} {s : Shared}
variable {κ : SortKind} {a₀ : Array Keyed}

theorem mergeLo'_eq (a b : Array Keyed) : mergeLo' a b = (do
  rule "list.sort.merge-lo"
  let total := a.size + b.size
  let done (out : Array Keyed) (ia ib : Nat) := out ++ a.extract ia a.size ++ b.extract ib b.size
  let lastOfA (out : Array Keyed) (ia ib : Nat) := out ++ b.extract ib b.size ++ a.extract ia a.size
  let mut out : Array Keyed := #[← elem' b 0]
  let mut ia := 0
  let mut ib := 1
  if ib == b.size then return done out ia ib
  if ia + 1 == a.size then return lastOfA out ia ib
  let mut minGallop := gallopOf (← get)
  for _ in [0:total] do
    let mut acount := 0
    let mut bcount := 0
    for _ in [0:total] do
      let some bWins ← lt' (← elem' b ib) (← elem' a ia) | return done out ia ib
      if bWins then
        out := out.push (← elem' b ib); ib := ib + 1; bcount := bcount + 1; acount := 0
        if ib == b.size then return done out ia ib
        if bcount ≥ minGallop then break
      else
        out := out.push (← elem' a ia); ia := ia + 1; acount := acount + 1; bcount := 0
        if ia + 1 == a.size then return lastOfA out ia ib
        if acount ≥ minGallop then break
    rule "list.sort.gallop"
    minGallop := minGallop + 1
    for _ in [0:total] do
      if minGallop > 1 then minGallop := minGallop - 1
      setGallop' minGallop
      let some k ← gallop' false (← elem' b ib) a ia (a.size - ia) 0 | return done out ia ib
      acount := k
      if k > 0 then
        out := out ++ a.extract ia (ia + k); ia := ia + k
        if ia + 1 == a.size then return lastOfA out ia ib
        if ia == a.size then return done out ia ib
      out := out.push (← elem' b ib); ib := ib + 1
      if ib == b.size then return done out ia ib
      let some k ← gallop' true (← elem' a ia) b ib (b.size - ib) 0 | return done out ia ib
      bcount := k
      if k > 0 then
        out := out ++ b.extract ib (ib + k); ib := ib + k
        if ib == b.size then return done out ia ib
      out := out.push (← elem' a ia); ia := ia + 1
      if ia + 1 == a.size then return lastOfA out ia ib
      if acount < 7 && bcount < 7 then break
    minGallop := minGallop + 1
    setGallop' minGallop
  unsupported "internal:list.sort.merge-bound") := rfl

/-- what has been merged so far, and what is left of both runs, is all of both -/
def Mv (a b out : Array Keyed) (ia ib : Nat) : Prop := (out.toList ++ a.toList.drop ia ++ b.toList.drop ib).Perm (a.toList ++ b.toList)
theorem drop_cons {α : Type} {a : Array α} {i : Nat} (h : i < a.size) : a.toList.drop i = a[i] :: a.toList.drop (i + 1) := by
  rw [List.drop_eq_getElem_cons (by simpa using h)]; simp
theorem Mv.size {a b out : Array Keyed} {ia ib : Nat} (h : Mv a b out ia ib) : out.size + (a.size - ia) + (b.size - ib) = a.size + b.size := by
  have := h.length_eq
  simp at this
  omega
theorem Mv.pushB {a b out : Array Keyed} {ia ib : Nat} (h : Mv a b out ia ib) (hb : ib < b.size) : Mv a b (out.push b[ib]) ia (ib + 1) := by
  unfold Mv at *
  rw [drop_cons hb] at h
  refine List.Perm.trans ?_ h
  rw [Array.toList_push]
  simp only [List.append_assoc]
  refine List.Perm.append_left _ ?_
  show ([b[ib]] ++ (a.toList.drop ia ++ b.toList.drop (ib + 1))).Perm (a.toList.drop ia ++ ([b[ib]] ++ b.toList.drop (ib + 1)))
  rw [← List.append_assoc, ← List.append_assoc]
  exact List.Perm.append_right _ List.perm_append_comm
theorem Mv.pushA {a b out : Array Keyed} {ia ib : Nat} (h : Mv a b out ia ib) (ha : ia < a.size) : Mv a b (out.push a[ia]) (ia + 1) ib := by
  unfold Mv at *
  rw [drop_cons ha] at h
  rw [Array.toList_push]
  simpa using h
theorem drop_ext {α : Type} {a : Array α} {i k : Nat} : a.toList.drop i = (a.extract i (i + k)).toList ++ a.toList.drop (i + k) := by
  rw [Array.toList_extract, List.extract_eq_take_drop, show i + k - i = k by omega, ← List.drop_drop, List.take_append_drop]
theorem Mv.extA {a b out : Array Keyed} {ia ib : Nat} (h : Mv a b out ia ib) (k : Nat) : Mv a b (out ++ a.extract ia (ia + k)) (ia + k) ib := by
  unfold Mv at *
  rw [drop_ext (k := k)] at h
  rw [Array.toList_append]
  simpa [List.append_assoc] using h
theorem Mv.extB {a b out : Array Keyed} {ia ib : Nat} (h : Mv a b out ia ib) (k : Nat) : Mv a b (out ++ b.extract ib (ib + k)) ia (ib + k) := by
  unfold Mv at *
  rw [drop_ext (a := b) (k := k)] at h
  refine List.Perm.trans ?_ h
  rw [Array.toList_append]
  simp only [List.append_assoc]
  refine List.Perm.append_left _ ?_
  rw [← List.append_assoc, ← List.append_assoc]
  exact List.Perm.append_right _ List.perm_append_comm
def Mgd (a b r : Array Keyed) : Prop := r.toList.Perm (a.toList ++ b.toList)
theorem ext_drop {α : Type} {a : Array α} {i : Nat} : (a.extract i a.size).toList = a.toList.drop i := by
  rw [Array.toList_extract, List.extract_eq_take_drop]
  exact List.take_of_length_le (by simp)
theorem Mv.done {a b out : Array Keyed} {ia ib : Nat} (h : Mv a b out ia ib) : Mgd a b (out ++ a.extract ia a.size ++ b.extract ib b.size) := by
  unfold Mgd Mv at *
  rw [Array.toList_append, Array.toList_append, ext_drop, ext_drop]
  exact h
theorem Mv.last {a b out : Array Keyed} {ia ib : Nat} (h : Mv a b out ia ib) : Mgd a b (out ++ b.extract ib b.size ++ a.extract ia a.size) := by
  unfold Mgd Mv at *
  rw [Array.toList_append, Array.toList_append, ext_drop, ext_drop]
  refine List.Perm.trans ?_ h
  rw [List.append_assoc, List.append_assoc]
  exact List.Perm.append_left _ List.perm_append_comm

/-- within a merge: both runs have items left -/
structure MIn (a b out : Array Keyed) (ia ib : Nat) : Prop where
  mv : Mv a b out ia ib
  la : ia + 1 < a.size
  lb : ib < b.size

theorem wS_setGallop {g : Nat} {st : SortSt} {Q : Unit → SortSt → Prop} (h : ∀ st', arrOf st' = arrOf st → kindOf st' = kindOf st → failedOf st' = failedOf st → pendingOf st' = pendingOf st → Q () st') : wpS (model prog w) A E s (setGallop' g) Q st :=
  wpS_modify (h _ rfl rfl rfl rfl)

structure Same (st st' : SortSt) : Prop where
  arr : arrOf st' = arrOf st
  kind : kindOf st' = kindOf st
  failed : failedOf st' = failedOf st
  pend : pendingOf st' = pendingOf st
theorem Same.rfl {st : SortSt} : Same st st := ⟨Eq.refl _, Eq.refl _, Eq.refl _, Eq.refl _⟩
theorem Same.trans {st st' st'' : SortSt} (h : Same st st') (h' : Same st' st'') : Same st st'' := ⟨h'.arr.trans h.arr, h'.kind.trans h.kind, h'.failed.trans h.failed, h'.pend.trans h.pend⟩

theorem wS_mergeLo {st : SortSt} {a b : Array Keyed} {Q : Array Keyed → SortSt → Prop} (hc : Cmps prog w A s κ a₀) (hk : kindOf st = κ) (hA : ∀ p, p ∈ a.toList → p ∈ a₀.toList) (hB : ∀ p, p ∈ b.toList → p ∈ a₀.toList)
    (ha : 1 ≤ a.size) (hb : 1 ≤ b.size) (h : ∀ r st', Mgd a b r → Same st st' → Q r st') : wpS (model prog w) A E s (mergeLo' a b) Q st := by
  rw [mergeLo'_eq]
  dsimp only
  refine wpS_bind (wS_rule ?_)
  refine wpS_bind (wS_elem (by omega) ?_)
  have m0 : Mv a b #[] 0 0 := by unfold Mv; simp
  have m1 : Mv a b #[b[0]] 0 1 := by simpa using m0.pushB (by omega)
  by_cases e1 : 1 = b.size
  · rw [if_pos (by simpa using e1)]
    exact wpS_pure (h _ _ m1.done Same.rfl)
  rw [if_neg (by simpa using e1)]
  by_cases e2 : 0 + 1 = a.size
  · rw [if_pos (by simpa using e2)]
    exact wpS_pure (h _ _ m1.last Same.rfl)
  rw [if_neg (by simpa using e2)]
  refine wpS_bind (wpS_get ?_)
  refine wpS_bind (wpS_mono (wpS_forRange (I := fun x c st' => c.1 = none ∧ MIn a b c.2.1 c.2.2.1 c.2.2.2.1 ∧ x + 1 ≤ c.2.1.size ∧ Same st st')
    (Q := fun c st' => ∃ r, c.1 = some r ∧ Mgd a b r ∧ Same st st') ?step ?fin ⟨rfl, ⟨m1, (by show 0 + 1 < a.size; omega), (by show 1 < b.size; omega)⟩, (by simp), Same.rfl⟩) ?post)
  case post =>
    rintro ⟨c, _⟩ st' ⟨r, hr, hm, hs⟩
    dsimp only at hr
    subst hr
    exact wpS_pure (h r st' hm hs)
  case fin =>
    rintro ⟨_, out, ia, ib, g⟩ st' ⟨_, hI, hx, _⟩
    have := hI.mv.size
    have l1 := hI.la
    have l2 := hI.lb
    dsimp only at *
    omega
  case step =>
    rintro x ⟨_, out, ia, ib, g⟩ st' _ hx ⟨e, hI, hxo, hs⟩
    dsimp only at e hI hxo
    subst e
    dsimp only
    refine wpS_bind (wpS_mono (wpS_forRange (I := fun y c st'' => c.1 = none ∧ MIn a b c.2.1 c.2.2.1 c.2.2.2.1 ∧ x + 1 + y ≤ c.2.1.size ∧ Same st st'')
      (Q := fun c st'' => Same st st'' ∧ ((∃ r, c.1 = some r ∧ Mgd a b r) ∨ (c.1 = none ∧ MIn a b c.2.1 c.2.2.1 c.2.2.2.1 ∧ x + 2 ≤ c.2.1.size))) ?step1 ?fin1 ⟨rfl, hI, by omega, hs⟩) ?post1)
    case fin1 =>
      rintro ⟨_, out, ia, ib, g⟩ st' ⟨_, hI, hx, _⟩
      have := hI.mv.size
      have l1 := hI.la
      have l2 := hI.lb
      dsimp only at *
      omega
    case step1 =>
      rintro y ⟨_, out, ia, ib, n1, n2⟩ st' _ hy ⟨e, hI, hxo, hs⟩
      dsimp only at e hI hxo
      subst e
      dsimp only
      have l1 := hI.la
      have l2 := hI.lb
      refine wpS_bind (wS_elem l2 (wpS_bind (wS_elem (by omega) (wpS_bind (wS_lt hc (hs.kind.trans hk) (hB _ (by simp)) (hA _ (by simp)) fun c => ?_)))))
      cases c with
      | true =>
        simp only [if_true]
        refine wpS_bind (wS_elem l2 ?_)
        have m2 := hI.mv.pushB l2
        by_cases e3 : ib + 1 = b.size
        · rw [if_pos (by simpa using e3)]
          exact wpS_pure ⟨hs, .inl ⟨_, rfl, m2.done⟩⟩
        rw [if_neg (by simpa using e3)]
        have i2 : MIn a b (out.push b[ib]) ia (ib + 1) := ⟨m2, l1, by omega⟩
        by_cases e4 : n2 + 1 ≥ g
        · rw [if_pos e4]
          exact wpS_pure ⟨hs, .inr ⟨rfl, i2, by rw [Array.size_push]; omega⟩⟩
        · rw [if_neg e4]
          exact wpS_pure ⟨rfl, i2, by rw [Array.size_push]; omega, hs⟩
      | false =>
        simp only [Bool.false_eq_true, if_false]
        refine wpS_bind (wS_elem (by omega) ?_)
        have m2 := hI.mv.pushA (show ia < a.size by omega)
        by_cases e3 : ia + 1 + 1 = a.size
        · rw [if_pos (by simpa using e3)]
          exact wpS_pure ⟨hs, .inl ⟨_, rfl, m2.last⟩⟩
        rw [if_neg (by simpa using e3)]
        have i2 : MIn a b (out.push a[ia]) (ia + 1) ib := ⟨m2, by omega, l2⟩
        by_cases e4 : n1 + 1 ≥ g
        · rw [if_pos e4]
          exact wpS_pure ⟨hs, .inr ⟨rfl, i2, by rw [Array.size_push]; omega⟩⟩
        · rw [if_neg e4]
          exact wpS_pure ⟨rfl, i2, by rw [Array.size_push]; omega, hs⟩
    case post1 =>
      rintro ⟨c, out, ia, ib, n1, n2⟩ st' ⟨hs, hor⟩
      dsimp only at hor
      rcases hor with ⟨r, rfl, hr⟩ | ⟨rfl, hI, hxo⟩
      · exact wpS_pure ⟨r, rfl, hr, hs⟩
      dsimp only
      refine wpS_bind (wS_rule ?_)
      refine wpS_bind (wpS_mono (wpS_forRange (I := fun y c st'' => c.1 = none ∧ MIn a b c.2.1 c.2.2.1 c.2.2.2.1 ∧ x + 2 ≤ c.2.1.size ∧ Same st st'')
        (Q := fun c st'' => Same st st'' ∧ ((∃ r, c.1 = some r ∧ Mgd a b r) ∨ (c.1 = none ∧ MIn a b c.2.1 c.2.2.1 c.2.2.2.1 ∧ x + 2 ≤ c.2.1.size))) ?step2 ?fin2 ⟨rfl, hI, hxo, hs⟩) ?post2)
      case fin2 =>
        rintro ⟨c, out, ia, ib, g⟩ st' ⟨e, hI, hx, hs⟩
        exact ⟨hs, .inr ⟨e, hI, hx⟩⟩
      case post2 =>
        rintro ⟨c, out, ia, ib, g, n1, n2⟩ st' ⟨hs, hor⟩
        dsimp only at hor
        rcases hor with ⟨r, rfl, hr⟩ | ⟨rfl, hI, hxo⟩
        · exact wpS_pure ⟨r, rfl, hr, hs⟩
        · dsimp only
          exact wpS_bind (wS_setGallop fun st2 q1 q2 q3 q4 => wpS_pure ⟨rfl, hI, hxo, hs.trans ⟨q1, q2, q3, q4⟩⟩)
      case step2 =>
        rintro y ⟨_, out, ia, ib, g, n1, n2⟩ st' _ hy ⟨e, hI, hxo, hs⟩
        dsimp only at e hI hxo
        subst e
        dsimp only
        have l1 := hI.la
        have l2 := hI.lb
        -- the turn's end
        have t3 : ∀ (out : Array Keyed) (ia ib g k k₁ : Nat) (st' : SortSt), MIn a b out ia ib → x + 2 ≤ out.size → Same st st' → wpS (model prog w) A E s (do
            let v ← elem' a ia
            if (ia + 1 + 1 == a.size) = true then pure (ForInStep.done (some (out.push v ++ b.extract ib b.size ++ a.extract (ia + 1) a.size), out.push v, ia + 1, ib, g, k, k₁))
            else if (decide (k < 7) && decide (k₁ < 7)) = true then pure (ForInStep.done (none, out.push v, ia + 1, ib, g, k, k₁))
            else pure (ForInStep.yield (none, out.push v, ia + 1, ib, g, k, k₁)) : StateT SortSt Sem (ForInStep (Option (Array Keyed) × Array Keyed × Nat × Nat × Nat × Nat × Nat)))
            (fun r st'' => match r with
              | .done c => Same st st'' ∧ ((∃ r, c.1 = some r ∧ Mgd a b r) ∨ (c.1 = none ∧ MIn a b c.2.1 c.2.2.1 c.2.2.2.1 ∧ x + 2 ≤ c.2.1.size))
              | .yield c => c.1 = none ∧ MIn a b c.2.1 c.2.2.1 c.2.2.2.1 ∧ x + 2 ≤ c.2.1.size ∧ Same st st'') st' := by
          intro out ia ib g k k₁ st' hI hxo hs
          have l1 := hI.la
          have l2 := hI.lb
          refine wpS_bind (wS_elem (by omega) ?_)
          have m2 := hI.mv.pushA (show ia < a.size by omega)
          by_cases e3 : ia + 1 + 1 = a.size
          · rw [if_pos (by simpa using e3)]
            exact wpS_pure ⟨hs, .inl ⟨_, rfl, m2.last⟩⟩
          rw [if_neg (by simpa using e3)]
          have i2 : MIn a b (out.push a[ia]) (ia + 1) ib := ⟨m2, by omega, l2⟩
          split
          · exact wpS_pure ⟨hs, .inr ⟨rfl, i2, by rw [Array.size_push]; omega⟩⟩
          · exact wpS_pure ⟨rfl, i2, by rw [Array.size_push]; omega, hs⟩
        -- from the item of b on
        have t2 : ∀ (out : Array Keyed) (ia ib g k n2 : Nat) (st' : SortSt), MIn a b out ia ib → x + 2 ≤ out.size → Same st st' → wpS (model prog w) A E s (do
            let v ← elem' b ib
            if (ib + 1 == b.size) = true then pure (ForInStep.done (some (out.push v ++ a.extract ia a.size ++ b.extract (ib + 1) b.size), out.push v, ia, ib + 1, g, k, n2))
            else do
              let u ← elem' a ia
              let z ← gallop' true u b (ib + 1) (b.size - (ib + 1)) 0
              match z with
              | some k₁ =>
                if k₁ > 0 then
                  if (ib + 1 + k₁ == b.size) = true then pure (ForInStep.done (some (out.push v ++ b.extract (ib + 1) (ib + 1 + k₁) ++ a.extract ia a.size ++ b.extract (ib + 1 + k₁) b.size), out.push v ++ b.extract (ib + 1) (ib + 1 + k₁), ia, ib + 1 + k₁, g, k, k₁))
                  else do
                    let v₁ ← elem' a ia
                    if (ia + 1 + 1 == a.size) = true then pure (ForInStep.done (some ((out.push v ++ b.extract (ib + 1) (ib + 1 + k₁)).push v₁ ++ b.extract (ib + 1 + k₁) b.size ++ a.extract (ia + 1) a.size), (out.push v ++ b.extract (ib + 1) (ib + 1 + k₁)).push v₁, ia + 1, ib + 1 + k₁, g, k, k₁))
                    else if (decide (k < 7) && decide (k₁ < 7)) = true then pure (ForInStep.done (none, (out.push v ++ b.extract (ib + 1) (ib + 1 + k₁)).push v₁, ia + 1, ib + 1 + k₁, g, k, k₁))
                    else pure (ForInStep.yield (none, (out.push v ++ b.extract (ib + 1) (ib + 1 + k₁)).push v₁, ia + 1, ib + 1 + k₁, g, k, k₁))
                else do
                    let v₁ ← elem' a ia
                    if (ia + 1 + 1 == a.size) = true then pure (ForInStep.done (some ((out.push v).push v₁ ++ b.extract (ib + 1) b.size ++ a.extract (ia + 1) a.size), (out.push v).push v₁, ia + 1, ib + 1, g, k, k₁))
                    else if (decide (k < 7) && decide (k₁ < 7)) = true then pure (ForInStep.done (none, (out.push v).push v₁, ia + 1, ib + 1, g, k, k₁))
                    else pure (ForInStep.yield (none, (out.push v).push v₁, ia + 1, ib + 1, g, k, k₁))
              | _ => pure (ForInStep.done (some (out.push v ++ a.extract ia a.size ++ b.extract (ib + 1) b.size), out.push v, ia, ib + 1, g, k, n2)) : StateT SortSt Sem (ForInStep (Option (Array Keyed) × Array Keyed × Nat × Nat × Nat × Nat × Nat)))
            (fun r st'' => match r with
              | .done c => Same st st'' ∧ ((∃ r, c.1 = some r ∧ Mgd a b r) ∨ (c.1 = none ∧ MIn a b c.2.1 c.2.2.1 c.2.2.2.1 ∧ x + 2 ≤ c.2.1.size))
              | .yield c => c.1 = none ∧ MIn a b c.2.1 c.2.2.1 c.2.2.2.1 ∧ x + 2 ≤ c.2.1.size ∧ Same st st'') st' := by
          intro out ia ib g k n2 st' hI hxo hs
          have l1 := hI.la
          have l2 := hI.lb
          refine wpS_bind (wS_elem l2 ?_)
          have m2 := hI.mv.pushB l2
          by_cases e3 : ib + 1 = b.size
          · rw [if_pos (by simpa using e3)]
            exact wpS_pure ⟨hs, .inl ⟨_, rfl, m2.done⟩⟩
          rw [if_neg (by simpa using e3)]
          refine wpS_bind (wS_elem (by omega) ?_)
          refine wpS_bind (wS_gallop hc (hs.kind.trans hk) (hA _ (by simp)) hB (by omega) (by omega) fun k₁ hk₁ => ?_)
          dsimp only
          by_cases e4 : k₁ > 0
          · rw [if_pos e4]
            have m3 := m2.extB k₁
            by_cases e5 : ib + 1 + k₁ = b.size
            · rw [if_pos (by simpa using e5)]
              exact wpS_pure ⟨hs, .inl ⟨_, rfl, m3.done⟩⟩
            rw [if_neg (by simpa using e5)]
            exact t3 _ ia _ g k k₁ st' ⟨m3, l1, by omega⟩ (by rw [Array.size_append, Array.size_push]; omega) hs
          · rw [if_neg e4]
            exact t3 _ ia _ g k k₁ st' ⟨m2, l1, by omega⟩ (by rw [Array.size_push]; omega) hs
        by_cases e0 : g > 1
        · rw [if_pos e0]
          refine wpS_bind (wS_setGallop fun st2 q1 q2 q3 q4 => ?_)
          have hs2 := hs.trans ⟨q1, q2, q3, q4⟩
          refine wpS_bind (wS_elem l2 ?_)
          refine wpS_bind (wS_gallop hc (hs2.kind.trans hk) (hB _ (by simp)) hA (by omega) (by omega) fun k hk' => ?_)
          dsimp only
          by_cases e4 : k > 0
          · rw [if_pos e4]
            have m3 := hI.mv.extA k
            by_cases e5 : ia + k + 1 = a.size
            · rw [if_pos (by simpa using e5)]
              exact wpS_pure ⟨hs2, .inl ⟨_, rfl, m3.last⟩⟩
            rw [if_neg (by simpa using e5)]
            by_cases e6 : ia + k = a.size
            · rw [if_pos (by simpa using e6)]
              exact wpS_pure ⟨hs2, .inl ⟨_, rfl, m3.done⟩⟩
            rw [if_neg (by simpa using e6)]
            exact wpS_mono (t2 _ _ _ (g - 1) k n2 st2 ⟨m3, by omega, l2⟩ (by rw [Array.size_append]; omega) hs2) fun r st'' hh => by cases r <;> exact hh
          · rw [if_neg e4]
            exact wpS_mono (t2 _ _ _ (g - 1) k n2 st2 hI hxo hs2) fun r st'' hh => by cases r <;> exact hh
        · rw [if_neg e0]
          refine wpS_bind (wS_setGallop fun st2 q1 q2 q3 q4 => ?_)
          have hs2 := hs.trans ⟨q1, q2, q3, q4⟩
          refine wpS_bind (wS_elem l2 ?_)
          refine wpS_bind (wS_gallop hc (hs2.kind.trans hk) (hB _ (by simp)) hA (by omega) (by omega) fun k hk' => ?_)
          dsimp only
          by_cases e4 : k > 0
          · rw [if_pos e4]
            have m3 := hI.mv.extA k
            by_cases e5 : ia + k + 1 = a.size
            · rw [if_pos (by simpa using e5)]
              exact wpS_pure ⟨hs2, .inl ⟨_, rfl, m3.last⟩⟩
            rw [if_neg (by simpa using e5)]
            by_cases e6 : ia + k = a.size
            · rw [if_pos (by simpa using e6)]
              exact wpS_pure ⟨hs2, .inl ⟨_, rfl, m3.done⟩⟩
            rw [if_neg (by simpa using e6)]
            exact wpS_mono (t2 _ _ _ g k n2 st2 ⟨m3, by omega, l2⟩ (by rw [Array.size_append]; omega) hs2) fun r st'' hh => by cases r <;> exact hh
          · rw [if_neg e4]
            exact wpS_mono (t2 _ _ _ g k n2 st2 hI hxo hs2) fun r st'' hh => by cases r <;> exact hh
end
end Mine
/-! part S4 -/
namespace Mine
open PySem PyProof.Rows
section
variable {prog : Program} {w : World} {A : Around} {E : Value → Shared → Prop} {s : Shared}
variable {κ : SortKind} {a₀ : Array Keyed}

theorem mergeHi'_eq (a b : Array Keyed) : mergeHi' a b = (do
  rule "list.sort.merge-hi"
  let total := a.size + b.size
  let done (out : Array Keyed) (na nb : Nat) := a.extract 0 na ++ b.extract 0 nb ++ out.reverse
  let firstOfB (out : Array Keyed) (na nb : Nat) := b.extract 0 nb ++ a.extract 0 na ++ out.reverse
  let mut na := a.size - 1
  let mut nb := b.size
  let mut out : Array Keyed := #[← elem' a na]
  if na == 0 then return done out na nb
  if nb == 1 then return firstOfB out na nb
  let mut minGallop := gallopOf (← get)
  for _ in [0:total] do
    let mut acount := 0
    let mut bcount := 0
    for _ in [0:total] do
      let some aWins ← lt' (← elem' b (nb - 1)) (← elem' a (na - 1)) | return done out na nb
      if aWins then
        na := na - 1; out := out.push (← elem' a na); acount := acount + 1; bcount := 0
        if na == 0 then return done out na nb
        if acount ≥ minGallop then break
      else
        nb := nb - 1; out := out.push (← elem' b nb); bcount := bcount + 1; acount := 0
        if nb == 1 then return firstOfB out na nb
        if bcount ≥ minGallop then break
    rule "list.sort.gallop"
    minGallop := minGallop + 1
    for _ in [0:total] do
      if minGallop > 1 then minGallop := minGallop - 1
      setGallop' minGallop
      let some at_ ← gallop' false (← elem' b (nb - 1)) a 0 na (na - 1) | return done out na nb
      let k := na - at_
      acount := k
      if k > 0 then
        out := out ++ (a.extract at_ na).reverse; na := at_
        if na == 0 then return done out na nb
      nb := nb - 1; out := out.push (← elem' b nb)
      if nb == 1 then return firstOfB out na nb
      let some at_ ← gallop' true (← elem' a (na - 1)) b 0 nb (nb - 1) | return done out na nb
      let k := nb - at_
      bcount := k
      if k > 0 then
        out := out ++ (b.extract at_ nb).reverse; nb := at_
        if nb == 1 then return firstOfB out na nb
        if nb == 0 then return done out na nb
      na := na - 1; out := out.push (← elem' a na)
      if na == 0 then return done out na nb
      if acount < 7 && bcount < 7 then break
    minGallop := minGallop + 1
    setGallop' minGallop
  unsupported "internal:list.sort.merge-bound") := rfl

def Mh (a b out : Array Keyed) (na nb : Nat) : Prop := (a.toList.take na ++ (b.toList.take nb ++ out.toList)).Perm (a.toList ++ b.toList) ∧ na ≤ a.size ∧ nb ≤ b.size
theorem take_snoc {α : Type} {a : Array α} {i : Nat} (h : i < a.size) : a.toList.take (i + 1) = a.toList.take i ++ [a[i]] := by
  rw [List.take_add_one]; simp [h]
theorem Mh.size {a b out : Array Keyed} {na nb : Nat} (h : Mh a b out na nb) : na + nb + out.size = a.size + b.size := by
  obtain ⟨h, h1, h2⟩ := h
  have := h.length_eq
  simp at this
  omega
theorem Mh.popA {a b out : Array Keyed} {na nb : Nat} (h : Mh a b out na nb) (h0 : 1 ≤ na) (hl : na - 1 < a.size) : Mh a b (out.push a[na - 1]) (na - 1) nb := by
  obtain ⟨h, h1, h2⟩ := h
  refine ⟨?_, by omega, h2⟩
  obtain ⟨j, rfl⟩ : ∃ j, na = j + 1 := ⟨na - 1, by omega⟩
  simp only [Nat.add_sub_cancel] at hl ⊢
  rw [take_snoc hl] at h
  refine List.Perm.trans ?_ h
  rw [Array.toList_push, List.append_assoc]
  refine List.Perm.append_left _ ?_
  rw [← List.append_assoc]
  exact List.perm_append_comm
theorem Mh.popB {a b out : Array Keyed} {na nb : Nat} (h : Mh a b out na nb) (h0 : 1 ≤ nb) (hl : nb - 1 < b.size) : Mh a b (out.push b[nb - 1]) na (nb - 1) := by
  obtain ⟨h, h1, h2⟩ := h
  refine ⟨?_, h1, by omega⟩
  obtain ⟨j, rfl⟩ : ∃ j, nb = j + 1 := ⟨nb - 1, by omega⟩
  simp only [Nat.add_sub_cancel] at hl ⊢
  rw [take_snoc hl] at h
  refine List.Perm.trans ?_ h
  rw [Array.toList_push, List.append_assoc]
  refine List.Perm.append_left _ (List.Perm.append_left _ ?_)
  exact List.perm_append_comm
theorem take_ext {α : Type} {a : Array α} {i j : Nat} (h : i ≤ j) : a.toList.take j = a.toList.take i ++ (a.extract i j).toList := by
  rw [Array.toList_extract, List.extract_eq_take_drop]
  obtain ⟨k, rfl⟩ := Nat.le.dest h
  rw [show i + k - i = k by omega, List.take_add]
theorem Mh.cutA {a b out : Array Keyed} {na nb i : Nat} (h : Mh a b out na nb) (hi : i ≤ na) : Mh a b (out ++ (a.extract i na).reverse) i nb := by
  obtain ⟨h, h1, h2⟩ := h
  refine ⟨?_, by omega, h2⟩
  rw [take_ext hi] at h
  refine List.Perm.trans ?_ h
  rw [Array.toList_append, Array.toList_reverse, List.append_assoc]
  refine List.Perm.append_left _ ?_
  rw [← List.append_assoc]
  refine List.Perm.trans List.perm_append_comm ?_
  exact List.Perm.append_right _ (List.reverse_perm _)
theorem Mh.cutB {a b out : Array Keyed} {na nb i : Nat} (h : Mh a b out na nb) (hi : i ≤ nb) : Mh a b (out ++ (b.extract i nb).reverse) na i := by
  obtain ⟨h, h1, h2⟩ := h
  refine ⟨?_, h1, by omega⟩
  rw [take_ext hi] at h
  refine List.Perm.trans ?_ h
  rw [Array.toList_append, Array.toList_reverse, List.append_assoc]
  refine List.Perm.append_left _ (List.Perm.append_left _ ?_)
  refine List.Perm.trans List.perm_append_comm ?_
  exact List.Perm.append_right _ (List.reverse_perm _)
theorem ext_take {α : Type} {a : Array α} {i : Nat} : (a.extract 0 i).toList = a.toList.take i := by
  rw [Array.toList_extract, List.extract_eq_take_drop]; simp
theorem Mh.done {a b out : Array Keyed} {na nb : Nat} (h : Mh a b out na nb) : Mgd a b (a.extract 0 na ++ b.extract 0 nb ++ out.reverse) := by
  unfold Mgd
  rw [Array.toList_append, Array.toList_append, Array.toList_reverse, ext_take, ext_take, List.append_assoc]
  exact List.Perm.trans (List.Perm.append_left _ (List.Perm.append_left _ (List.reverse_perm _))) h.1
theorem Mh.first {a b out : Array Keyed} {na nb : Nat} (h : Mh a b out na nb) : Mgd a b (b.extract 0 nb ++ a.extract 0 na ++ out.reverse) := by
  have := h.done
  unfold Mgd at *
  refine List.Perm.trans ?_ this
  rw [Array.toList_append, Array.toList_append, Array.toList_append, Array.toList_append]
  exact List.Perm.append_right _ List.perm_append_comm

structure MInH (a b out : Array Keyed) (na nb : Nat) : Prop where
  mv : Mh a b out na nb
  la : 1 ≤ na
  lb : 2 ≤ nb
theorem MInH.ua {a b out : Array Keyed} {na nb : Nat} (h : MInH a b out na nb) : na ≤ a.size := h.mv.2.1
theorem MInH.ub {a b out : Array Keyed} {na nb : Nat} (h : MInH a b out na nb) : nb ≤ b.size := h.mv.2.2

theorem wS_mergeHi {st : SortSt} {a b : Array Keyed} {Q : Array Keyed → SortSt → Prop} (hc : Cmps prog w A s κ a₀) (hk : kindOf st = κ) (hA : ∀ p, p ∈ a.toList → p ∈ a₀.toList) (hB : ∀ p, p ∈ b.toList → p ∈ a₀.toList)
    (ha : 1 ≤ a.size) (hb : 1 ≤ b.size) (h : ∀ r st', Mgd a b r → Same st st' → Q r st') : wpS (model prog w) A E s (mergeHi' a b) Q st := by
  rw [mergeHi'_eq]
  dsimp only
  refine wpS_bind (wS_rule ?_)
  refine wpS_bind (wS_elem (by omega) ?_)
  have m0 : Mh a b #[] a.size b.size := ⟨by simp [List.take_of_length_le], Nat.le_refl _, Nat.le_refl _⟩
  have m1 : Mh a b #[a[a.size - 1]] (a.size - 1) b.size := by simpa using m0.popA ha (by omega)
  by_cases e1 : a.size - 1 = 0
  · rw [if_pos (by simpa using e1)]
    exact wpS_pure (h _ _ m1.done Same.rfl)
  rw [if_neg (by simpa using e1)]
  by_cases e2 : b.size = 1
  · rw [if_pos (by simpa using e2)]
    exact wpS_pure (h _ _ m1.first Same.rfl)
  rw [if_neg (by simpa using e2)]
  refine wpS_bind (wpS_get ?_)
  refine wpS_bind (wpS_mono (wpS_forRange (I := fun x c st' => c.1 = none ∧ MInH a b c.2.2.2.1 c.2.1 c.2.2.1 ∧ x + 1 ≤ c.2.2.2.1.size ∧ Same st st')
    (Q := fun c st' => ∃ r, c.1 = some r ∧ Mgd a b r ∧ Same st st') ?step ?fin ⟨rfl, ⟨m1, (by show 1 ≤ a.size - 1; omega), (by show 2 ≤ b.size; omega)⟩, (by simp), Same.rfl⟩) ?post)
  case post =>
    rintro ⟨c, _⟩ st' ⟨r, hr, hm, hs⟩
    dsimp only at hr
    subst hr
    exact wpS_pure (h r st' hm hs)
  case fin =>
    rintro ⟨_, na, nb, out, g⟩ st' ⟨_, hI, hx, _⟩
    have := hI.mv.size
    have l1 := hI.la
    have l2 := hI.lb
    dsimp only at *
    omega
  case step =>
    rintro x ⟨_, na, nb, out, g⟩ st' _ hx ⟨e, hI, hxo, hs⟩
    dsimp only at e hI hxo
    subst e
    dsimp only
    refine wpS_bind (wpS_mono (wpS_forRange (I := fun y c st'' => c.1 = none ∧ MInH a b c.2.2.2.1 c.2.1 c.2.2.1 ∧ x + 1 + y ≤ c.2.2.2.1.size ∧ Same st st'')
      (Q := fun c st'' => Same st st'' ∧ ((∃ r, c.1 = some r ∧ Mgd a b r) ∨ (c.1 = none ∧ MInH a b c.2.2.2.1 c.2.1 c.2.2.1 ∧ x + 2 ≤ c.2.2.2.1.size))) ?step1 ?fin1 ⟨rfl, hI, by omega, hs⟩) ?post1)
    case fin1 =>
      rintro ⟨_, na, nb, out, g⟩ st' ⟨_, hI, hx, _⟩
      have := hI.mv.size
      have l1 := hI.la
      have l2 := hI.lb
      dsimp only at *
      omega
    case step1 =>
      rintro y ⟨_, na, nb, out, n1, n2⟩ st' _ hy ⟨e, hI, hxo, hs⟩
      dsimp only at e hI hxo
      subst e
      dsimp only
      have l1 := hI.la
      have l2 := hI.lb
      have u1 := hI.ua
      have u2 := hI.ub
      refine wpS_bind (wS_elem (by omega) (wpS_bind (wS_elem (by omega) (wpS_bind (wS_lt hc (hs.kind.trans hk) (hB _ (by simp)) (hA _ (by simp)) fun c => ?_)))))
      cases c with
      | true =>
        simp only [if_true]
        refine wpS_bind (wS_elem (by omega) ?_)
        have m2 := hI.mv.popA l1 (by omega)
        by_cases e3 : na - 1 = 0
        · rw [if_pos (by simpa using e3)]
          exact wpS_pure ⟨hs, .inl ⟨_, rfl, m2.done⟩⟩
        rw [if_neg (by simpa using e3)]
        have i2 : MInH a b (out.push a[na - 1]) (na - 1) nb := ⟨m2, by omega, l2⟩
        by_cases e4 : n1 + 1 ≥ g
        · rw [if_pos e4]
          exact wpS_pure ⟨hs, .inr ⟨rfl, i2, by rw [Array.size_push]; omega⟩⟩
        · rw [if_neg e4]
          exact wpS_pure ⟨rfl, i2, by rw [Array.size_push]; omega, hs⟩
      | false =>
        simp only [Bool.false_eq_true, if_false]
        refine wpS_bind (wS_elem (by omega) ?_)
        have m2 := hI.mv.popB (by omega) (by omega)
        by_cases e3 : nb - 1 = 1
        · rw [if_pos (by simpa using e3)]
          exact wpS_pure ⟨hs, .inl ⟨_, rfl, m2.first⟩⟩
        rw [if_neg (by simpa using e3)]
        have i2 : MInH a b (out.push b[nb - 1]) na (nb - 1) := ⟨m2, l1, by omega⟩
        by_cases e4 : n2 + 1 ≥ g
        · rw [if_pos e4]
          exact wpS_pure ⟨hs, .inr ⟨rfl, i2, by rw [Array.size_push]; omega⟩⟩
        · rw [if_neg e4]
          exact wpS_pure ⟨rfl, i2, by rw [Array.size_push]; omega, hs⟩
    case post1 =>
      rintro ⟨c, na, nb, out, n1, n2⟩ st' ⟨hs, hor⟩
      dsimp only at hor
      rcases hor with ⟨r, rfl, hr⟩ | ⟨rfl, hI, hxo⟩
      · exact wpS_pure ⟨r, rfl, hr, hs⟩
      dsimp only
      refine wpS_bind (wS_rule ?_)
      refine wpS_bind (wpS_mono (wpS_forRange (I := fun y c st'' => c.1 = none ∧ MInH a b c.2.2.2.1 c.2.1 c.2.2.1 ∧ x + 2 ≤ c.2.2.2.1.size ∧ Same st st'')
        (Q := fun c st'' => Same st st'' ∧ ((∃ r, c.1 = some r ∧ Mgd a b r) ∨ (c.1 = none ∧ MInH a b c.2.2.2.1 c.2.1 c.2.2.1 ∧ x + 2 ≤ c.2.2.2.1.size))) ?step2 ?fin2 ⟨rfl, hI, hxo, hs⟩) ?post2)
      case fin2 =>
        rintro ⟨c, na, nb, out, g⟩ st' ⟨e, hI, hx, hs⟩
        exact ⟨hs, .inr ⟨e, hI, hx⟩⟩
      case post2 =>
        rintro ⟨c, na, nb, out, g, n1, n2⟩ st' ⟨hs, hor⟩
        dsimp only at hor
        rcases hor with ⟨r, rfl, hr⟩ | ⟨rfl, hI, hxo⟩
        · exact wpS_pure ⟨r, rfl, hr, hs⟩
        · dsimp only
          exact wpS_bind (wS_setGallop fun st2 q1 q2 q3 q4 => wpS_pure ⟨rfl, hI, hxo, hs.trans ⟨q1, q2, q3, q4⟩⟩)
      case step2 =>
        rintro y ⟨_, na, nb, out, g, n1, n2⟩ st' _ hy ⟨e, hI, hxo, hs⟩
        dsimp only at e hI hxo
        subst e
        dsimp only
        have l1 := hI.la
        have l2 := hI.lb
        have u1 := hI.ua
        have u2 := hI.ub
        -- the turn's end
        have t3 : ∀ (out : Array Keyed) (na nb g k k₁ : Nat) (st' : SortSt), MInH a b out na nb → x + 2 ≤ out.size → Same st st' → wpS (model prog w) A E s (do
            let v₁ ← elem' a (na - 1)
            if (na - 1 == 0) = true then pure (ForInStep.done (some (a.extract 0 (na - 1) ++ b.extract 0 nb ++ (out.push v₁).reverse), na - 1, nb, out.push v₁, g, k, k₁))
            else if (decide (k < 7) && decide (k₁ < 7)) = true then pure (ForInStep.done (none, na - 1, nb, out.push v₁, g, k, k₁))
            else pure (ForInStep.yield (none, na - 1, nb, out.push v₁, g, k, k₁)) : StateT SortSt Sem (ForInStep (Option (Array Keyed) × Nat × Nat × Array Keyed × Nat × Nat × Nat)))
            (fun r st'' => match r with
              | .done c => Same st st'' ∧ ((∃ r, c.1 = some r ∧ Mgd a b r) ∨ (c.1 = none ∧ MInH a b c.2.2.2.1 c.2.1 c.2.2.1 ∧ x + 2 ≤ c.2.2.2.1.size))
              | .yield c => c.1 = none ∧ MInH a b c.2.2.2.1 c.2.1 c.2.2.1 ∧ x + 2 ≤ c.2.2.2.1.size ∧ Same st st'') st' := by
          intro out na nb g k k₁ st' hI hxo hs
          have l1 := hI.la
          have l2 := hI.lb
          have u1 := hI.ua
          have u2 := hI.ub
          refine wpS_bind (wS_elem (by omega) ?_)
          have m2 := hI.mv.popA l1 (by omega)
          by_cases e3 : na - 1 = 0
          · rw [if_pos (by simpa using e3)]
            exact wpS_pure ⟨hs, .inl ⟨_, rfl, m2.done⟩⟩
          rw [if_neg (by simpa using e3)]
          have i2 : MInH a b (out.push a[na - 1]) (na - 1) nb := ⟨m2, by omega, l2⟩
          split
          · exact wpS_pure ⟨hs, .inr ⟨rfl, i2, by rw [Array.size_push]; omega⟩⟩
          · exact wpS_pure ⟨rfl, i2, by rw [Array.size_push]; omega, hs⟩
        -- from the item of b on
        have t2 : ∀ (out : Array Keyed) (na nb g k n2 : Nat) (st' : SortSt), MInH a b out na nb → x + 2 ≤ out.size → Same st st' → wpS (model prog w) A E s (do
            let v ← elem' b (nb - 1)
            if (nb - 1 == 1) = true then pure (ForInStep.done (some (b.extract 0 (nb - 1) ++ a.extract 0 na ++ (out.push v).reverse), na, nb - 1, out.push v, g, k, n2))
            else do
              let u ← elem' a (na - 1)
              let z ← gallop' true u b 0 (nb - 1) (nb - 1 - 1)
              match z with
              | some j =>
                if nb - 1 - j > 0 then
                  if (j == 1) = true then pure (ForInStep.done (some (b.extract 0 j ++ a.extract 0 na ++ (out.push v ++ (b.extract j (nb - 1)).reverse).reverse), na, j, (out.push v ++ (b.extract j (nb - 1)).reverse), g, k, nb - 1 - j))
                  else if (j == 0) = true then pure (ForInStep.done (some (a.extract 0 na ++ b.extract 0 j ++ (out.push v ++ (b.extract j (nb - 1)).reverse).reverse), na, j, (out.push v ++ (b.extract j (nb - 1)).reverse), g, k, nb - 1 - j))
                  else do
                    let v₁ ← elem' a (na - 1)
                    if (na - 1 == 0) = true then pure (ForInStep.done (some (a.extract 0 (na - 1) ++ b.extract 0 j ++ ((out.push v ++ (b.extract j (nb - 1)).reverse).push v₁).reverse), na - 1, j, (out.push v ++ (b.extract j (nb - 1)).reverse).push v₁, g, k, (nb - 1 - j)))
                    else if (decide (k < 7) && decide ((nb - 1 - j) < 7)) = true then pure (ForInStep.done (none, na - 1, j, (out.push v ++ (b.extract j (nb - 1)).reverse).push v₁, g, k, (nb - 1 - j)))
                    else pure (ForInStep.yield (none, na - 1, j, (out.push v ++ (b.extract j (nb - 1)).reverse).push v₁, g, k, (nb - 1 - j)))
                else do
                  let v₁ ← elem' a (na - 1)
                  if (na - 1 == 0) = true then pure (ForInStep.done (some (a.extract 0 (na - 1) ++ b.extract 0 (nb - 1) ++ ((out.push v).push v₁).reverse), na - 1, (nb - 1), (out.push v).push v₁, g, k, (nb - 1 - j)))
                  else if (decide (k < 7) && decide ((nb - 1 - j) < 7)) = true then pure (ForInStep.done (none, na - 1, (nb - 1), (out.push v).push v₁, g, k, (nb - 1 - j)))
                  else pure (ForInStep.yield (none, na - 1, (nb - 1), (out.push v).push v₁, g, k, (nb - 1 - j)))
              | _ => pure (ForInStep.done (some (a.extract 0 na ++ b.extract 0 (nb - 1) ++ (out.push v).reverse), na, nb - 1, out.push v, g, k, n2)) : StateT SortSt Sem (ForInStep (Option (Array Keyed) × Nat × Nat × Array Keyed × Nat × Nat × Nat)))
            (fun r st'' => match r with
              | .done c => Same st st'' ∧ ((∃ r, c.1 = some r ∧ Mgd a b r) ∨ (c.1 = none ∧ MInH a b c.2.2.2.1 c.2.1 c.2.2.1 ∧ x + 2 ≤ c.2.2.2.1.size))
              | .yield c => c.1 = none ∧ MInH a b c.2.2.2.1 c.2.1 c.2.2.1 ∧ x + 2 ≤ c.2.2.2.1.size ∧ Same st st'') st' := by
          intro out na nb g k n2 st' hI hxo hs
          have l1 := hI.la
          have l2 := hI.lb
          have u1 := hI.ua
          have u2 := hI.ub
          refine wpS_bind (wS_elem (by omega) ?_)
          have m2 := hI.mv.popB (by omega) (by omega)
          by_cases e3 : nb - 1 = 1
          · rw [if_pos (by simpa using e3)]
            exact wpS_pure ⟨hs, .inl ⟨_, rfl, m2.first⟩⟩
          rw [if_neg (by simpa using e3)]
          refine wpS_bind (wS_elem (by omega) ?_)
          refine wpS_bind (wS_gallop hc (hs.kind.trans hk) (hA _ (by simp)) hB (by omega) (by omega) fun j hj => ?_)
          dsimp only
          by_cases e4 : nb - 1 - j > 0
          · rw [if_pos e4]
            have m3 := m2.cutB (i := j) (by omega)
            by_cases e5 : j = 1
            · rw [if_pos (by simpa using e5)]
              exact wpS_pure ⟨hs, .inl ⟨_, rfl, m3.first⟩⟩
            rw [if_neg (by simpa using e5)]
            by_cases e6 : j = 0
            · rw [if_pos (by simpa using e6)]
              exact wpS_pure ⟨hs, .inl ⟨_, rfl, m3.done⟩⟩
            rw [if_neg (by simpa using e6)]
            exact t3 _ na _ g k (nb - 1 - j) st' ⟨m3, l1, by omega⟩ (by rw [Array.size_append, Array.size_push]; omega) hs
          · rw [if_neg e4]
            exact t3 _ na _ g k (nb - 1 - j) st' ⟨m2, l1, by omega⟩ (by rw [Array.size_push]; omega) hs
        by_cases e0 : g > 1
        · rw [if_pos e0]
          refine wpS_bind (wS_setGallop fun st2 q1 q2 q3 q4 => ?_)
          have hs2 := hs.trans ⟨q1, q2, q3, q4⟩
          refine wpS_bind (wS_elem (by omega) ?_)
          refine wpS_bind (wS_gallop hc (hs2.kind.trans hk) (hB _ (by simp)) hA (by omega) (by omega) fun i hi => ?_)
          dsimp only
          by_cases e4 : na - i > 0
          · rw [if_pos e4]
            have m3 := hI.mv.cutA (i := i) (by omega)
            by_cases e5 : i = 0
            · rw [if_pos (by simpa using e5)]
              exact wpS_pure ⟨hs2, .inl ⟨_, rfl, m3.done⟩⟩
            rw [if_neg (by simpa using e5)]
            exact wpS_mono (t2 _ _ _ (g - 1) (na - i) n2 st2 ⟨m3, by omega, l2⟩ (by rw [Array.size_append]; omega) hs2) fun r st'' hh => by cases r <;> exact hh
          · rw [if_neg e4]
            exact wpS_mono (t2 _ _ _ (g - 1) (na - i) n2 st2 hI hxo hs2) fun r st'' hh => by cases r <;> exact hh
        · rw [if_neg e0]
          refine wpS_bind (wS_setGallop fun st2 q1 q2 q3 q4 => ?_)
          have hs2 := hs.trans ⟨q1, q2, q3, q4⟩
          refine wpS_bind (wS_elem (by omega) ?_)
          refine wpS_bind (wS_gallop hc (hs2.kind.trans hk) (hB _ (by simp)) hA (by omega) (by omega) fun i hi => ?_)
          dsimp only
          by_cases e4 : na - i > 0
          · rw [if_pos e4]
            have m3 := hI.mv.cutA (i := i) (by omega)
            by_cases e5 : i = 0
            · rw [if_pos (by simpa using e5)]
              exact wpS_pure ⟨hs2, .inl ⟨_, rfl, m3.done⟩⟩
            rw [if_neg (by simpa using e5)]
            exact wpS_mono (t2 _ _ _ g (na - i) n2 st2 ⟨m3, by omega, l2⟩ (by rw [Array.size_append]; omega) hs2) fun r st'' hh => by cases r <;> exact hh
          · rw [if_neg e4]
            exact wpS_mono (t2 _ _ _ g (na - i) n2 st2 hI hxo hs2) fun r st'' hh => by cases r <;> exact hh
end
end Mine
/-! part S5 -/
namespace Mine
open PySem PyProof.Rows

/-- runs that lie one behind the other, from a to b -/
def Chn : Nat → List (Nat × Nat × Nat) → Nat → Prop
  | a, [], b => a = b
  | a, (s, l, _) :: r, b => s = a ∧ 1 ≤ l ∧ Chn (a + l) r b
theorem Chn.le : ∀ {l : List (Nat × Nat × Nat)} {a b : Nat}, Chn a l b → a ≤ b
  | [], _, _, h => Nat.le_of_eq h
  | (_, _, _) :: _, _, _, h => by have := Chn.le h.2.2; omega
theorem Chn.snoc : ∀ {l : List (Nat × Nat × Nat)} {a b n p : Nat}, Chn a l b → 1 ≤ n → Chn a (l ++ [(b, n, p)]) (b + n)
  | [], _, _, _, _, h, hn => by cases h; exact ⟨rfl, hn, rfl⟩
  | (_, _, _) :: _, _, _, _, _, h, hn => ⟨h.1, h.2.1, Chn.snoc h.2.2 hn⟩
theorem Chn.app : ∀ {l₁ l₂ : List (Nat × Nat × Nat)} {a b : Nat}, Chn a (l₁ ++ l₂) b → ∃ c, Chn a l₁ c ∧ Chn c l₂ b
  | [], _, a, _, h => ⟨a, rfl, h⟩
  | (_, _, _) :: _, _, _, _, h => let ⟨c, h1, h2⟩ := Chn.app h.2.2; ⟨c, ⟨h.1, h.2.1, h1⟩, h2⟩
theorem Chn.join : ∀ {l₁ l₂ : List (Nat × Nat × Nat)} {a b c : Nat}, Chn a l₁ c → Chn c l₂ b → Chn a (l₁ ++ l₂) b
  | [], _, _, _, _, h, h' => by cases h; exact h'
  | (_, _, _) :: _, _, _, _, _, h, h' => ⟨h.1, h.2.1, Chn.join h.2.2 h'⟩
theorem Chn.powers : ∀ {l l' : List (Nat × Nat × Nat)} {a b : Nat}, Chn a l b → l'.map (fun x => (x.1, x.2.1)) = l.map (fun x => (x.1, x.2.1)) → Chn a l' b
  | [], [], _, _, h, _ => h
  | [], _ :: _, _, _, _, e => by simp at e
  | _ :: _, [], _, _, _, e => by simp at e
  | (s, n, p) :: r, (s', n', p') :: r', _, _, h, e => by
    simp only [List.map_cons, List.cons.injEq, Prod.mk.injEq] at e
    obtain ⟨⟨rfl, rfl⟩, e⟩ := e
    exact ⟨h.1, h.2.1, Chn.powers h.2.2 e⟩

theorem split_two {α : Type} {l : List α} {i : Nat} {x y : α} (hx : l[i]? = some x) (hy : l[i + 1]? = some y) : l = l.take i ++ x :: y :: l.drop (i + 2) := by
  have h1 : i < l.length := (List.getElem?_eq_some_iff.mp hx).1
  have h2 : i + 1 < l.length := (List.getElem?_eq_some_iff.mp hy).1
  have e1 := (List.getElem?_eq_some_iff.mp hx).2
  have e2 := (List.getElem?_eq_some_iff.mp hy).2
  conv => lhs; rw [← List.take_append_drop i l, List.drop_eq_getElem_cons h1, List.drop_eq_getElem_cons h2, e1, e2]

theorem set_erase {α : Type} {pre post : List α} {x y v : α} : ((pre ++ x :: y :: post).set pre.length v).eraseIdx (pre.length + 1) = pre ++ v :: post := by
  rw [List.set_append_right _ _ (Nat.le_refl _), Nat.sub_self]
  rw [List.eraseIdx_append_of_length_le (by omega)]
  simp

theorem writes (sa : Nat) : ∀ (l : List Keyed) (k : Nat) (arr : Array Keyed), sa + k + l.length ≤ arr.size →
    ((l.zipIdx k).foldl (fun (a : Array Keyed) (x : Keyed × Nat) => a.setIfInBounds (sa + x.2) x.1) arr).toList = arr.toList.take (sa + k) ++ l ++ arr.toList.drop (sa + k + l.length)
  | [], k, arr, _ => by simp
  | p :: l, k, arr, h => by
    rw [List.zipIdx_cons, List.foldl_cons]
    simp only [List.length_cons] at h
    rw [writes sa l (k + 1) _ (by simp; omega)]
    simp only [Array.toList_setIfInBounds, List.length_cons]
    rw [List.drop_set_of_lt (by omega), show sa + (k + 1) = sa + k + 1 by omega, List.take_add_one]
    have hlt : sa + k < arr.toList.length := by simp; omega
    rw [List.getElem?_set_self hlt, List.take_set_of_le (by omega), show sa + k + 1 + l.length = sa + k + (l.length + 1) by omega]
    simp

section
variable {prog : Program} {w : World} {A : Around} {E : Value → Shared → Prop} {s : Shared}
variable {κ : SortKind} {a₀ : Array Keyed}

theorem mergeAt'_eq (i : Nat) : mergeAt' i = (do
  let s ← get
  let (some (sa, na, power), some (sb, nb, _)) := ((pendingOf s)[i]?, (pendingOf s)[i + 1]?) | unsupported "internal:list.sort.pending"
  set (setPending s (((pendingOf s).setIfInBounds i (sa, na + nb, power)).eraseIdxIfInBounds (i + 1)))
  let some k ← gallop' false (← elem' (arrOf s) sb) (arrOf s) sa na 0 | return false
  let (sa, na) := (sa + k, na - k)
  if na == 0 then return true
  let some nb ← gallop' true (← elem' (arrOf s) (sa + na - 1)) (arrOf s) sb nb (nb - 1) | return false
  if nb == 0 then return true
  let x := (arrOf s).extract sa sb
  let y := (arrOf s).extract sb (sb + nb)
  let merged ← if na ≤ nb then mergeLo' x y else mergeHi' x y
  modify fun s => setArr s (merged.toList.zipIdx.foldl (fun a (p, j) => a.setIfInBounds (sa + j) p) (arrOf s))
  return (failedOf (← get)).isNone) := rfl

theorem wpS_set {σ : Type} {M : Model} {st st' : σ} {Q : PUnit → σ → Prop} (h : Q ⟨⟩ st') : wpS M A E s (set st' : StateT σ Sem PUnit) Q st := by
  unfold wpS; rw [StateT.run_set]; exact wpAny_pure ⟨rfl, h⟩

theorem ext_mem {arr : Array Keyed} {i j : Nat} (hm : ∀ p, p ∈ arr.toList → p ∈ a₀.toList) : ∀ p, p ∈ (arr.extract i j).toList → p ∈ a₀.toList := fun p hp => by
  rw [Array.toList_extract, List.extract_eq_take_drop] at hp
  exact hm p (List.mem_of_mem_drop (List.mem_of_mem_take hp))

theorem wS_mergeAt {st : SortSt} {i e : Nat} {Q : Bool → SortSt → Prop} (hc : Cmps prog w A s κ a₀) (hB : PB κ a₀ st) (hp : Chn 0 (pendingOf st).toList e) (he : e ≤ a₀.size) (hi : i + 1 < (pendingOf st).size)
    (h : ∀ st', PB κ a₀ st' → Chn 0 (pendingOf st').toList e → Q true st') : wpS (model prog w) A E s (mergeAt' i) Q st := by
  rw [mergeAt'_eq]
  refine wpS_bind (wpS_get ?_)
  obtain ⟨x, hx⟩ : ∃ x, (pendingOf st)[i]? = some x := ⟨_, getElem?_pos _ i (by omega)⟩
  obtain ⟨y, hy⟩ : ∃ y, (pendingOf st)[i + 1]? = some y := ⟨_, getElem?_pos _ (i + 1) hi⟩
  obtain ⟨sa, na, pw⟩ := x
  obtain ⟨sb, nb, pw'⟩ := y
  rw [hx, hy]
  dsimp only
  have hx' : (pendingOf st).toList[i]? = some (sa, na, pw) := by rw [Array.getElem?_toList]; exact hx
  have hy' : (pendingOf st).toList[i + 1]? = some (sb, nb, pw') := by rw [Array.getElem?_toList]; exact hy
  have hs := split_two hx' hy'
  have hlen : ((pendingOf st).toList.take i).length = i := by simp; omega
  generalize hpre : (pendingOf st).toList.take i = pre at hs hlen
  generalize hpost : (pendingOf st).toList.drop (i + 2) = post at hs
  rw [hs] at hp
  obtain ⟨c, c1, c2⟩ := hp.app
  obtain ⟨rfl, n1, rfl, n2, c3⟩ := c2
  have hend := c3.le
  have hnew : Chn 0 (((pendingOf st).setIfInBounds i (sa, na + nb, pw)).eraseIdxIfInBounds (i + 1)).toList e := by
    rw [Array.toList_eraseIdxIfInBounds, Array.toList_setIfInBounds, hs]
    have := set_erase (pre := pre) (post := post) (x := (sa, na, pw)) (y := (sa + na, nb, pw')) (v := (sa, na + nb, pw))
    rw [hlen] at this
    rw [this]
    exact c1.join ⟨rfl, by omega, by rw [← Nat.add_assoc]; exact c3⟩
  refine wpS_bind (wpS_set ?_)
  generalize hP : ((pendingOf st).setIfInBounds i (sa, na + nb, pw)).eraseIdxIfInBounds (i + 1) = P at hnew ⊢
  have hB2 : PB κ a₀ (setPending st P) := ⟨hB.perm, hB.kind, hB.failed⟩
  have hsz := hB.size
  have hmem : ∀ p, p ∈ (arrOf st).toList → p ∈ a₀.toList := fun p hp => (Array.perm_iff_toList_perm.mp hB.perm).mem_iff.mp hp
  refine wpS_bind (wS_elem (by omega) ?_)
  refine wpS_bind (wS_gallop hc hB2.kind (hmem _ (by simp)) hmem (by omega) (by omega) fun k hk => ?_)
  dsimp only
  by_cases e1 : na - k = 0
  · rw [if_pos (by simpa using e1)]
    exact wpS_pure (h _ hB2 hnew)
  rw [if_neg (by simpa using e1)]
  refine wpS_bind (wS_elem (by omega) ?_)
  refine wpS_bind (wS_gallop hc hB2.kind (hmem _ (by simp)) hmem (by omega) (by omega) fun m hm => ?_)
  dsimp only
  by_cases e2 : m = 0
  · rw [if_pos (by simpa using e2)]
    exact wpS_pure (h _ hB2 hnew)
  rw [if_neg (by simpa using e2)]
  have z1 : ((arrOf st).extract (sa + k) (sa + na)).size = na - k := by rw [Array.size_extract]; omega
  have z2 : ((arrOf st).extract (sa + na) (sa + na + m)).size = m := by rw [Array.size_extract]; omega
  have fin : ∀ (r : Array Keyed) (st' : SortSt), Mgd ((arrOf st).extract (sa + k) (sa + na)) ((arrOf st).extract (sa + na) (sa + na + m)) r → Same (setPending st P) st' →
      wpS (model prog w) A E s (do
        modify fun s => setArr s (r.toList.zipIdx.foldl (fun a (x : Keyed × Nat) => a.setIfInBounds (sa + k + x.2) x.1) (arrOf s))
        return (failedOf (← get)).isNone : StateT SortSt Sem Bool) Q st' := by
    intro r st' hr hs
    refine wpS_bind (wpS_modify ?_)
    refine wpS_bind (wpS_get ?_)
    have hf : failedOf st' = none := hs.failed.trans hB.failed
    show wpS _ _ _ _ (pure (failedOf st').isNone) Q _
    rw [hf]
    refine wpS_pure (h _ ⟨?_, hs.kind.trans hB.kind, hf⟩ (by show Chn 0 (pendingOf st').toList e; rw [hs.pend]; exact hnew))
    have ha : arrOf st' = arrOf st := hs.arr
    show Array.Perm (r.toList.zipIdx.foldl (fun (a : Array Keyed) (x : Keyed × Nat) => a.setIfInBounds (sa + k + x.2) x.1) (arrOf st')) a₀
    rw [ha]
    refine Array.Perm.trans (Array.perm_iff_toList_perm.mpr ?_) hB.perm
    have hl := hr.length_eq
    rw [List.length_append, Array.length_toList, Array.length_toList, Array.length_toList, z1, z2] at hl
    rw [writes (sa + k) r.toList 0 (arrOf st) (by rw [Array.length_toList]; omega), Array.length_toList, hl]
    have d : (arrOf st).toList = (arrOf st).toList.take (sa + k) ++ (((arrOf st).extract (sa + k) (sa + na)).toList ++ ((arrOf st).extract (sa + na) (sa + na + m)).toList) ++ (arrOf st).toList.drop (sa + k + 0 + (na - k + m)) := by
      rw [← List.append_assoc, ← take_ext (by omega), ← take_ext (by omega), show sa + k + 0 + (na - k + m) = sa + na + m by omega, List.take_append_drop]
    conv => rhs; rw [d]
    exact List.Perm.append_right _ (List.Perm.append_left _ hr)
  split
  · exact wpS_bind (wS_mergeLo hc hB2.kind (ext_mem hmem) (ext_mem hmem) (by omega) (by omega) fun r st' hr hs => fin r st' hr hs)
  · exact wpS_bind (wS_mergeHi hc hB2.kind (ext_mem hmem) (ext_mem hmem) (by omega) (by omega) fun r st' hr hs => fin r st' hr hs)
end
end Mine
/-! part S6 -/
namespace Mine
open PySem PyProof.Rows
section
variable {prog : Program} {w : World} {A : Around} {E : Value → Shared → Prop} {s : Shared}
variable {κ : SortKind} {a₀ : Array Keyed}

theorem ite_lt1 {c : Prop} [Decidable c] {a b d : Nat} (ha : a + 1 < d) (hb : b + 1 < d) : (if c then a else b) + 1 < d := by split <;> assumption
theorem wS_sortRuns {st : SortSt} {Q : Unit → SortSt → Prop} (hc : Cmps prog w A s κ a₀) (hB : PB κ a₀ st) (hp : pendingOf st = #[])
    (h : ∀ st', PB κ a₀ st' → Q () st') : wpS (model prog w) A E s sortRuns' Q st := by
  rw [sortRuns'_eq]
  refine wpS_bind (wpS_get ?_)
  dsimp only
  rw [hB.size]
  refine wpS_bind (wpS_mono (wpS_forRange
    (I := fun x c st' => c.1 = none ∧ x ≤ c.2 ∧ c.2 ≤ a₀.size ∧ PB κ a₀ st' ∧ Chn 0 (pendingOf st').toList c.2)
    (Q := fun c st' => c.1 = none ∧ c.2 ≤ a₀.size ∧ PB κ a₀ st' ∧ Chn 0 (pendingOf st').toList c.2) ?step ?fin ⟨rfl, Nat.le_refl _, Nat.zero_le _, hB, by rw [hp]; rfl⟩) ?post)
  case fin =>
    rintro ⟨c, lo⟩ st' ⟨hc, hx, hl, hB', hp'⟩
    exact ⟨hc, hl, hB', hp'⟩
  case step =>
    rintro x ⟨c, lo⟩ st' _ hx ⟨e, hxl, hl, hB', hp'⟩
    dsimp only at e hxl hl hp'
    subst e
    dsimp only
    by_cases hge : lo ≥ a₀.size
    · rw [if_pos hge]
      exact wpS_pure ⟨rfl, hl, hB', hp'⟩
    rw [if_neg hge]
    refine wpS_bind (wS_count hc hB' (by omega) (by omega) fun m st2 hB2 hp2 hm1 hm2 => ?_)
    dsimp only
    have hp2' : Chn 0 (pendingOf st2).toList lo := by rw [hp2]; exact hp'
    by_cases hlt : m < minRun' a₀.size a₀.size 0
    · rw [if_pos hlt]
      refine wpS_bind (wS_rule ?_)
      refine wpS_bind (wS_binary hc hB2 (by omega) fun st3 hB3 hp3 => ?_)
      simp only [Bool.not_true, Bool.false_eq_true, if_false]
      have hp3' : Chn 0 (pendingOf st3).toList lo := by rw [hp3]; exact hp2'
      have hn : 1 ≤ min (a₀.size - lo) (minRun' a₀.size a₀.size 0) := by omega
      have hln : lo + min (a₀.size - lo) (minRun' a₀.size a₀.size 0) ≤ a₀.size := by omega
      clear hp3 hp2' hp2 hB2
      generalize min (a₀.size - lo) (minRun' a₀.size a₀.size 0) = n at hn hln ⊢
      generalize st3 = st2 at hB3 hp3' ⊢
      have hB3q := hB3
      refine wpS_bind (wpS_get ?_)
      cases hb : (pendingOf st2).back? with
      | none =>
        dsimp only
        refine wpS_bind (wpS_modify (wpS_pure ⟨rfl, by dsimp only; omega, hln, ⟨hB3q.perm, hB3q.kind, hB3q.failed⟩, ?_⟩))
        show Chn 0 ((pendingOf st2).push (lo, n, 0)).toList (lo + n)
        rw [Array.toList_push]
        exact hp3'.snoc hn
      | some z =>
        obtain ⟨s1, n1, p1⟩ := z
        dsimp only
        refine wpS_bind (wpS_mono (wpS_forRange (I := fun _ c st3 => c = (none, ()) ∧ PB κ a₀ st3 ∧ Chn 0 (pendingOf st3).toList lo) (Q := fun c st3 => c = (none, ()) ∧ PB κ a₀ st3 ∧ Chn 0 (pendingOf st3).toList lo) ?istep (fun _ _ hh => hh) ⟨rfl, hB3q, hp3'⟩) ?ipost)
        case istep =>
          rintro y c st3 _ _ ⟨rfl, hB3, hp3⟩
          refine wpS_bind (wpS_get ?_)
          by_cases hgt : (pendingOf st3).size > 1
          · rw [if_pos hgt, getElem?_pos (pendingOf st3) _ (by omega)]
            generalize (pendingOf st3)[(pendingOf st3).size - 2] = o
            obtain ⟨o1, o2, older⟩ := o
            dsimp only
            split
            · exact wpS_pure ⟨rfl, hB3, hp3⟩
            · refine wpS_bind (wS_mergeAt hc hB3 hp3 hl (by omega) fun st4 hB4 hp4 => ?_)
              exact wpS_pure ⟨rfl, hB4, hp4⟩
          · rw [if_neg hgt]
            exact wpS_pure ⟨rfl, hB3, hp3⟩
        case ipost =>
          rintro c st3 ⟨rfl, hB3, hp3⟩
          dsimp only
          refine wpS_bind (wpS_modify (wpS_bind (wpS_modify (wpS_pure ⟨rfl, by dsimp only; omega, hln, ⟨hB3.perm, hB3.kind, hB3.failed⟩, ?_⟩))))
          show Chn 0 (((pendingOf st3).modify ((pendingOf st3).size - 1) fun x => (x.fst, x.2.fst, power' a₀.size (2 * s1 + n1) (2 * s1 + n1 + n1 + n) a₀.size)).push (lo, n, 0)).toList (lo + n)
          rw [Array.toList_push]
          refine Chn.snoc (hp3.powers ?_) hn
          rw [Array.toList_modify]
          apply List.ext_getElem?
          intro j
          rw [List.getElem?_map, List.getElem?_map, List.getElem?_modify]
          cases (pendingOf st3).toList[j]? with
          | none => simp
          | some v =>
            by_cases hj : (pendingOf st3).size - 1 = j <;> simp [hj]
    · rw [if_neg hlt]
      have hn := hm1
      have hln : lo + m ≤ a₀.size := by omega
      refine wpS_bind (wpS_get ?_)
      cases hb : (pendingOf st2).back? with
      | none =>
        dsimp only
        refine wpS_bind (wpS_modify (wpS_pure ⟨rfl, by dsimp only; omega, hln, ⟨hB2.perm, hB2.kind, hB2.failed⟩, ?_⟩))
        show Chn 0 ((pendingOf st2).push (lo, m, 0)).toList (lo + m)
        rw [Array.toList_push]
        exact hp2'.snoc hn
      | some z =>
        obtain ⟨s1, n1, p1⟩ := z
        dsimp only
        refine wpS_bind (wpS_mono (wpS_forRange (I := fun _ c st3 => c = (none, ()) ∧ PB κ a₀ st3 ∧ Chn 0 (pendingOf st3).toList lo) (Q := fun c st3 => c = (none, ()) ∧ PB κ a₀ st3 ∧ Chn 0 (pendingOf st3).toList lo) ?istep (fun _ _ hh => hh) ⟨rfl, hB2, hp2'⟩) ?ipost)
        case istep =>
          rintro y c st3 _ _ ⟨rfl, hB3, hp3⟩
          refine wpS_bind (wpS_get ?_)
          by_cases hgt : (pendingOf st3).size > 1
          · rw [if_pos hgt, getElem?_pos (pendingOf st3) _ (by omega)]
            generalize (pendingOf st3)[(pendingOf st3).size - 2] = o
            obtain ⟨o1, o2, older⟩ := o
            dsimp only
            split
            · exact wpS_pure ⟨rfl, hB3, hp3⟩
            · refine wpS_bind (wS_mergeAt hc hB3 hp3 hl (by omega) fun st4 hB4 hp4 => ?_)
              exact wpS_pure ⟨rfl, hB4, hp4⟩
          · rw [if_neg hgt]
            exact wpS_pure ⟨rfl, hB3, hp3⟩
        case ipost =>
          rintro c st3 ⟨rfl, hB3, hp3⟩
          dsimp only
          refine wpS_bind (wpS_modify (wpS_bind (wpS_modify (wpS_pure ⟨rfl, by dsimp only; omega, hln, ⟨hB3.perm, hB3.kind, hB3.failed⟩, ?_⟩))))
          show Chn 0 (((pendingOf st3).modify ((pendingOf st3).size - 1) fun x => (x.fst, x.2.fst, power' a₀.size (2 * s1 + n1) (2 * s1 + n1 + n1 + m) a₀.size)).push (lo, m, 0)).toList (lo + m)
          rw [Array.toList_push]
          refine Chn.snoc (hp3.powers ?_) hn
          rw [Array.toList_modify]
          apply List.ext_getElem?
          intro j
          rw [List.getElem?_map, List.getElem?_map, List.getElem?_modify]
          cases (pendingOf st3).toList[j]? with
          | none => simp
          | some v =>
            by_cases hj : (pendingOf st3).size - 1 = j <;> simp [hj]
  case post =>
    rintro ⟨c, lo⟩ st' ⟨hc, hl, hB', hp'⟩
    dsimp only at hc hl hp'
    subst hc
    dsimp only
    refine wpS_bind (wpS_mono (wpS_forRange (I := fun _ c st3 => c = (none, ()) ∧ PB κ a₀ st3 ∧ Chn 0 (pendingOf st3).toList lo) (Q := fun c st3 => c = (none, ()) ∧ PB κ a₀ st3 ∧ Chn 0 (pendingOf st3).toList lo) ?istep (fun _ _ hh => hh) ⟨rfl, hB', hp'⟩) ?ipost)
    case istep =>
      rintro y c st3 _ _ ⟨rfl, hB3, hp3⟩
      refine wpS_bind (wpS_get ?_)
      by_cases hle : (pendingOf st3).size ≤ 1
      · rw [if_pos hle]
        exact wpS_pure ⟨rfl, hB3, hp3⟩
      · rw [if_neg hle]
        refine wpS_bind (wS_mergeAt hc hB3 hp3 hl (ite_lt1 (by omega) (by omega)) fun st4 hB4 hp4 => ?_)
        exact wpS_pure ⟨rfl, hB4, hp4⟩
    case ipost =>
      rintro c st3 ⟨rfl, hB3, hp3⟩
      exact wpS_pure (h st3 hB3)
end
end Mine
/-! part S7 -/
namespace Mine
open PySem PyProof.Rows PySem.W
abbrev tupO (c : Int) (t : Tok) (l : Int) (u : Tok) (n : Nat) : Obj := { cls := .type "tuple", data := .seq #[.int c t, .int l u] n }
def TupIs (h : Heap) (v : Value) (p : Int × Int) : Prop := ∃ a t u n, v = .ref a ∧ h.get? a = some (tupO p.1 t p.2 u n)
theorem TupIs.keep {h h' : Heap} {v : Value} {p : Int × Int} (x : TupIs h v p) (hk : ∀ b o, h.get? b = some o → h'.get? b = some o) : TupIs h' v p :=
  let ⟨a, t, u, n, e, g⟩ := x; ⟨a, t, u, n, e, hk _ _ g⟩
theorem zip_snd {α : Type} : ∀ (l : List α), (l.zip l).map (·.2) = l
  | [] => rfl
  | v :: r => by rw [List.zip_cons_cons, List.map_cons, zip_snd r]
section
variable {prog : Program} {w : World} {A : Around} {E : Value → Shared → Prop} {s : Shared}

theorem tup_lt {x y : Value} {p q : Int × Int} {Q : Bool → Shared → Prop} (hx : TupIs s.heap x p) (hy : TupIs s.heap y q) (h : ∀ b, Q b s) : wpAny (model prog w) A (keyLt' (tuples' true) x y) Q E s := by
  obtain ⟨a, t, u, n, rfl, ha⟩ := hx
  obtain ⟨b, t', u', n', rfl, hb⟩ := hy
  refine kat_lt ha rfl hb rfl ?_
  refine kat_cons (wpAny_eqBool_int (kat_go (fun _ => kat_yes ?_) fun _ => kat_no (oneLt_int (h _))))
  refine kat_cons (wpAny_eqBool_int (kat_go (fun _ => kat_yes (kat_nil (h _))) fun _ => kat_no ?_))
  show wpAny _ _ (oneLt' false _ _) _ _ _
  exact kat_one _ _ (show wpAny (model prog w) A (compareOp .Lt (.int p.2 u) (.int q.2 u')) _ _ s from lt_int (h _))

theorem tups_cmps {vs : List Value} (ht : ∀ v ∈ vs, ∃ p, TupIs s.heap v p) : Cmps prog w A s (tuples' true) (pairsOf vs) := by
  intro p hp q hq Q E h
  rw [pairsOf_toList] at hp hq
  obtain ⟨e1, m1⟩ := mem_zip_self hp
  obtain ⟨e2, m2⟩ := mem_zip_self hq
  obtain ⟨p', t1⟩ := ht _ m1
  obtain ⟨q', t2⟩ := ht _ m2
  exact tup_lt t1 t2 h

theorem tups_firsts {h : Heap} : ∀ (vs : List Value), (∀ v ∈ vs, ∃ p, TupIs h v p) → ∃ fs, KatTups h vs fs ∧ fs.length = vs.length ∧ ∀ f ∈ fs, ∃ i t, f = .int i t
  | [], _ => ⟨[], .nil, rfl, by simp⟩
  | v :: r, ht => by
    obtain ⟨fs, k, l, m⟩ := tups_firsts r fun u hu => ht u (List.mem_cons_of_mem _ hu)
    obtain ⟨p, a, t, u, n, rfl, ha⟩ := ht v List.mem_cons_self
    refine ⟨.int p.1 t :: fs, .cons ha rfl rfl rfl k, by simp [l], fun f hf => ?_⟩
    rcases List.mem_cons.mp hf with rfl | hf
    · exact ⟨_, _, rfl⟩
    · exact m f hf

theorem tups_kind {vs : List Value} {Q : SortKind → Shared → Prop} (h1 : 0 < vs.length) (ht : ∀ v ∈ vs, ∃ p, TupIs s.heap v p) (h : Q (tuples' true) s) : wpAny (model prog w) A (keyKind' vs.toArray) Q E s := by
  obtain ⟨fs, k, l, m⟩ := tups_firsts vs ht
  refine kat_kind (T := .type "int") k (by omega) (fun f hf => ?_) (by decide) (by exact h)
  obtain ⟨i, t, rfl⟩ := m f hf
  exact Looks.of_pure rfl

theorem list_sort_perm {κ : SortKind} {a : Addr} {vs : List Value} {n : Nat} {P : Fin → Shared → Prop} (ho : s.heap.get? a = some (seqObj "list" vs.toArray n)) (hz : vs.length ≤ sizeLine)
    (hkind : ∀ s' : Shared, (∀ b o, b ≠ a → s.heap.get? b = some o → s'.heap.get? b = some o) → 2 ≤ vs.length → ∀ (Q : SortKind → Shared → Prop), Q κ s' → wpAny (model prog w) A (keyKind' vs.toArray) Q E s')
    (hc : ∀ s' : Shared, (∀ b o, b ≠ a → s.heap.get? b = some o → s'.heap.get? b = some o) → Cmps prog w A s' κ (pairsOf vs))
    (h : ∀ out : List Value, out.Perm vs → P (.done (.ret .none)) { s with heap := sortedHeap s.heap a vs out.toArray }) :
    wpAny (model prog w) A (Builtin.«list.sort» ⟨[.ref a], []⟩) P E s := by
  rw [list_sort_plain]
  have ha : a < s.heap.objs.size := Heap.lt_size ho
  refine wpAny_bind (listItems_at ho rfl ?_)
  refine wpAny_bind (listUpdate_at ho rfl ?_ (by simpa using hz) (by simp))
  obtain ⟨e1, ho1⟩ : ∃ e1, (s.heap.update a (Obj.mapSeq fun _ => #[])).get? a = some (seqObj "list" #[] e1) := ⟨_, get?_update_seq ho (fun _ => #[])⟩
  refine wpAny_bind (seqEpoch_at ho1 rfl ?_)
  refine wpAny_bind (wpAny_newTuple ?_ (by simpa using hz))
  refine wpAny_bind (wpAny_newList ?_ (by simp))
  refine wpAny_holding ?_
  have ho6 : (((s.heap.update a (Obj.mapSeq fun _ => #[])).push (seqObj "tuple" vs.toArray 0)).push (seqObj "list" #[] 0)).get? a = some (seqObj "list" #[] e1) := by
    rw [Heap.get?_push_ne _ _ _ (by rw [size_push', Heap.size_update]; exact Nat.ne_of_lt (Nat.lt_succ_of_lt ha)), Heap.get?_push_ne _ _ _ (by rw [Heap.size_update]; exact Nat.ne_of_lt ha)]
    exact ho1
  have keep : ∀ b o, b ≠ a → s.heap.get? b = some o → (((s.heap.update a (Obj.mapSeq fun _ => #[])).push (seqObj "tuple" vs.toArray 0)).push (seqObj "list" #[] 0)).get? b = some o := fun b o hb e =>
    Heap.get?_push_of_some _ (Heap.get?_push_of_some _ (by rw [Heap.get?_update_ne _ _ _ _ hb]; exact e))
  show wpAny (model prog w) A _ P E { s with heap := ((s.heap.update a (Obj.mapSeq fun _ => #[])).push (seqObj "tuple" vs.toArray 0)).push (seqObj "list" #[] 0) }
  dsimp only
  have hsz : vs.toArray.size = vs.length := by simp
  have fin : ∀ st' : SortSt, (arrOf st').Perm (pairsOf vs) → P (.done (.ret .none)) { s with heap := sortedHeap s.heap a vs ((arrOf st').map (·.2)) } := by
    intro st' hp
    have hl : ((arrOf st').toList.map (·.2)).Perm vs := by
      have := (Array.perm_iff_toList_perm.mp hp).map (·.2)
      rw [pairsOf_toList] at this
      rwa [zip_snd vs] at this
    have := h _ hl
    have e : (List.map (fun x : Keyed => x.2) (arrOf st').toList).toArray = (arrOf st').map (·.2) := by
      apply Array.toList_inj.mp; simp
    rwa [e] at this
  by_cases h2 : vs.toArray.size < 2
  · rw [if_pos h2, if_pos h2]
    refine wpAny_bind (wpAny_pure ?_)
    rw [StateT.run_pure]
    refine wpAny_bind (wpAny_pure ?_)
    dsimp only
    refine wpAny_bind (seqEpoch_at ho6 rfl ?_)
    refine wpAny_bind (listUpdate_at ho6 rfl ?_ (by simp) (hsz2 := by rw [Array.size_map]; show (pairsOf vs).size ≤ _; rw [pairsOf_size]; omega))
    simp only [bne_self_eq_false, Bool.false_eq_true, if_false]
    exact wpAny_pure (fin (SortSt.mk' general' (vs.toArray.zip vs.toArray) #[] 7 none) (Array.Perm.refl _))
  · rw [if_neg h2, if_neg h2]
    refine wpAny_bind (hkind _ keep (by omega) _ ?_)
    refine wpAny_bind (wpAny_mono (wS_sortRuns (κ := κ) (a₀ := pairsOf vs) (st := SortSt.mk' κ (vs.toArray.zip vs.toArray) #[] 7 none)
      (Q := fun _ st' => PB κ (pairsOf vs) st') (hc _ keep) ⟨Array.Perm.refl _, rfl, rfl⟩ rfl fun st' hB => hB) ?_ fun _ _ e => e)
    rintro ⟨⟨⟩, st'⟩ s' ⟨rfl, hB⟩
    dsimp only
    refine wpAny_bind (seqEpoch_at ho6 rfl ?_)
    refine wpAny_bind (listUpdate_at ho6 rfl ?_ (by simp) (hsz2 := by refine Nat.le_trans (Nat.le_of_eq ((Array.size_map ..).trans (hB.perm.size_eq.trans (pairsOf_size _)))) ?_; omega))
    rw [hB.failed]
    simp only [bne_self_eq_false, Bool.false_eq_true, if_false]
    exact wpAny_pure (fin st' hB.perm)

theorem sorted_tups {l : Addr} {vs : List Value} {Q : Value → Shared → Prop} (hl : s.heap.IsList l vs.toArray) (hz : vs.length ≤ sizeLine) (ht : ∀ v ∈ vs, ∃ p, TupIs s.heap v p)
    (h : ∀ (D : Addr) (out : List Value) (n : Nat) (h' : Heap), out.Perm vs → (∀ b o, s.heap.get? b = some o → h'.get? b = some o) → h'.get? D = some (listOf out.toArray n) → s.heap.objs.size ≤ D → Q (.ref D) { s with heap := h' }) :
    wpAny (model prog w) A (call (.builtin "sorted") [.ref l]) Q E s := by
  refine Calls.call_function_entry kind_sorted plain_sorted entry_sorted (args_sorted1 _) ?_
  unfold Builtin.«sorted»
  refine wpAny_bind (m := checkCount "sorted" 1 1 _) (wpAny_pure ?_)
  refine wpAny_bind (collect_list hl ?_ hz)
  refine wpAny_bind (wpAny_newList ?_ (by simpa using hz))
  have hsz : ((s.heap.push (seqObj "list" #[] 0)).update s.heap.objs.size (Obj.mapSeq (· ++ vs.toArray))).objs.size = s.heap.objs.size + 1 := by
    rw [Heap.size_update, size_push']
  have hoL : (((s.heap.push (seqObj "list" #[] 0)).update s.heap.objs.size (Obj.mapSeq (· ++ vs.toArray))).push (seqObj "list" vs.toArray 0)).get? (s.heap.objs.size + 1) = some (seqObj "list" vs.toArray 0) := by
    rw [← hsz]; exact Heap.get?_push_size _ rfl
  have keep : ∀ b o, s.heap.get? b = some o → (((s.heap.push (seqObj "list" #[] 0)).update s.heap.objs.size (Obj.mapSeq (· ++ vs.toArray))).push (seqObj "list" vs.toArray 0)).get? b = some o := fun b o e => by
    refine Heap.get?_push_of_some _ ?_
    rw [Heap.get?_update_ne _ _ _ _ (Nat.ne_of_lt (Heap.lt_size e))]
    exact Heap.get?_push_of_some _ e
  show wpAny _ _ _ _ _ { s with heap := ((s.heap.push (seqObj "list" #[] 0)).update s.heap.objs.size (Obj.mapSeq (· ++ vs.toArray))).push (seqObj "list" vs.toArray 0) }
  rw [hsz]
  generalize hH : ((s.heap.push (seqObj "list" #[] 0)).update s.heap.objs.size (Obj.mapSeq (· ++ vs.toArray))).push (seqObj "list" vs.toArray 0) = H at *
  have ne : ∀ b o, s.heap.get? b = some o → b ≠ s.heap.objs.size + 1 := fun b o e => Nat.ne_of_lt (Nat.lt_succ_of_lt (Heap.lt_size e))
  have ht' : ∀ s' : Shared, (∀ b o, b ≠ s.heap.objs.size + 1 → H.get? b = some o → s'.heap.get? b = some o) → ∀ v ∈ vs, ∃ p, TupIs s'.heap v p := fun s' k v hv => by
    obtain ⟨p, x⟩ := ht v hv
    exact ⟨p, x.keep fun b o e => k b o (ne b o e) (keep b o e)⟩
  refine wpAny_bind (wpAny_holding (wpAny_call_entry slot_list_sort ⟨_, hoL, rfl⟩ entry_list_sort (list_sort_perm (κ := tuples' true) hoL hz
    (fun s' k h2 Q' hq => tups_kind (by omega) (ht' s' k) hq) (fun s' k => tups_cmps (ht' s' k)) fun out hp => ⟨_, rfl, ?_⟩) (args_list_sort _)))
  refine wpAny_pure ⟨_, rfl, ?_⟩
  obtain ⟨e1, ho1⟩ : ∃ e1, (H.update (s.heap.objs.size + 1) (Obj.mapSeq fun _ => #[])).get? (s.heap.objs.size + 1) = some (seqObj "list" #[] e1) := ⟨_, get?_update_seq hoL (fun _ => #[])⟩
  have ho2 : (((H.update (s.heap.objs.size + 1) (Obj.mapSeq fun _ => #[])).push (seqObj "tuple" vs.toArray 0)).push (seqObj "list" #[] 0)).get? (s.heap.objs.size + 1) = some (seqObj "list" #[] e1) :=
    Heap.get?_push_of_some _ (Heap.get?_push_of_some _ ho1)
  refine h _ out _ _ hp (fun b o e => ?_) (get?_update_seq ho2 fun _ => out.toArray) (Nat.le_succ _)
  unfold sortedHeap
  rw [Heap.get?_update_ne _ _ _ _ (ne b o e)]
  refine Heap.get?_push_of_some _ (Heap.get?_push_of_some _ ?_)
  rw [Heap.get?_update_ne _ _ _ _ (ne b o e)]
  exact keep b o e
end
end Mine
/-! part C1 -/
namespace Mine
open PySem PySem.W PyProof.Rows PySem.Calls PySem.Spec
theorem filled (w : World) (h₀ : Heap) : (hd.heap_39 w.params).In h₀ → PySem.Challenge.rw_ec5003_01 = PySem.Challenge.rw_ec5003_01 := by
  k_fill
  intro _; rfl
abbrev Kp (h h' : Heap) : Prop := ∀ b o, h.get? b = some o → h'.get? b = some o
/-- a list whose first item is the int k -/
def WtIs (h : Heap) (v : Value) (k : Int) : Prop := ∃ a its n t, v = .ref a ∧ h.get? a = some (listOf its n) ∧ its[0]? = some (.int k t)
theorem WtIs.keep {h h' : Heap} {v : Value} {k : Int} (x : WtIs h v k) (hk : Kp h h') : WtIs h' v k :=
  let ⟨a, its, n, t, e, g, i⟩ := x; ⟨a, its, n, t, e, hk _ _ g, i⟩

theorem item_raw {prog : Program} {w : World} {A : Around} {E : Value → Shared → Prop} {s : Shared} {value slice : PySem.Expr} {l : Addr} {its : Array Value} {k : Int} {u : Tok} {v : Value} {Q : Value → Shared → Prop}
    (hl : s.heap.IsList l its) (h0 : 0 ≤ k) (hf : k < 2 ^ 63) (hx : its[k.toNat]? = some v) (h : Q v s)
    (hs : subscripted slice false (.ref l) (.int k u) = operate [.ref l, .int k u] (getItem (.ref l) (.int k u)) := by with_unfolding_all rfl) :
    wpAny (model prog w) A (subscriptTail value slice (.ref l) (.int k u)) Q E s :=
  tail_any hl.typeIs slot_list_getitem.lookup (wpAny_getItem_list hl h0 hf hx h) hs

theorem weight_spec {w : World} {p : Program} {loose : List Str} {mean : ExcName → Option Value} {mg mb : Str → Option Value} {dp un : Nat} {gd : Option (List Code)} {cn : Str} {cs : Scope} {a : Addr} {ccd : Value} {cl : List (Str × Addr)} {outer : List Env} {A₀ : Around} {base h₀ : Heap} {L : Addr} {m : Str → Option Value} {s : Shared} {Q E : Value → Shared → Prop}
  {v : Value} {k : Int}
  (B : Below A₀ base outer h₀) (F : Fr h₀ L s.heap m) (X : (hd.heap_39 w.params).In h₀) (T : Top p loose mean mg mb h₀) (hk : cs.kind = .function)
  (hv : WtIs s.heap v k) (hdp : dp + 1 < recursionLimit) (hun : un + 8 < cLine)
  (hret : ∀ t h' tk', Kp s.heap h' → Q (.int k t) {s with heap := h', toks := tk'}) :
  wpAny (model PySem.Challenge.rw_ec5003_01.row.prog w) (ktrTop dp un gd cn cs L a ccd cl outer) (call (.ref 39) [v]) Q E s := by
  obtain ⟨l, its, n, t, rfl, hl, hi⟩ := hv
  refine wpAny_call ?_
  refine' code_defG (news := []) ?k1 ?k2 ?k3 ?k4 ?k5 ?kA ?kF ?kK ?k6 ?k7 ?k8 ?k9 ?kB ?_ ?c2 ?c3 ?c4 ?c5
  (case kA => exact rfl)
  (case kF => exact rfl)
  (case kK => exact hk)
  (case k1 => exact B)
  (case k2 => exact F)
  (case k3 => exact X)
  (case k4 => exact News.nil)
  (case k5 => exact T)
  (case k6 => k_is)
  (case k7 => k_is)
  (case k8 => ktr_room)
  (case k9 => exact kp_binds (X.keeps F.keep) (fun _ => rfl))
  (case c5 => decide)
  (case kB => exact locs rfl)
  (case c2 => exact rfl)
  (case c3 => exact rfl)
  (case c4 => exact rfl)
  k_whole
  intro g L' h' FG F' N' B' X' T' GS
  dsimp only
  k_fold
  have hg : g.IsList l its := ⟨_, GS l _ hl (by simp), rfl, _, rfl⟩
  have hgk : Kp s.heap g := fun b o e => GS b o e (by simp)
  clear hl
  k_unmd
  k_steps
  refine item_raw (hg.at fun o e => F'.keep _ _ e) (by decide) (by decide) hi ?_
  dsimp only
  show LeaveK h₀ L m g _ _ _
  exact ⟨L', _, [], F', N', fun _ _ => hret _ _ _ fun b o e => F'.keep _ _ (hgk b o e)⟩
end Mine
/-! part C2 -/
namespace Mine
open PySem PySem.W PyProof.Rows PySem.Calls PySem.Spec
theorem filled2 (w : World) (h₀ : Heap) : (hd.heap_39 w.params).In h₀ → PySem.Challenge.rw_ec5003_01 = PySem.Challenge.rw_ec5003_01 := by
  k_fill
  intro _; rfl
def Stop (P : Prop) : Prop := P
theorem stop_in {P : Prop} (h : Stop P) : P := h
theorem Stop.out {P : Prop} (h : P) : Stop P := h
local macro_rules | `(tactic| walk_at "exec While Compare cons nil") => `(tactic| (refine stop_in ?_))
local macro_rules | `(tactic| walk_at "call ref") => `(tactic| (refine stop_in ?_))
local macro_rules | `(tactic| walk_at "eval Name") => `(tactic| (refine' ld ?kF ?hv ?_; (case kF => with_reducible assumption); (case hv => first | exact rfl | assumption | (simp (decide := true) only [↓reduceIte]; assumption))))
/-- the binary search, as the code makes it -/
def bisR (ks : List Int) (x : Int) (lo hi : Nat) : Nat :=
  if lo < hi then if x < ks.getD ((lo + hi) / 2) 0 then bisR ks x lo ((lo + hi) / 2) else bisR ks x ((lo + hi) / 2 + 1) hi else lo
termination_by hi - lo

theorem bisR_left {ks : List Int} {x : Int} {lo hi : Nat} (h : lo < hi) (hx : x < ks.getD ((lo + hi) / 2) 0) : bisR ks x lo hi = bisR ks x lo ((lo + hi) / 2) := by
  rw [bisR, if_pos h, if_pos hx]
theorem bisR_right {ks : List Int} {x : Int} {lo hi : Nat} (h : lo < hi) (hx : ¬ x < ks.getD ((lo + hi) / 2) 0) : bisR ks x lo hi = bisR ks x ((lo + hi) / 2 + 1) hi := by
  rw [bisR, if_pos h, if_neg hx]
theorem bisR_end {ks : List Int} {x : Int} {lo hi : Nat} (h : ¬ lo < hi) : bisR ks x lo hi = lo := by
  rw [bisR, if_neg h]
/-- a list's items, each a list whose first item is the key -/
structure Keyd (h : Heap) (l : Addr) (ks : List Int) : Prop where
  at' : ∃ its n, h.get? l = some (listOf its n) ∧ its.size = ks.length ∧ ∀ (i : Nat) (v : Value), its[i]? = some v → ∃ k, ks[i]? = some k ∧ WtIs h v k

theorem bisect_key {w : World} {p : Program} {loose : List Str} {mean : ExcName → Option Value} {mg mb : Str → Option Value} {dp un : Nat} {gd : Option (List Code)} {cn : Str} {cs : Scope} {a : Addr} {ccd : Value} {cl : List (Str × Addr)} {outer : List Env} {A₀ : Around} {base h₀ : Heap} {L : Addr} {m : Str → Option Value} {s : Shared} {Q E : Value → Shared → Prop}
  {l : Addr} {ks : List Int} {x : Int} {xt : Tok}
  (B : Below A₀ base outer h₀) (F : Fr h₀ L s.heap m) (X : (hd.heap_39 w.params).In h₀) (T : Top p loose mean mg mb h₀) (hk : cs.kind = .function)
  (hv : Keyd s.heap l ks) (hz : ks.length ≤ 16384) (hdp : dp + 2 < recursionLimit) (hun : un + 16 < cLine)
  (hret : ∀ t h' tk', Kp s.heap h' → Q (.int (bisR ks x 0 ks.length) t) {s with heap := h', toks := tk'}) :
  wpAny (model PySem.Challenge.rw_ec5003_01.row.prog w) (ktrTop dp un gd cn cs L a ccd cl outer) (call (.ref 32) [.ref l, .int x xt] [(Str.ofString "key", .ref 39)]) Q E s := by
  obtain ⟨its, n, hl, hlen, hel⟩ := hv.at'
  refine wpAny_call ?_
  refine' code_defG (news := []) ?k1 ?k2 ?k3 ?k4 ?k5 ?kA ?kF ?kK ?k6 ?k7 ?k8 ?k9 ?kB ?_ ?c2 ?c3 ?c4 ?c5
  (case kA => exact rfl)
  (case kF => exact rfl)
  (case kK => exact hk)
  (case k1 => exact B)
  (case k2 => exact F)
  (case k3 => exact X)
  (case k4 => exact News.nil)
  (case k5 => exact T)
  (case k6 => k_is)
  (case k7 => k_is)
  (case k8 => ktr_room)
  (case k9 => exact kp_binds (X.keeps F.keep) (fun _ => rfl))
  (case c5 => decide)
  (case kB => exact locs rfl)
  (case c2 => exact rfl)
  (case c3 => exact rfl)
  (case c4 => exact rfl)
  k_whole
  intro g L' h' FG F' N' B' X' T' GS
  dsimp only
  k_fold
  have hg : g.IsList l its := ⟨_, GS l _ hl (by simp), rfl, _, rfl⟩
  have hgk : Kp s.heap g := fun b o e => GS b o e (by simp)
  have hel' : ∀ (i : Nat) (v : Value), its[i]? = some v → ∃ k, ks[i]? = some k ∧ WtIs g v k := fun i v e => let ⟨k, e1, e2⟩ := hel i v e; ⟨k, e1, e2.keep hgk⟩
  clear hl hel
  k_unmd
  k_steps
  refine Stop.out ?_
  (rename Fr _ _ _ _ => F2)
  (rename News _ _ _ _ => N2)
  refine While_inv (n₀ := ks.length) (fun k m₁ news₁ => news₁ = [] ∧ m₁ (Str.ofString "a") = some (.ref l) ∧ m₁ (Str.ofString "x") = some (.int x xt) ∧ m₁ (Str.ofString "key") = some (.ref 39) ∧
    ∃ (lo hi : Nat) (tl th : Tok), m₁ (Str.ofString "lo") = some (.int lo tl) ∧ m₁ (Str.ofString "hi") = some (.int hi th) ∧ k = hi - lo ∧ hi ≤ ks.length ∧ bisR ks x lo hi = bisR ks x 0 ks.length) F2 N2 ?start ?turn ?pass
  case start =>
    refine ⟨rfl, ?e1, ?e2, ?e3, 0, ks.length, ?tl, ?th, ?e4, ?e5, rfl, Nat.le_refl _, rfl⟩
    case e1 => exact rfl
    case e2 => exact rfl
    case e3 => exact rfl
    case e4 => exact rfl
    case e5 => rw [← hlen]; exact rfl
  case pass => k_steps
  case turn =>
    rintro k m₁ news₁ h₁ tk₁ F₁ N₁ ⟨rfl, hma, hmx, hmk, lo, hi, tl, th, hml, hmh, hk, hhi, hb⟩
    k_steps
    · have hlt : lo < hi := by omega
      have hmid : ((lo : Int) + (hi : Int)).fdiv 2 = (((lo + hi) / 2 : Nat) : Int) := by
        rw [Int.fdiv_eq_ediv_of_nonneg _ (by omega)]; omega
      obtain ⟨v, hv1⟩ : ∃ v, its[(lo + hi) / 2]? = some v := ⟨_, getElem?_pos its _ (by omega)⟩
      obtain ⟨kk, hk1, hk2⟩ := hel' _ _ hv1
      (rename Fr _ _ _ _ => F3)
      (rename News _ _ _ _ => N3)
      refine item_raw (hg.at fun o e => F3.keep _ _ e) (by omega) (by omega) (v := v) (by rw [hmid]; exact hv1) ?_
      k_unmd
      k_steps
      refine Stop.out ?_
      refine weight_spec B' F3 X' T' rfl (hk2.keep F3.keep) (by show dp + 1 + 1 < recursionLimit; omega) (by show un + 3 + 8 < cLine; omega) fun t h' tk' hkp => ?_
      have F4 := F3.keeps hkp
      have N4 := N3.grown hkp
      clear F3 N3
      k_unmd
      k_steps
      · (rename Fr _ _ _ _ => F5)
        (rename News _ _ _ _ => N5)
        refine WhileStep.intro (n' := (lo + hi) / 2 - lo) F5 N5 (by omega) ⟨rfl, ?f1, ?f2, ?f3, lo, (lo + hi) / 2, tl, ?u1, ?f4, ?f5, rfl, by omega, ?f6⟩
        case f5 => rw [← hmid]; exact rfl
        case f6 => rw [← hb]; exact (bisR_left hlt (by rw [List.getD_eq_getElem?_getD, hk1]; assumption)).symm
        all_goals (simp (decide := true) only [↓reduceIte]; assumption)
      · (rename Fr _ _ _ _ => F5)
        (rename News _ _ _ _ => N5)
        refine WhileStep.intro (n' := hi - ((lo + hi) / 2 + 1)) F5 N5 (by omega) ⟨rfl, ?g1, ?g2, ?g3, (lo + hi) / 2 + 1, hi, ?u2, th, ?g4, ?g5, rfl, hhi, ?g6⟩
        case g4 => rw [Int.natCast_add, ← hmid]; exact rfl
        case g6 => rw [← hb]; exact (bisR_right hlt (by rw [List.getD_eq_getElem?_getD, hk1]; assumption)).symm
        all_goals (simp (decide := true) only [↓reduceIte]; assumption)
    · have e : bisR ks x 0 ks.length = lo := by rw [← hb]; exact bisR_end (by omega)
      have := hret tl h₁ tk₁ (fun b o e => F₁.keep _ _ (hgk b o e))
      rw [e] at this
      exact this
end Mine
/-! part C3 -/
namespace Mine
open PySem PySem.W PyProof.Rows PySem.Calls PySem.Spec
theorem filled3 (w : World) (h₀ : Heap) : (hd.heap_39 w.params).In h₀ → PySem.Challenge.rw_ec5003_01 = PySem.Challenge.rw_ec5003_01 := by
  k_fill
  intro _; rfl
local macro_rules | `(tactic| walk_at "exec While Compare cons nil") => `(tactic| (refine stop_in ?_))
local macro_rules | `(tactic| walk_at "call ref") => `(tactic| (refine stop_in ?_))
local macro_rules | `(tactic| walk_at "eval Name") => `(tactic| (refine' ld ?kF ?hv ?_; (case kF => with_reducible assumption); (case hv => first | exact rfl | assumption | (simp (decide := true) only [↓reduceIte]; assumption))))
structure Intd (h : Heap) (l : Addr) (ks : List Int) : Prop where
  at' : ∃ its n, h.get? l = some (listOf its n) ∧ its.size = ks.length ∧ ∀ (i : Nat) (v : Value), its[i]? = some v → ∃ k t, ks[i]? = some k ∧ v = .int k t
theorem bisect_key4 {w : World} {p : Program} {loose : List Str} {mean : ExcName → Option Value} {mg mb : Str → Option Value} {dp un : Nat} {gd : Option (List Code)} {cn : Str} {cs : Scope} {a : Addr} {ccd : Value} {cl : List (Str × Addr)} {outer : List Env} {A₀ : Around} {base h₀ : Heap} {L : Addr} {m : Str → Option Value} {s : Shared} {Q E : Value → Shared → Prop}
  {l : Addr} {ks : List Int} {x : Int} {xt t0 : Tok}
  (B : Below A₀ base outer h₀) (F : Fr h₀ L s.heap m) (X : (hd.heap_39 w.params).In h₀) (T : Top p loose mean mg mb h₀) (hk : cs.kind = .function)
  (hv : Keyd s.heap l ks) (hz : ks.length ≤ 16384) (hdp : dp + 2 < recursionLimit) (hun : un + 16 < cLine)
  (hret : ∀ t h' tk', Kp s.heap h' → Q (.int (bisR ks x 0 ks.length) t) {s with heap := h', toks := tk'}) :
  wpAny (model PySem.Challenge.rw_ec5003_01.row.prog w) (ktrTop dp un gd cn cs L a ccd cl outer) (call (.ref 32) [.ref l, .int x xt, .int 0 t0, .none] [(Str.ofString "key", .ref 39)]) Q E s := by
  obtain ⟨its, n, hl, hlen, hel⟩ := hv.at'
  refine wpAny_call ?_
  refine' code_defG (news := []) ?k1 ?k2 ?k3 ?k4 ?k5 ?kA ?kF ?kK ?k6 ?k7 ?k8 ?k9 ?kB ?_ ?c2 ?c3 ?c4 ?c5
  (case kA => exact rfl)
  (case kF => exact rfl)
  (case kK => exact hk)
  (case k1 => exact B)
  (case k2 => exact F)
  (case k3 => exact X)
  (case k4 => exact News.nil)
  (case k5 => exact T)
  (case k6 => k_is)
  (case k7 => k_is)
  (case k8 => ktr_room)
  (case k9 => exact kp_binds (X.keeps F.keep) (fun _ => rfl))
  (case c5 => decide)
  (case kB => exact locs rfl)
  (case c2 => exact rfl)
  (case c3 => exact rfl)
  (case c4 => exact rfl)
  k_whole
  intro g L' h' FG F' N' B' X' T' GS
  dsimp only
  k_fold
  have hg : g.IsList l its := ⟨_, GS l _ hl (by simp), rfl, _, rfl⟩
  have hgk : Kp s.heap g := fun b o e => GS b o e (by simp)
  have hel' : ∀ (i : Nat) (v : Value), its[i]? = some v → ∃ k, ks[i]? = some k ∧ WtIs g v k := fun i v e => let ⟨k, e1, e2⟩ := hel i v e; ⟨k, e1, e2.keep hgk⟩
  clear hl hel
  k_unmd
  k_steps
  refine Stop.out ?_
  (rename Fr _ _ _ _ => F2)
  (rename News _ _ _ _ => N2)
  refine While_inv (n₀ := ks.length) (fun k m₁ news₁ => news₁ = [] ∧ m₁ (Str.ofString "a") = some (.ref l) ∧ m₁ (Str.ofString "x") = some (.int x xt) ∧ m₁ (Str.ofString "key") = some (.ref 39) ∧
    ∃ (lo hi : Nat) (tl th : Tok), m₁ (Str.ofString "lo") = some (.int lo tl) ∧ m₁ (Str.ofString "hi") = some (.int hi th) ∧ k = hi - lo ∧ hi ≤ ks.length ∧ bisR ks x lo hi = bisR ks x 0 ks.length) F2 N2 ?start ?turn ?pass
  case start =>
    refine ⟨rfl, ?e1, ?e2, ?e3, 0, ks.length, ?tl, ?th, ?e4, ?e5, rfl, Nat.le_refl _, rfl⟩
    case e1 => exact rfl
    case e2 => exact rfl
    case e3 => exact rfl
    case e4 => exact rfl
    case e5 => rw [← hlen]; exact rfl
  case pass => k_steps
  case turn =>
    rintro k m₁ news₁ h₁ tk₁ F₁ N₁ ⟨rfl, hma, hmx, hmk, lo, hi, tl, th, hml, hmh, hk, hhi, hb⟩
    k_steps
    · have hlt : lo < hi := by omega
      have hmid : ((lo : Int) + (hi : Int)).fdiv 2 = (((lo + hi) / 2 : Nat) : Int) := by
        rw [Int.fdiv_eq_ediv_of_nonneg _ (by omega)]; omega
      obtain ⟨v, hv1⟩ : ∃ v, its[(lo + hi) / 2]? = some v := ⟨_, getElem?_pos its _ (by omega)⟩
      obtain ⟨kk, hk1, hk2⟩ := hel' _ _ hv1
      (rename Fr _ _ _ _ => F3)
      (rename News _ _ _ _ => N3)
      refine item_raw (hg.at fun o e => F3.keep _ _ e) (by omega) (by omega) (v := v) (by rw [hmid]; exact hv1) ?_
      k_unmd
      k_steps
      refine Stop.out ?_
      refine weight_spec B' F3 X' T' rfl (hk2.keep F3.keep) (by show dp + 1 + 1 < recursionLimit; omega) (by show un + 3 + 8 < cLine; omega) fun t h' tk' hkp => ?_
      have F4 := F3.keeps hkp
      have N4 := N3.grown hkp
      clear F3 N3
      k_unmd
      k_steps
      · (rename Fr _ _ _ _ => F5)
        (rename News _ _ _ _ => N5)
        refine WhileStep.intro (n' := (lo + hi) / 2 - lo) F5 N5 (by omega) ⟨rfl, ?f1, ?f2, ?f3, lo, (lo + hi) / 2, tl, ?u1, ?f4, ?f5, rfl, by omega, ?f6⟩
        case f5 => rw [← hmid]; exact rfl
        case f6 => rw [← hb]; exact (bisR_left hlt (by rw [List.getD_eq_getElem?_getD, hk1]; assumption)).symm
        all_goals (simp (decide := true) only [↓reduceIte]; assumption)
      · (rename Fr _ _ _ _ => F5)
        (rename News _ _ _ _ => N5)
        refine WhileStep.intro (n' := hi - ((lo + hi) / 2 + 1)) F5 N5 (by omega) ⟨rfl, ?g1, ?g2, ?g3, (lo + hi) / 2 + 1, hi, ?u2, th, ?g4, ?g5, rfl, hhi, ?g6⟩
        case g4 => rw [Int.natCast_add, ← hmid]; exact rfl
        case g6 => rw [← hb]; exact (bisR_right hlt (by rw [List.getD_eq_getElem?_getD, hk1]; assumption)).symm
        all_goals (simp (decide := true) only [↓reduceIte]; assumption)
    · have e : bisR ks x 0 ks.length = lo := by rw [← hb]; exact bisR_end (by omega)
      have := hret tl h₁ tk₁ (fun b o e => F₁.keep _ _ (hgk b o e))
      rw [e] at this
      exact this
theorem bisect_int {w : World} {p : Program} {loose : List Str} {mean : ExcName → Option Value} {mg mb : Str → Option Value} {dp un : Nat} {gd : Option (List Code)} {cn : Str} {cs : Scope} {a : Addr} {ccd : Value} {cl : List (Str × Addr)} {outer : List Env} {A₀ : Around} {base h₀ : Heap} {L : Addr} {m : Str → Option Value} {s : Shared} {Q E : Value → Shared → Prop}
  {l : Addr} {ks : List Int} {x : Int} {xt t0 : Tok}
  (B : Below A₀ base outer h₀) (F : Fr h₀ L s.heap m) (X : (hd.heap_39 w.params).In h₀) (T : Top p loose mean mg mb h₀) (hk : cs.kind = .function)
  (hv : Intd s.heap l ks) (hz : ks.length ≤ 16384) (hdp : dp + 2 < recursionLimit) (hun : un + 16 < cLine)
  (hret : ∀ t h' tk', Kp s.heap h' → Q (.int (bisR ks x 0 ks.length) t) {s with heap := h', toks := tk'}) :
  wpAny (model PySem.Challenge.rw_ec5003_01.row.prog w) (ktrTop dp un gd cn cs L a ccd cl outer) (call (.ref 32) [.ref l, .int x xt, .int 0 t0, .none] []) Q E s := by
  obtain ⟨its, n, hl, hlen, hel⟩ := hv.at'
  refine wpAny_call ?_
  refine' code_defG (news := []) ?k1 ?k2 ?k3 ?k4 ?k5 ?kA ?kF ?kK ?k6 ?k7 ?k8 ?k9 ?kB ?_ ?c2 ?c3 ?c4 ?c5
  (case kA => exact rfl)
  (case kF => exact rfl)
  (case kK => exact hk)
  (case k1 => exact B)
  (case k2 => exact F)
  (case k3 => exact X)
  (case k4 => exact News.nil)
  (case k5 => exact T)
  (case k6 => k_is)
  (case k7 => k_is)
  (case k8 => ktr_room)
  (case k9 => exact kp_binds (X.keeps F.keep) (fun _ => rfl))
  (case c5 => decide)
  (case kB => exact locs rfl)
  (case c2 => exact rfl)
  (case c3 => exact rfl)
  (case c4 => exact rfl)
  k_whole
  intro g L' h' FG F' N' B' X' T' GS
  dsimp only
  k_fold
  have hg : g.IsList l its := ⟨_, GS l _ hl (by simp), rfl, _, rfl⟩
  have hgk : Kp s.heap g := fun b o e => GS b o e (by simp)
  have hel' : ∀ (i : Nat) (v : Value), its[i]? = some v → ∃ k t, ks[i]? = some k ∧ v = .int k t := hel
  clear hl hel
  k_unmd
  k_steps
  refine Stop.out ?_
  (rename Fr _ _ _ _ => F2)
  (rename News _ _ _ _ => N2)
  refine While_inv (n₀ := ks.length) (fun k m₁ news₁ => news₁ = [] ∧ m₁ (Str.ofString "a") = some (.ref l) ∧ m₁ (Str.ofString "x") = some (.int x xt) ∧ m₁ (Str.ofString "key") = some .none ∧
    ∃ (lo hi : Nat) (tl th : Tok), m₁ (Str.ofString "lo") = some (.int lo tl) ∧ m₁ (Str.ofString "hi") = some (.int hi th) ∧ k = hi - lo ∧ hi ≤ ks.length ∧ bisR ks x lo hi = bisR ks x 0 ks.length) F2 N2 ?start ?turn ?pass
  case start =>
    refine ⟨rfl, ?e1, ?e2, ?e3, 0, ks.length, ?tl, ?th, ?e4, ?e5, rfl, Nat.le_refl _, rfl⟩
    case e1 => exact rfl
    case e2 => exact rfl
    case e3 => exact rfl
    case e4 => exact rfl
    case e5 => rw [← hlen]; exact rfl
  case pass => k_steps
  case turn =>
    rintro k m₁ news₁ h₁ tk₁ F₁ N₁ ⟨rfl, hma, hmx, hmk, lo, hi, tl, th, hml, hmh, hk, hhi, hb⟩
    k_steps
    · have hlt : lo < hi := by omega
      have hmid : ((lo : Int) + (hi : Int)).fdiv 2 = (((lo + hi) / 2 : Nat) : Int) := by
        rw [Int.fdiv_eq_ediv_of_nonneg _ (by omega)]; omega
      obtain ⟨v, hv1⟩ : ∃ v, its[(lo + hi) / 2]? = some v := ⟨_, getElem?_pos its _ (by omega)⟩
      obtain ⟨kk, kt, hk1, rfl⟩ := hel' _ _ hv1
      (rename Fr _ _ _ _ => F3)
      refine item_raw (hg.at fun o e => F3.keep _ _ e) (by omega) (by omega) (v := .int kk kt) (by rw [hmid]; exact hv1) ?_
      k_unmd
      k_steps
      · (rename Fr _ _ _ _ => F5)
        (rename News _ _ _ _ => N5)
        refine WhileStep.intro (n' := (lo + hi) / 2 - lo) F5 N5 (by omega) ⟨rfl, ?f1, ?f2, ?f3, lo, (lo + hi) / 2, tl, ?u1, ?f4, ?f5, rfl, by omega, ?f6⟩
        case f5 => rw [← hmid]; exact rfl
        case f6 => rw [← hb]; exact (bisR_left hlt (by rw [List.getD_eq_getElem?_getD, hk1]; assumption)).symm
        all_goals (simp (decide := true) only [↓reduceIte]; assumption)
      · (rename Fr _ _ _ _ => F5)
        (rename News _ _ _ _ => N5)
        refine WhileStep.intro (n' := hi - ((lo + hi) / 2 + 1)) F5 N5 (by omega) ⟨rfl, ?g1, ?g2, ?g3, (lo + hi) / 2 + 1, hi, ?u2, th, ?g4, ?g5, rfl, hhi, ?g6⟩
        case g4 => rw [Int.natCast_add, ← hmid]; exact rfl
        case g6 => rw [← hb]; exact (bisR_right hlt (by rw [List.getD_eq_getElem?_getD, hk1]; assumption)).symm
        all_goals (simp (decide := true) only [↓reduceIte]; assumption)
    · have e : bisR ks x 0 ks.length = lo := by rw [← hb]; exact bisR_end (by omega)
      have := hret tl h₁ tk₁ (fun b o e => F₁.keep _ _ (hgk b o e))
      rw [e] at this
      exact this
end Mine
/-! part C4 -/
namespace Mine
open PySem PySem.W PyProof.Rows PySem.Calls PySem.Spec
theorem filled4 (w : World) (h₀ : Heap) : (hd.heap_39 w.params).In h₀ → PySem.Challenge.rw_ec5003_01 = PySem.Challenge.rw_ec5003_01 := by
  k_fill
  intro _; rfl
local macro_rules | `(tactic| walk_at "exec While Compare cons nil") => `(tactic| (refine stop_in ?_))
local macro_rules | `(tactic| walk_at "call ref") => `(tactic| (refine stop_in ?_))
local macro_rules | `(tactic| walk_at "call builtin:list.insert") => `(tactic| (refine stop_in ?_))
local macro_rules | `(tactic| walk_at "eval Name") => `(tactic| (refine' ld ?kF ?hv ?_; (case kF => with_reducible assumption); (case hv => first | exact rfl | assumption | (simp (decide := true) only [↓reduceIte]; assumption))))
theorem bisR_le {ks : List Int} {x : Int} : ∀ {lo hi : Nat}, lo ≤ hi → bisR ks x lo hi ≤ hi := by
  intro lo hi
  induction lo, hi using bisR.induct (ks := ks) (x := x) with
  | case1 lo hi h1 h2 ih => intro h; rw [bisR_left h1 h2]; have := ih (by omega); omega
  | case2 lo hi h1 h2 ih => intro h; rw [bisR_right h1 h2]; exact ih (by omega)
  | case3 lo hi h1 => intro h; rw [bisR_end h1]; exact h

def insL (vs : List Value) (k : Nat) (y : Value) : List Value := vs.take k ++ y :: vs.drop k
theorem insL_length (vs : List Value) (k : Nat) (y : Value) (h : k ≤ vs.length) : (insL vs k y).length = vs.length + 1 := by
  unfold insL
  rw [List.length_append, List.length_cons, List.length_take, List.length_drop]; omega
theorem insert_raw {prog : Program} {w : World} {A : Around} {E : Value → Shared → Prop} {s : Shared} {l : Addr} {its : Array Value} {n : Nat} {x : Int} {u : Tok} {y : Value} {Q : Value → Shared → Prop}
    (hl : s.heap.get? l = some (listOf its n)) (h0 : 0 ≤ x) (hx : x.toNat ≤ its.size) (hz : its.size ≤ sizeLine)
    (h : ∀ h', Heap.SameBut l s.heap h' → h'.get? l = some (listOf (insL its.toList x.toNat y).toArray (n + 1)) → Q .none { s with heap := h' }) :
    wpAny (model prog w) A (call (.builtin "list.insert") [.ref l, .int x u, y]) Q E s := by
  obtain ⟨li, rfl⟩ : ∃ li : List Value, its = li.toArray := ⟨its.toList, by rw [Array.toArray_toList]⟩
  have hx' : x.toNat ≤ li.length := by simpa using hx
  have hf : Builtin.List.listFitsIndex x = true := by
    unfold Builtin.List.listFitsIndex
    have hz' := hz
    rw [sizeLine_eq] at hz'
    have hz2 : li.length ≤ 16777216 := by simpa using hz'
    simp; omega
  have key : (li.toArray.extract 0 (if x < 0 then (x + (li.toArray.size : Int)).toNat else min x.toNat li.toArray.size)).push y ++ li.toArray.extract (if x < 0 then (x + (li.toArray.size : Int)).toNat else min x.toNat li.toArray.size) = (insL li x.toNat y).toArray := by
    rw [kl_ins_eq, List.size_toArray, if_neg (by omega), Nat.min_eq_left hx']
    rfl
  refine call_meets PySem.F.slot_list_insert ⟨_, hl, rfl⟩ PySem.F.entry_list_insert (PySem.F.args_list_insert_3 _ _ _) (PySem.AutoSeq1.list_insert_list_int_val_1 l _ n x u y (by simp [hf]) hz) ⟨hl, h _ (Heap.SameBut.update ..) ?_⟩
  have q := PySem.IsL.update hl (fun xs => (xs.extract 0 (if x < 0 then (x + (xs.size : Int)).toNat else min x.toNat xs.size)).push y ++ xs.extract (if x < 0 then (x + (xs.size : Int)).toNat else min x.toNat xs.size))
  rw [key] at q
  rw [if_neg (by have := insL_length li x.toNat y hx'; simp [this])] at q
  simpa using q

theorem insort_key {w : World} {p : Program} {loose : List Str} {mean : ExcName → Option Value} {mg mb : Str → Option Value} {dp un : Nat} {gd : Option (List Code)} {cn : Str} {cs : Scope} {a : Addr} {ccd : Value} {cl : List (Str × Addr)} {outer : List Env} {A₀ : Around} {base h₀ : Heap} {L : Addr} {m : Str → Option Value} {s : Shared} {Q E : Value → Shared → Prop}
  {l : Addr} {its : Array Value} {n : Nat} {ks : List Int} {v : Value} {x : Int}
  (B : Below A₀ base outer h₀) (F : Fr h₀ L s.heap m) (X : (hd.heap_39 w.params).In h₀) (N : News h₀ L s.heap [(l, listOf its n)]) (T : Top p loose mean mg mb h₀) (hk : cs.kind = .function)
  (hlen : its.size = ks.length) (hel : ∀ (i : Nat) (v : Value), its[i]? = some v → ∃ k, ks[i]? = some k ∧ WtIs s.heap v k ∧ v ≠ .ref l) (hv : WtIs s.heap v x) (hvl : v ≠ .ref l)
  (hz : ks.length ≤ 16384) (hdp : dp + 3 < recursionLimit) (hun : un + 24 < cLine)
  (hret : ∀ h' tk', (∀ b o, b ≠ l → s.heap.get? b = some o → h'.get? b = some o) → h'.get? l = some (listOf (insL its.toList (bisR ks x 0 ks.length) v).toArray (n + 1)) → Q .none {s with heap := h', toks := tk'}) :
  wpAny (model PySem.Challenge.rw_ec5003_01.row.prog w) (ktrTop dp un gd cn cs L a ccd cl outer) (call (.ref 23) [.ref l, v] [(Str.ofString "key", .ref 39)]) Q E s := by
  refine wpAny_call ?_
  refine' code_defG (news := [(l, listOf its n)]) ?k1 ?k2 ?k3 ?k4 ?k5 ?kA ?kF ?kK ?k6 ?k7 ?k8 ?k9 ?kB ?_ ?c2 ?c3 ?c4 ?c5
  (case kA => exact rfl)
  (case kF => exact rfl)
  (case kK => exact hk)
  (case k1 => exact B)
  (case k2 => exact F)
  (case k3 => exact X)
  (case k4 => exact N)
  (case k5 => exact T)
  (case k6 => k_is)
  (case k7 => k_is)
  (case k8 => ktr_room)
  (case k9 => exact kp_binds (X.keeps F.keep) (fun _ => rfl))
  (case c5 => decide)
  (case kB => exact locs rfl)
  (case c2 => exact rfl)
  (case c3 => exact rfl)
  (case c4 => exact rfl)
  k_whole
  intro g L' h' FG F' N' B' X' T' GS
  dsimp only
  k_fold
  have hgk : ∀ b o, b ≠ l → s.heap.get? b = some o → g.get? b = some o := fun b o hb e => GS b o e (by simpa using hb)
  have wt : ∀ {u : Value} {k : Int}, WtIs s.heap u k → u ≠ .ref l → WtIs g u k := fun {u k} ⟨a, its, n, t, e, g1, i⟩ hne => ⟨a, its, n, t, e, hgk _ _ (fun q => hne (by rw [e, q])) g1, i⟩
  have hel' : ∀ (i : Nat) (v : Value), its[i]? = some v → ∃ k, ks[i]? = some k ∧ WtIs g v k := fun i v e => let ⟨k, e1, e2, e3⟩ := hel i v e; ⟨k, e1, wt e2 e3⟩
  have hvg : WtIs g v x := wt hv hvl
  have hle : bisR ks x 0 ks.length ≤ ks.length := bisR_le (Nat.zero_le _)
  clear hel
  k_unmd
  k_steps
  refine Stop.out ?_
  (rename Fr _ _ _ _ => F3)
  (rename News _ _ _ _ => N3)
  refine weight_spec B' F3 X' T' rfl (hvg.keep F3.keep) (by show dp + 1 + 1 < recursionLimit; omega) (by show un + 3 + 8 < cLine; omega) fun t h' tk' hkp => ?_
  have F4 := F3.keeps hkp
  have N4 := N3.grown hkp
  clear F3 N3
  k_unmd
  k_steps
  refine Stop.out ?_
  (rename Fr _ _ _ _ => F5)
  (rename News _ _ _ _ => N5)
  refine bisect_key4 B' F5 X' T' rfl ⟨its, n, (N5 _ (.head _)).1, hlen, fun i v e => let ⟨k, e1, e2⟩ := hel' i v e; ⟨k, e1, e2.keep F5.keep⟩⟩ hz (by show dp + 1 + 2 < recursionLimit; omega) (by show un + 3 + 16 < cLine; omega) fun t h' tk' hkp => ?_
  have F6 := F5.keeps hkp
  have N6 := N5.grown hkp
  clear F5 N5
  k_unmd
  k_steps
  refine Stop.out ?_
  (rename Fr _ _ _ _ => F7)
  (rename News _ _ _ _ => N7)
  have z := N7 _ (.head _)
  refine insert_raw z.1 (by omega) (by rw [Int.toNat_natCast, hlen]; exact hle) (by rw [hlen, sizeLine_eq]; omega) fun h' hsb hl' => ?_
  have F8 := F7.change hsb z.2.1 z.2.2
  rw [Int.toNat_natCast] at hl'
  refine wpAny_execs_nil ?_
  exact ⟨_, _, [], F8, News.nil, fun _ _ => hret _ _ (fun b o hb e => F8.keep _ _ (hgk b o hb e)) hl'⟩
end Mine
/-! part C5 -/
namespace Mine
open PySem PySem.W PyProof.Rows PySem.Calls PySem.Spec
theorem filled5 (w : World) (h₀ : Heap) : (hd.heap_39 w.params).In h₀ → PySem.Challenge.rw_ec5003_01 = PySem.Challenge.rw_ec5003_01 := by
  k_fill
  intro _; rfl
local macro_rules | `(tactic| walk_at "exec While Compare cons nil") => `(tactic| (refine stop_in ?_))
local macro_rules | `(tactic| walk_at "call ref") => `(tactic| (refine stop_in ?_))
local macro_rules | `(tactic| walk_at "call builtin:list.insert") => `(tactic| (refine stop_in ?_))
local macro_rules | `(tactic| walk_at "eval Name") => `(tactic| (refine' ld ?kF ?hv ?_; (case kF => with_reducible assumption); (case hv => first | exact rfl | assumption | (simp (decide := true) only [↓reduceIte]; assumption))))
theorem insort_int {w : World} {p : Program} {loose : List Str} {mean : ExcName → Option Value} {mg mb : Str → Option Value} {dp un : Nat} {gd : Option (List Code)} {cn : Str} {cs : Scope} {a : Addr} {ccd : Value} {cl : List (Str × Addr)} {outer : List Env} {A₀ : Around} {base h₀ : Heap} {L : Addr} {m : Str → Option Value} {s : Shared} {Q E : Value → Shared → Prop}
  {l : Addr} {its : Array Value} {n : Nat} {ks : List Int} {x : Int} {xt : Tok}
  (B : Below A₀ base outer h₀) (F : Fr h₀ L s.heap m) (X : (hd.heap_39 w.params).In h₀) (N : News h₀ L s.heap [(l, listOf its n)]) (T : Top p loose mean mg mb h₀) (hk : cs.kind = .function)
  (hlen : its.size = ks.length) (hel : ∀ (i : Nat) (v : Value), its[i]? = some v → ∃ k t, ks[i]? = some k ∧ v = .int k t)
  (hz : ks.length ≤ 16384) (hdp : dp + 3 < recursionLimit) (hun : un + 24 < cLine)
  (hret : ∀ h' tk', (∀ b o, b ≠ l → s.heap.get? b = some o → h'.get? b = some o) → h'.get? l = some (listOf (insL its.toList (bisR ks x 0 ks.length) (.int x xt)).toArray (n + 1)) → Q .none {s with heap := h', toks := tk'}) :
  wpAny (model PySem.Challenge.rw_ec5003_01.row.prog w) (ktrTop dp un gd cn cs L a ccd cl outer) (call (.ref 23) [.ref l, .int x xt] []) Q E s := by
  refine wpAny_call ?_
  refine' code_defG (news := [(l, listOf its n)]) ?k1 ?k2 ?k3 ?k4 ?k5 ?kA ?kF ?kK ?k6 ?k7 ?k8 ?k9 ?kB ?_ ?c2 ?c3 ?c4 ?c5
  (case kA => exact rfl)
  (case kF => exact rfl)
  (case kK => exact hk)
  (case k1 => exact B)
  (case k2 => exact F)
  (case k3 => exact X)
  (case k4 => exact N)
  (case k5 => exact T)
  (case k6 => k_is)
  (case k7 => k_is)
  (case k8 => ktr_room)
  (case k9 => exact kp_binds (X.keeps F.keep) (fun _ => rfl))
  (case c5 => decide)
  (case kB => exact locs rfl)
  (case c2 => exact rfl)
  (case c3 => exact rfl)
  (case c4 => exact rfl)
  k_whole
  intro g L' h' FG F' N' B' X' T' GS
  dsimp only
  k_fold
  have hgk : ∀ b o, b ≠ l → s.heap.get? b = some o → g.get? b = some o := fun b o hb e => GS b o e (by simpa using hb)
  have hle : bisR ks x 0 ks.length ≤ ks.length := bisR_le (Nat.zero_le _)
  k_unmd
  k_steps
  refine Stop.out ?_
  (rename Fr _ _ _ _ => F5)
  (rename News _ _ _ _ => N5)
  refine bisect_int B' F5 X' T' rfl ⟨its, n, (N5 _ (.head _)).1, hlen, hel⟩ hz (by show dp + 1 + 2 < recursionLimit; omega) (by show un + 3 + 16 < cLine; omega) fun t h' tk' hkp => ?_
  have F6 := F5.keeps hkp
  have N6 := N5.grown hkp
  clear F5 N5
  k_unmd
  k_steps
  refine Stop.out ?_
  (rename Fr _ _ _ _ => F7)
  (rename News _ _ _ _ => N7)
  have z := N7 _ (.head _)
  refine insert_raw z.1 (by omega) (by rw [Int.toNat_natCast, hlen]; exact hle) (by rw [hlen, sizeLine_eq]; omega) fun h' hsb hl' => ?_
  have F8 := F7.change hsb z.2.1 z.2.2
  rw [Int.toNat_natCast] at hl'
  refine wpAny_execs_nil ?_
  exact ⟨_, _, [], F8, News.nil, fun _ _ => hret _ _ (fun b o hb e => F8.keep _ _ (hgk b o hb e)) hl'⟩
end Mine
/-! part C6 -/
namespace Mine
open PySem PySem.W PyProof.Rows PySem.Calls PySem.Spec
theorem filled6 (w : World) (h₀ : Heap) : (hd.heap_39 w.params).In h₀ → PySem.Challenge.rw_ec5003_01 = PySem.Challenge.rw_ec5003_01 := by
  k_fill
  intro _; rfl
local macro_rules | `(tactic| walk_at "exec While Compare cons nil") => `(tactic| (refine stop_in ?_))
local macro_rules | `(tactic| walk_at "call ref") => `(tactic| (refine stop_in ?_))
local macro_rules | `(tactic| walk_at "exec For Name Name cons nil") => `(tactic| (refine stop_in ?_))
local macro_rules | `(tactic| walk_at "pyIter ref") => `(tactic| (refine stop_in ?_))
local macro_rules | `(tactic| walk_at "subscriptTail Name Slice ref ref") => `(tactic| (refine stop_in ?_))
local macro_rules | `(tactic| walk_at "subscriptTail Name Constant ref int") => `(tactic| (refine stop_in ?_))
local macro_rules | `(tactic| walk_at "loadName") => `(tactic| (refine' ldn ?kF ?hv ?_; (case kF => with_reducible assumption); (case hv => first | exact rfl | assumption | (simp (decide := true) only [↓reduceIte]; assumption))))
local macro_rules | `(tactic| walk_at "eval Name") => `(tactic| (refine' ld ?kF ?hv ?_; (case kF => with_reducible assumption); (case hv => first | exact rfl | assumption | (simp (decide := true) only [↓reduceIte]; assumption))))

def insI (ks : List Int) (x : Int) : List Int := ks.take (bisR ks x 0 ks.length) ++ x :: ks.drop (bisR ks x 0 ks.length)
theorem insI_length (ks : List Int) (x : Int) : (insI ks x).length = ks.length + 1 := by
  have := bisR_le (ks := ks) (x := x) (Nat.zero_le ks.length)
  unfold insI
  rw [List.length_append, List.length_cons, List.length_take, List.length_drop]; omega
def huffGo : Nat → List Int → Int
  | f + 1, a :: b :: r => (a + b) + huffGo f (insI r (a + b))
  | _, _ => 0
def huff (ws : List Int) : Int := huffGo ws.length (ws.foldl insI [])

theorem IntsAre_at : ∀ {vs : List Value} {ks : List Int}, IntsAre vs ks → ∀ (i : Nat) (v : Value), vs[i]? = some v → ∃ k t, ks[i]? = some k ∧ v = .int k t := by
  intro vs ks h i v e
  obtain ⟨n, hn⟩ : ∃ n, ks[i]? = some n := by
    have : i < vs.length := (List.getElem?_eq_some_iff.mp e).1
    exact ⟨_, List.getElem?_eq_getElem (by rw [← h.length]; exact this)⟩
  obtain ⟨t, ht⟩ := h.get i n hn
  exact ⟨n, t, hn, by rw [ht] at e; exact (Option.some.inj e).symm⟩
theorem IntsAre_app : ∀ {vs us : List Value} {ks js : List Int}, IntsAre vs ks → IntsAre us js → IntsAre (vs ++ us) (ks ++ js)
  | _, _, _, _, .nil, h => h
  | _, _, _, _, .cons n t h, h' => .cons n t (IntsAre_app h h')
theorem IntsAre_ins {vs : List Value} {ks : List Int} {x : Int} {t : Tok} (h : IntsAre vs ks) : IntsAre (insL vs (bisR ks x 0 ks.length) (.int x t)) (insI ks x) :=
  IntsAre_app (h.take _) (.cons x t (h.drop _))
theorem IntsAre_atA {vs : Array Value} {ks : List Int} (h : IntsAre vs.toList ks) (i : Nat) (v : Value) (e : vs[i]? = some v) : ∃ k t, ks[i]? = some k ∧ v = .int k t :=
  IntsAre_at h i v (by rw [Array.getElem?_toList]; exact e)
theorem foldl_insI_length : ∀ (ws ks : List Int), (ws.foldl insI ks).length = ks.length + ws.length
  | [], ks => rfl
  | w :: ws, ks => by rw [List.foldl_cons, foldl_insI_length ws, insI_length, List.length_cons]; omega
theorem Fr_but {h₀ h h' : Heap} {L D : Addr} {m : Str → Option Value} (F : Fr h₀ L h m) (hk : ∀ b o, b ≠ D → h.get? b = some o → h'.get? b = some o) (hL : D ≠ L) (h0 : h₀.get? D = none) : Fr h₀ L h' m :=
  ⟨F.ns.at' fun o e => hk L o (Ne.symm hL) e, fun b o e => hk b o (fun q => by rw [q, h0] at e; cases e) (F.keep b o e), F.above⟩

theorem sums_spec {w : World} {p : Program} {loose : List Str} {mean : ExcName → Option Value} {mg mb : Str → Option Value} {dp un : Nat} {gd : Option (List Code)} {cn : Str} {cs : Scope} {a : Addr} {ccd : Value} {cl : List (Str × Addr)} {outer : List Env} {A₀ : Around} {base h₀ : Heap} {L : Addr} {m : Str → Option Value} {s : Shared} {Q E : Value → Shared → Prop}
  {l : Addr} {its : Array Value} {n : Nat} {ws : List Int}
  (B : Below A₀ base outer h₀) (F : Fr h₀ L s.heap m) (X : (hd.heap_39 w.params).In h₀) (T : Top p loose mean mg mb h₀) (hk : cs.kind = .function)
  (hl : s.heap.get? l = some (listOf its n)) (hi : IntsAre its.toList ws)
  (hz : ws.length ≤ 64) (hdp : dp + 4 < recursionLimit) (hun : un + 32 < cLine)
  (hret : ∀ t h' tk', Kp s.heap h' → Q (.int (huff ws) t) {s with heap := h', toks := tk'}) :
  wpAny (model PySem.Challenge.rw_ec5003_01.row.prog w) (ktrTop dp un gd cn cs L a ccd cl outer) (call (.ref 56) [.ref l]) Q E s := by
  refine wpAny_call ?_
  refine' code_defG (news := []) ?k1 ?k2 ?k3 ?k4 ?k5 ?kA ?kF ?kK ?k6 ?k7 ?k8 ?k9 ?kB ?_ ?c2 ?c3 ?c4 ?c5
  (case kA => exact rfl)
  (case kF => exact rfl)
  (case kK => exact hk)
  (case k1 => exact B)
  (case k2 => exact F)
  (case k3 => exact X)
  (case k4 => exact News.nil)
  (case k5 => exact T)
  (case k6 => k_is)
  (case k7 => k_is)
  (case k8 => ktr_room)
  (case k9 => exact kp_binds (X.keeps F.keep) (fun _ => rfl))
  (case c5 => decide)
  (case kB => exact locs rfl)
  (case c2 => exact rfl)
  (case c3 => exact rfl)
  (case c4 => exact rfl)
  k_whole
  intro g L' h' FG F' N' B' X' T' GS
  dsimp only
  k_fold
  have hgk : Kp s.heap g := fun b o e => GS b o e (by simp)
  have hg : g.IsList l its.toList.toArray := by rw [Array.toArray_toList]; exact ⟨_, hgk _ _ hl, rfl, _, rfl⟩
  clear GS
  k_unmd
  k_steps
  refine Stop.out ?_
  rename_i D h1 l1 h2 F2 N2
  refine For_invV g rfl rfl ?iter (by intro _; rfl) ?pass
  case pass => k_steps
  k_steps
  refine Stop.out ?_
  refine iter_invN (fun i m₁ news₁ => m₁ (Str.ofString "row") = some (.ref D) ∧ ∃ vs n, news₁ = [(D, listOf vs n)] ∧ IntsAre vs.toList ((ws.take i).foldl insI [])) rfl hg hi F2 N2 ⟨rfl, #[], 0, rfl, .nil⟩ ?turn ?done
  case turn =>
    rintro i x t m₁ news₁ h₁ tk₁ own hx ha hoff ⟨hrow, vs, n₁, rfl, hvs⟩ F₁ N₁
    replace F₁ : Fr g L' _ _ := F₁
    replace N₁ : News g L' _ _ := N₁
    have hlen : ((ws.take i).foldl insI []).length ≤ 64 := by rw [foldl_insI_length]; simp; omega
    k_steps
    refine Stop.out ?_
    have z := N₁ _ (.head _)
    refine insort_int B' F₁ X' (fun p hp => N₁ p (List.mem_append_left _ hp)) T' (by rfl) (by rw [← hvs.length, Array.length_toList]) (IntsAre_atA hvs) (by omega) (by show dp + 1 + 3 < recursionLimit; omega) (by show un + 3 + 24 < cLine; omega) fun h' tk' hkp hD => ?_
    have F3 := Fr_but F₁ hkp z.2.1 z.2.2
    refine wpAny_execs_nil ?_
    refine InvEndN.intro (news' := (D, listOf (insL vs.toList (bisR ((ws.take i).foldl insI []) x 0 ((ws.take i).foldl insI []).length) (.int x t)).toArray (n₁ + 1)) :: own) (nx := [(D, listOf (insL vs.toList (bisR ((ws.take i).foldl insI []) x 0 ((ws.take i).foldl insI []).length) (.int x t)).toArray (n₁ + 1))]) F3 ?N4 ⟨?row, _, _, rfl, ?vals⟩ rfl (fun p hp => by rcases List.mem_singleton.mp hp with rfl; exact .head _) (fun p hp => .tail _ hp)
    case row => (simp (decide := true) only [↓reduceIte]; assumption)
    case vals =>
      have e : (ws.take (i + 1)).foldl insI [] = insI ((ws.take i).foldl insI []) x := by rw [List.take_add_one, hx]; simp
      rw [e]
      exact IntsAre_ins hvs
    case N4 =>
      intro p hp
      rcases List.mem_cons.mp hp with rfl | hp
      · exact ⟨hD, z.2⟩
      · have z' := N₁ p (List.mem_append_right _ hp)
        exact ⟨hkp _ _ (hoff p hp D (.head _)) z'.1, z'.2⟩
  case done =>
    rintro m₁ news₁ h₃ tk₃ ⟨hrow, vs, n₃, rfl, hvs⟩ F₃ N₃
    replace F₃ : Fr g L' _ _ := F₃
    replace N₃ : News g L' _ _ := N₃
    rw [List.take_length] at hvs
    have hlen : (ws.foldl insI []).length = ws.length := by rw [foldl_insI_length]; simp
    clear F2 N2
    dsimp only
    k_steps
    refine Stop.out ?_
    (rename Fr _ _ _ _ => F4)
    (rename News _ _ _ _ => N4)
    refine While_inv (n₀ := ws.length) (fun k m₁ news₁ => ∃ D its n ks c tc, news₁ = [(D, listOf its n)] ∧ m₁ (Str.ofString "row") = some (.ref D) ∧ m₁ (Str.ofString "cost") = some (.int c tc) ∧ IntsAre its.toList ks ∧ k = ks.length ∧ ks.length ≤ 64 ∧ c + huffGo ks.length ks = huff ws) F4 N4 ?start ?turn2 ?pass2
    case start => exact ⟨D, vs, n₃, _, 0, _, rfl, hrow, rfl, hvs, hlen.symm, by omega, by rw [hlen, Int.zero_add]; rfl⟩
    case pass2 => k_steps
    case turn2 =>
      rintro k m₂ news₂ h₄ tk₄ F₄ N₄ ⟨D, its, n, ks, c, tc, rfl, hrow, hcost, hks, hk, hk64, hc⟩
      clear F4 N4
      have hsz : its.size = ks.length := by rw [← hks.length, Array.length_toList]
      k_steps
      · obtain ⟨vs, rfl⟩ : ∃ vs : List Value, its = vs.toArray := ⟨its.toList, by rw [Array.toArray_toList]⟩
        have hks' : IntsAre vs ks := hks
        obtain ⟨a₁, t₁, b₁, u₁, vr, r, rfl, rfl, hr⟩ : ∃ a₁ t₁ b₁ u₁ vr r, vs = .int a₁ t₁ :: .int b₁ u₁ :: vr ∧ ks = a₁ :: b₁ :: r ∧ IntsAre vr r := by
          cases hks' with
          | nil => exfalso; simp at *
          | cons a₁ t₁ h1 =>
            cases h1 with
            | nil => exfalso; simp at *
            | cons b₁ u₁ h2 => exact ⟨_, _, _, _, _, _, rfl, rfl, h2⟩
        have z := N₄ _ (.head _)
        refine Stop.out ?_
        refine item_raw (v := .int a₁ t₁) ⟨_, z.1, rfl, _, rfl⟩ (by decide) (by decide) rfl ?_
        k_unmd
        k_steps
        refine Stop.out ?_
        refine item_raw (v := .int b₁ u₁) ⟨_, z.1, rfl, _, rfl⟩ (by decide) (by decide) rfl ?_
        k_unmd
        k_steps
        refine Stop.out ?_
        (rename Fr _ _ _ _ => F5)
        (rename News _ _ _ _ => N5)
        refine kmk_slice (its := (Value.int a₁ t₁ :: Value.int b₁ u₁ :: vr).toArray) F5 N5 ⟨_, (N5 _ (.head _)).1, rfl, _, rfl⟩ (IsPart.int _ _) IsPart.none ?_ (by with_unfolding_all rfl) (by intro _; with_unfolding_all rfl) (by rw [sizeLine_eq, hsz]; omega)
        intro D2 h5 F6 N6 l6
        clear F5 N5
        have e2 : slicePick (Value.int a₁ t₁ :: Value.int b₁ u₁ :: vr).toArray (some 2) none none = vr.toArray := by
          rw [kms_pick_eq]
          simp [kms_pick, kms_lo, kms_hi]
        rw [e2] at N6
        k_unmd
        k_steps
        refine Stop.out ?_
        (rename Fr _ _ _ _ => F7)
        (rename News _ _ _ _ => N7)
        have z7 := N7 _ (.head _)
        have hr1 : r.length + 2 ≤ 64 := by simpa using hk64
        refine insort_int B' F7 X' (fun p hp => by rcases List.mem_singleton.mp hp with rfl; exact z7) T' (by rfl) (by simp [hr.length]) (IntsAre_atA hr) (by omega) (by show dp + 1 + 3 < recursionLimit; omega) (by show un + 3 + 24 < cLine; omega) fun h' tk' hkp hD => ?_
        have F8 := Fr_but F7 hkp z7.2.1 z7.2.2
        refine wpAny_execs_nil ?_
        refine WhileStep.intro (n' := (insI r (a₁ + b₁)).length) (news₂ := [(D2, listOf (insL vr (bisR r (a₁ + b₁) 0 r.length) (.int (a₁ + b₁) _)).toArray 1)]) F8 (fun p hp => by rcases List.mem_singleton.mp hp with rfl; exact ⟨hD, z7.2⟩) (by rw [insI_length, hk]; simp) ⟨D2, _, 1, insI r (a₁ + b₁), c + (a₁ + b₁), _, rfl, rfl, rfl, IntsAre_ins hr, rfl, by rw [insI_length]; omega, ?fin⟩
        rw [← hc, insI_length]
        show c + (a₁ + b₁) + huffGo (r.length + 1) (insI r (a₁ + b₁)) = c + ((a₁ + b₁) + huffGo (r.length + 1) (insI r (a₁ + b₁)))
        omega
      · have e : huffGo ks.length ks = 0 := by
          match ks, (by assumption : ¬ (1 : Int) < ks.length) with
          | [], _ => rfl
          | [_], _ => rfl
          | _ :: _ :: _, h => exfalso; simp at h; omega
        have ec : huff ws = c := by rw [← hc, e, Int.add_zero]
        have := fun k => hret tc h₄ k (fun b o e => F₄.keep _ _ (hgk b o e))
        simp only [ec] at this
        exact this _
end Mine
/-! part R1 -/
namespace Mine
open PySem PySem.W PyProof.Rows PySem.Calls PySem.Spec
abbrev NoE : Value → Shared → Prop := fun _ _ => False
abbrev testsOf (ifs : List Expr) (env : Env) : Sem Bool := forIn ifs true fun c r => if r = true then do let ok ← isTrue c env (eval c env); pure (ForInStep.yield ok) else pure (ForInStep.yield r)
/-- the state again, with another heap of which J is true and the source's state stands -/
def CN (s : Shared) (J St : Heap → Prop) (s' : Shared) : Prop := ∃ h tk, s' = { s with heap := h, toks := tk } ∧ J h ∧ St h

section
variable {prog : Program} {w : World} {A : Around} {E : Value → Shared → Prop} {R : Result → Shared → Prop} {s : Shared}

theorem noNote {α : Type} {M : Model} {E' : Value → Shared → Prop} {t : Sem α} {Q : α → Shared → Prop} (h : wpAny M A t Q NoE s) : wpAny M A t Q E' s :=
  wpAny_mono h (fun _ _ x => x) fun _ _ x => x.elim

theorem assign_tup2 {env : Env} {x y : Str} {px py pos : Pos} {k : Nat} {t : Addr} {v₁ v₂ : Value} {m : Str → Option Value} {Q : Unit → Shared → Prop} (hh : A.handled = none)
    (ht : s.heap.IsTuple t #[v₁, v₂]) (hx : env.kindOf x = some .local) (hy : env.kindOf y = some .local) (hp : (env.scope.kind == .class || (env.scope.kind == .module && env.locals != env.globals)) = false)
    (hn : s.heap.Ns env.locals m)
    (h : ∀ h' tk, (∀ b o, b ≠ env.locals → s.heap.get? b = some o → h'.get? b = some o) → h'.Ns env.locals (fun z => if z = y then some v₂ else if z = x then some v₁ else m z) → Q () { s with heap := h', toks := tk }) :
    wpAny (model prog w) A (assign (.Tuple [.Name x px, .Name y py] k pos) env (.ref t)) Q E s := by
  have hLlt := hn.lt
  refine wpAny_assign_Tuple hh ht rfl rfl fun h₁ he₁ => ?_
  show wpAny _ _ (do holding [v₂] (assign (.Name x px) env v₁); assignInOrder [assign (.Name y py) env] [v₂]) Q E _
  have hn₁ : h₁.Ns env.locals m := hn.extBut he₁ (Nat.ne_of_lt hLlt)
  refine wpAny_bind (wpAny_holding (wpAny_assign_Name (wpAny_storeName_local hx hn₁ (fun h₂ hn₂ hs₂ => ?_) hp)))
  show wpAny _ _ (do holding [] (assign (.Name y py) env v₂); assignInOrder [] []) Q E _
  refine wpAny_bind (wpAny_holding (wpAny_assign_Name (wpAny_storeName_local hy hn₂ (fun h₃ hn₃ hs₃ => ?_) hp)))
  refine wpAny_pure (h h₃ _ (fun b o hb e => ?_) hn₃)
  exact hs₃.extBut b o hb (hs₂.extBut b o hb (he₁ b o (Nat.ne_of_lt (Heap.lt_size e)) e))

theorem assign_one {env : Env} {x : Str} {px : Pos} {v : Value} {m : Str → Option Value} {Q : Unit → Shared → Prop} (hx : env.kindOf x = some .local) (hp : (env.scope.kind == .class || (env.scope.kind == .module && env.locals != env.globals)) = false)
    (hn : s.heap.Ns env.locals m)
    (h : ∀ h' tk, (∀ b o, b ≠ env.locals → s.heap.get? b = some o → h'.get? b = some o) → h'.Ns env.locals (fun z => if z = x then some v else m z) → Q () { s with heap := h', toks := tk }) :
    wpAny (model prog w) A (assign (.Name x px) env v) Q E s :=
  wpAny_assign_Name (wpAny_storeName_local hx hn (fun h₂ hn₂ hs₂ => h h₂ _ (fun b o hb e => hs₂.extBut b o hb e) hn₂) hp)

/-- the source of a clause, walked item by item, and what the clause makes of each -/
theorem cl_one {elt target iter : Expr} {ifs : List Expr} {scope : Scope} {pos : Pos} {I : Addr} {acc : Value} {env : Env} {n : Nat} {P : Nat → Value → Prop} {St : Nat → Heap → Prop} {fp : List Addr}
    (W : Walks prog w A I fp [I] n P St) (J : Nat → Heap → Prop)
    (hJ : ∀ i h h', St i h → (∀ b o, b ≠ I → h.get? b = some o → h'.get? b = some o) → J i h → J i h')
    (hst : St 0 s.heap) (h0 : J 0 s.heap) (ht : ∀ i v h, P i v → St (i + 1) h → ∀ (s' : Shared) (Q : Unit → Shared → Prop), s'.heap = h → Q () s' → wpAny (model prog w) A (letOwnedTupleGo target (.ref I) v) Q NoE s')
    (turn : ∀ i v h tk, i < n → P i v → J i h → St (i + 1) h →
      wpAny (model prog w) A (assign target env v) (fun _ s₂ => wpAny (model prog w) A (testsOf ifs env) (fun ok s₃ =>
        if ok = true then wpAny (model prog w) A (eval elt env) (fun x s₄ => wpAny (model prog w) A (call (.builtin "list.append") [acc, x]) (fun _ s₅ => CN s (J (i + 1)) (St (i + 1)) s₅) NoE s₄) NoE s₃
        else CN s (J (i + 1)) (St (i + 1)) s₃) NoE s₂) NoE { s with heap := h, toks := tk })
    (fin : ∀ h tk, J n h → R (.ok .next) { s with heap := h, toks := tk }) :
    codeAny (model prog w) A (.compLoop (.ListComp elt [⟨target, iter, ifs, 0⟩] scope pos) 0 (.ref I) acc env) R s := by
  refine codeAny_loop rfl (fun k s' => ∃ i h tk, s' = { s with heap := h, toks := tk } ∧ i ≤ n ∧ k = n + 1 - i ∧ J i h ∧ St i h) ?_ (n + 1) ⟨0, s.heap, s.toks, rfl, Nat.zero_le _, rfl, h0, hst⟩
  rintro k s' ⟨i, h, tk, rfl, hi, rfl, hj, hs⟩
  show wpAny _ A ((compTurn (.ListComp elt [⟨target, iter, ifs, 0⟩] scope pos) 0 (.ref I) acc env).onRaise (fun x => do noteFrame x env; theTreesLotGoes x)) _ _ _
  refine wpAny_noted (noNote ?_)
  rw [compTurn_list]
  refine wpAny_bind (wpAny_standAt (wpAny_bind ?_))
  by_cases hlt : i < n
  · refine W.item i _ _ _ hlt hs fun v h₁ tk₁ hP hst₁ hk₁ => ?_
    have hj₁ : J i h₁ := hJ _ _ _ hs (fun b o hb e => hk₁ b o (by simpa using hb) e) hj
    dsimp only
    refine wpAny_bind (ht i v h₁ hP hst₁ _ _ rfl (wpAny_bind (wpAny_mono (turn i v h₁ tk₁ hlt hP hj₁ hst₁) (fun _ s₂ h₂ => wpAny_bind (wpAny_mono h₂ (fun ok s₃ h₃ => ?_) fun _ _ e => e)) fun _ _ e => e)))
    cases ok with
    | false =>
      simp only [Bool.false_eq_true, if_false] at h₃ ⊢
      obtain ⟨h', tk', rfl, a, b⟩ := h₃
      exact wpAny_pure ⟨rfl, n + 1 - (i + 1), by omega, i + 1, h', tk', rfl, hlt, rfl, a, b⟩
    | true =>
      simp only [if_true] at h₃ ⊢
      refine wpAny_bind (wpAny_bind (wpAny_mono h₃ (fun x s₄ h₄ => wpAny_bind (wpAny_mono h₄ (fun _ s₅ h₅ => wpAny_pure (wpAny_pure ?_)) fun _ _ e => e)) fun _ _ e => e))
      obtain ⟨h', tk', rfl, a, b⟩ := h₅
      exact ⟨rfl, n + 1 - (i + 1), by omega, i + 1, h', tk', rfl, hlt, rfl, a, b⟩
  · obtain rfl : i = n := by omega
    refine W.done _ _ _ hs fun h₁ tk₁ hk₁ => ?_
    exact wpAny_pure (fin h₁ tk₁ (hJ _ _ _ hs (fun b o hb e => hk₁ b o (by simpa using hb) e) hj))
end
end Mine
/-! part R2 -/
namespace Mine
open PySem PySem.W PyProof.Rows PySem.Calls PySem.Spec
section
variable {prog : Program} {w : World} {A : Around} {E : Value → Shared → Prop} {R : Result → Shared → Prop} {s : Shared}

theorem turn_two1 (elt t0 i0 : Expr) (f0 : List Expr) (target iter : Expr) (ifs : List Expr) (scope : Scope) (pos : Pos) (it acc : Value) (env : Env) :
    compTurn (.ListComp elt [⟨t0, i0, f0, 0⟩, ⟨target, iter, ifs, 0⟩] scope pos) 1 it acc env = (do
      standAt iter.pos
      match ← pyNext it with
      | none => pure (.done .next)
      | some v =>
        letOwnedTupleGo target it v
        assign target env v
        let mut ok := true
        for c in ifs do
          if ok then ok ← isTrue c env (eval c env)
        if ok then
          (do let _ ← call (.builtin "list.append") [acc, ← eval elt env])
        again (.compLoop (.ListComp elt [⟨t0, i0, f0, 0⟩, ⟨target, iter, ifs, 0⟩] scope pos) 1 it acc env)) := by rfl

theorem turn_two0 (elt target iter : Expr) (ifs : List Expr) (t1 i1 : Expr) (f1 : List Expr) (scope : Scope) (pos : Pos) (it acc : Value) (env : Env) :
    compTurn (.ListComp elt [⟨target, iter, ifs, 0⟩, ⟨t1, i1, f1, 0⟩] scope pos) 0 it acc env = (do
      standAt iter.pos
      match ← pyNext it with
      | none => pure (.done .next)
      | some v =>
        letOwnedTupleGo target it v
        assign target env v
        let mut ok := true
        for c in ifs do
          if ok then ok ← isTrue c env (eval c env)
        if ok then
          let x ← eval i1 env
          standAt i1.pos
          let x ← foldedSetIterable i1 env x
          let _ ← runOwn (.compStart (.ListComp elt [⟨target, iter, ifs, 0⟩, ⟨t1, i1, f1, 0⟩] scope pos) 1 (← holding [x] (pyIter x)) acc env) env
        again (.compLoop (.ListComp elt [⟨target, iter, ifs, 0⟩, ⟨t1, i1, f1, 0⟩] scope pos) 0 it acc env)) := by rfl

theorem cl_inner {elt t0 i0 : Expr} {f0 : List Expr} {target iter : Expr} {ifs : List Expr} {scope : Scope} {pos : Pos} {I : Addr} {acc : Value} {env : Env} {n : Nat} {P : Nat → Value → Prop} {St : Nat → Heap → Prop} {fp : List Addr}
    (W : Walks prog w A I fp [I] n P St) (J : Nat → Heap → Prop)
    (hJ : ∀ i h h', St i h → (∀ b o, b ≠ I → h.get? b = some o → h'.get? b = some o) → J i h → J i h')
    (hst : St 0 s.heap) (h0 : J 0 s.heap) (ht : ∀ i v h, P i v → St (i + 1) h → ∀ (s' : Shared) (Q : Unit → Shared → Prop), s'.heap = h → Q () s' → wpAny (model prog w) A (letOwnedTupleGo target (.ref I) v) Q NoE s')
    (turn : ∀ i v h tk, i < n → P i v → J i h → St (i + 1) h →
      wpAny (model prog w) A (assign target env v) (fun _ s₂ => wpAny (model prog w) A (testsOf ifs env) (fun ok s₃ =>
        if ok = true then wpAny (model prog w) A (eval elt env) (fun x s₄ => wpAny (model prog w) A (call (.builtin "list.append") [acc, x]) (fun _ s₅ => CN s (J (i + 1)) (St (i + 1)) s₅) NoE s₄) NoE s₃
        else CN s (J (i + 1)) (St (i + 1)) s₃) NoE s₂) NoE { s with heap := h, toks := tk })
    (fin : ∀ h tk, J n h → R (.ok .next) { s with heap := h, toks := tk }) :
    codeAny (model prog w) A (.compLoop (.ListComp elt [⟨t0, i0, f0, 0⟩, ⟨target, iter, ifs, 0⟩] scope pos) 1 (.ref I) acc env) R s := by
  refine codeAny_loop rfl (fun k s' => ∃ i h tk, s' = { s with heap := h, toks := tk } ∧ i ≤ n ∧ k = n + 1 - i ∧ J i h ∧ St i h) ?_ (n + 1) ⟨0, s.heap, s.toks, rfl, Nat.zero_le _, rfl, h0, hst⟩
  rintro k s' ⟨i, h, tk, rfl, hi, rfl, hj, hs⟩
  show wpAny _ A ((compTurn (.ListComp elt [⟨t0, i0, f0, 0⟩, ⟨target, iter, ifs, 0⟩] scope pos) 1 (.ref I) acc env).onRaise (fun x => do noteFrame x env; theTreesLotGoes x)) _ _ _
  refine wpAny_noted (noNote ?_)
  rw [turn_two1]
  refine wpAny_bind (wpAny_standAt (wpAny_bind ?_))
  by_cases hlt : i < n
  · refine W.item i _ _ _ hlt hs fun v h₁ tk₁ hP hst₁ hk₁ => ?_
    have hj₁ : J i h₁ := hJ _ _ _ hs (fun b o hb e => hk₁ b o (by simpa using hb) e) hj
    dsimp only
    refine wpAny_bind (ht i v h₁ hP hst₁ _ _ rfl (wpAny_bind (wpAny_mono (turn i v h₁ tk₁ hlt hP hj₁ hst₁) (fun _ s₂ h₂ => wpAny_bind (wpAny_mono h₂ (fun ok s₃ h₃ => ?_) fun _ _ e => e)) fun _ _ e => e)))
    cases ok with
    | false =>
      simp only [Bool.false_eq_true, if_false] at h₃ ⊢
      obtain ⟨h', tk', rfl, a, b⟩ := h₃
      exact wpAny_pure ⟨rfl, n + 1 - (i + 1), by omega, i + 1, h', tk', rfl, hlt, rfl, a, b⟩
    | true =>
      simp only [if_true] at h₃ ⊢
      refine wpAny_bind (wpAny_bind (wpAny_mono h₃ (fun x s₄ h₄ => wpAny_bind (wpAny_mono h₄ (fun _ s₅ h₅ => wpAny_pure (wpAny_pure ?_)) fun _ _ e => e)) fun _ _ e => e))
      obtain ⟨h', tk', rfl, a, b⟩ := h₅
      exact ⟨rfl, n + 1 - (i + 1), by omega, i + 1, h', tk', rfl, hlt, rfl, a, b⟩
  · obtain rfl : i = n := by omega
    refine W.done _ _ _ hs fun h₁ tk₁ hk₁ => ?_
    exact wpAny_pure (fin h₁ tk₁ (hJ _ _ _ hs (fun b o hb e => hk₁ b o (by simpa using hb) e) hj))

theorem cl_outer {elt target iter : Expr} {ifs : List Expr} {t1 i1 : Expr} {f1 : List Expr} {scope : Scope} {pos : Pos} {I : Addr} {acc : Value} {env : Env} {n : Nat} {P : Nat → Value → Prop} {St : Nat → Heap → Prop} {fp : List Addr}
    (W : Walks prog w A I fp [I] n P St) (J : Nat → Heap → Prop)
    (hJ : ∀ i h h', St i h → (∀ b o, b ≠ I → h.get? b = some o → h'.get? b = some o) → J i h → J i h')
    (hst : St 0 s.heap) (h0 : J 0 s.heap) (ht : ∀ i v h, P i v → St (i + 1) h → ∀ (s' : Shared) (Q : Unit → Shared → Prop), s'.heap = h → Q () s' → wpAny (model prog w) A (letOwnedTupleGo target (.ref I) v) Q NoE s')
    (hs1 : ∀ x, foldedSetIterable i1 env x = pure x)
    (turn : ∀ i v h tk, i < n → P i v → J i h → St (i + 1) h →
      wpAny (model prog w) A (assign target env v) (fun _ s₂ => wpAny (model prog w) A (testsOf ifs env) (fun ok s₃ =>
        if ok = true then wpAny (model prog w) A (eval i1 env) (fun x s₄ => wpAny (model prog w) A (pyIter x) (fun it s₅ =>
          codeAny (model prog w) A (.compStart (.ListComp elt [⟨target, iter, ifs, 0⟩, ⟨t1, i1, f1, 0⟩] scope pos) 1 it acc env) (fun r s₆ => match r with | .ok _ => CN s (J (i + 1)) (St (i + 1)) s₆ | .error _ => False) s₅) NoE s₄) NoE s₃
        else CN s (J (i + 1)) (St (i + 1)) s₃) NoE s₂) NoE { s with heap := h, toks := tk })
    (fin : ∀ h tk, J n h → R (.ok .next) { s with heap := h, toks := tk }) :
    codeAny (model prog w) A (.compLoop (.ListComp elt [⟨target, iter, ifs, 0⟩, ⟨t1, i1, f1, 0⟩] scope pos) 0 (.ref I) acc env) R s := by
  refine codeAny_loop rfl (fun k s' => ∃ i h tk, s' = { s with heap := h, toks := tk } ∧ i ≤ n ∧ k = n + 1 - i ∧ J i h ∧ St i h) ?_ (n + 1) ⟨0, s.heap, s.toks, rfl, Nat.zero_le _, rfl, h0, hst⟩
  rintro k s' ⟨i, h, tk, rfl, hi, rfl, hj, hs⟩
  show wpAny _ A ((compTurn (.ListComp elt [⟨target, iter, ifs, 0⟩, ⟨t1, i1, f1, 0⟩] scope pos) 0 (.ref I) acc env).onRaise (fun x => do noteFrame x env; theTreesLotGoes x)) _ _ _
  refine wpAny_noted (noNote ?_)
  rw [turn_two0]
  refine wpAny_bind (wpAny_standAt (wpAny_bind ?_))
  by_cases hlt : i < n
  · refine W.item i _ _ _ hlt hs fun v h₁ tk₁ hP hst₁ hk₁ => ?_
    have hj₁ : J i h₁ := hJ _ _ _ hs (fun b o hb e => hk₁ b o (by simpa using hb) e) hj
    dsimp only
    refine wpAny_bind (ht i v h₁ hP hst₁ _ _ rfl (wpAny_bind (wpAny_mono (turn i v h₁ tk₁ hlt hP hj₁ hst₁) (fun _ s₂ h₂ => wpAny_bind (wpAny_mono h₂ (fun ok s₃ h₃ => ?_) fun _ _ e => e)) fun _ _ e => e)))
    cases ok with
    | false =>
      simp only [Bool.false_eq_true, if_false] at h₃ ⊢
      obtain ⟨h', tk', rfl, a, b⟩ := h₃
      exact wpAny_pure ⟨rfl, n + 1 - (i + 1), by omega, i + 1, h', tk', rfl, hlt, rfl, a, b⟩
    | true =>
      simp only [if_true] at h₃ ⊢
      refine wpAny_bind (wpAny_mono h₃ (fun x s₄ h₄ => wpAny_bind (wpAny_standAt (wpAny_bind (wpAny_of_eq (hs1 x) (wpAny_bind (wpAny_holding (wpAny_mono h₄ (fun it s₅ h₅ => ?_) fun _ _ e => e))))))) fun _ _ e => e)
      refine wpAny_bind (wpAny_runOwn (codeAny_mono h₅ fun r s₆ h₆ => ?_))
      cases r with
      | error e => exact h₆.elim
      | ok f =>
        obtain ⟨h', tk', rfl, a, b⟩ := h₆
        exact wpAny_pure ⟨rfl, n + 1 - (i + 1), by omega, i + 1, h', tk', rfl, hlt, rfl, a, b⟩
  · obtain rfl : i = n := by omega
    refine W.done _ _ _ hs fun h₁ tk₁ hk₁ => ?_
    exact wpAny_pure (fin h₁ tk₁ (hJ _ _ _ hs (fun b o hb e => hk₁ b o (by simpa using hb) e) hj))

theorem cs_inner {elt t0 i0 : Expr} {f0 : List Expr} {target iter : Expr} {ifs : List Expr} {scope : Scope} {pos : Pos} {I : Addr} {acc : Value} {env : Env} {n : Nat} {P : Nat → Value → Prop} {St : Nat → Heap → Prop} {fp : List Addr}
    (W : Walks prog w A I fp [I] n P St) (hst : St 0 s.heap)
    (h : codeAny (model prog w) A (.compLoop (.ListComp elt [⟨t0, i0, f0, 0⟩, ⟨target, iter, ifs, 0⟩] scope pos) 1 (.ref I) acc env) R s) :
    codeAny (model prog w) A (.compStart (.ListComp elt [⟨t0, i0, f0, 0⟩, ⟨target, iter, ifs, 0⟩] scope pos) 1 (.ref I) acc env) R s := by
  refine codeAny_of_tree ?_
  show wpAny _ _ ((compStart (.ListComp elt [⟨t0, i0, f0, 0⟩, ⟨target, iter, ifs, 0⟩] scope pos) 1 (.ref I) acc env).onRaise (fun x => do noteFrame x env; standAt theWindowsPlace)) _ _ s
  refine wpAny_notedAt ?_
  unfold compStart
  show wpAny _ _ (ask >>= _) _ _ s
  refine wpAny_bind (wpAny_askSetting (wpAny_ite ?_))
  split
  · exact wpAny_bind (wpAny_pure (wpAny_pure (And.intro rfl h)))
  · refine wpAny_bind (wpAny_rule ?_)
    show wpAny _ _ (standAt iter.pos >>= _) _ _ s
    exact wpAny_bind (wpAny_standAt (wpAny_bind (W.self 0 s _ _ hst (wpAny_pure (And.intro rfl h)))))

/-- into a comprehension: what its source is, and its clauses' loop on a new list D and new locals C -/
theorem comp_in {elt target iter : Expr} {ifs : List Expr} {rest : List Comprehension} {scope : Scope} {pos : Pos} {env : Env} {cl : List (Str × Addr)} {Q : Value → Shared → Prop}
    (hclos : closureFor scope env = pure cl) (hcell : ∀ y ∈ scope.names, y.2 ≠ .cell) (hkind : scope.kind = .function) (hnames : ∀ y ∈ scope.names, y.2 = .local → scope.names.lookup y.1 = some .local)
    (hs : ∀ x, foldedSetIterable iter env x = pure x)
    (h : wpAny (model prog w) A (eval iter env) (fun xv s₁ => wpAny (model prog w) A (pyIter xv) (fun it s₂ => ∃ I fp n P St, it = .ref I ∧ Walks prog w A I fp [I] n P St ∧ St 0 s₂.heap ∧ (∀ b ∈ fp, b < s₂.heap.objs.size) ∧
      ∀ D C h₄ tk₄, D = s₂.heap.objs.size → C = D + 1 → (∀ b o, s₂.heap.get? b = some o → h₄.get? b = some o) → h₄.get? D = some (LCg.lst []) → h₄.Ns C (fun _ => none) → St 0 h₄ →
        codeAny (model prog w) A (.compLoop (.ListComp elt (⟨target, iter, ifs, 0⟩ :: rest) scope pos) 0 (.ref I) (.ref D) (compEnvC scope cl C env))
          (fun r s' => match r with | .ok _ => ∃ m, s'.heap.Ns C m ∧ ∀ h', Heap.SameBut C s'.heap h' → Q (.ref D) { s' with heap := h' } | .error _ => False) { s₂ with heap := h₄, toks := tk₄ }) E s₁) E s) :
    wpAny (model prog w) A (eval (.ListComp elt (⟨target, iter, ifs, 0⟩ :: rest) scope pos) env) Q E s := by
  rw [eval_ListComp]
  refine wpAny_comprehension_free (use := none) rfl hs hclos hkind hnames (wpAny_mono h (fun xv s₁ h₁ => wpAny_mono h₁ (fun it s₂ h₂ => ?_) fun _ _ e => e) fun _ _ e => e)
  obtain ⟨I, fp, n, P, St, rfl, W, hst, hfp, h₂⟩ := h₂
  refine wpAny_newObj_type (wpAny_newFunctionEnv hcell (by intro y hy; simp at hy) (fun h₁ hns₁ hsb₁ => ?_) hkind)
  dsimp only at hns₁ hsb₁ ⊢
  generalize hH2 : s₂.heap.push { cls := .type "list", dict := none, data := .seq ([] : List Value).toArray } = H2 at hns₁ hsb₁ ⊢
  have hC : H2.objs.size = s₂.heap.objs.size + 1 := by rw [← hH2, Heap.size_push]
  have old : ∀ b o, s₂.heap.get? b = some o → h₁.get? b = some o := fun b o e => hsb₁.extBut b o (by rw [hC]; exact Nat.ne_of_lt (Nat.lt_succ_of_lt (Heap.lt_size e))) (Heap.get?_push_of_some _ (hH2 ▸ Heap.get?_push_of_some _ e))
  have hacc : h₁.get? s₂.heap.objs.size = some (LCg.lst []) := hsb₁.extBut _ _ (by rw [hC]; exact Nat.ne_of_lt (Nat.lt_succ_self _)) (Heap.get?_push_of_some _ (hH2 ▸ Heap.get?_push_size _ rfl))
  have hst₁ : St 0 h₁ := W.frame _ _ _ hst fun b _ o e => old b o e
  have loop := h₂ _ H2.objs.size h₁ (s₂.toks + ([] : List (Str × Value)).length) rfl hC old hacc hns₁ hst₁
  have loop' := codeAny_mono (R' := compPost (model prog w) A E none Q (.ref s₂.heap.objs.size) H2.objs.size) loop (fun r s' hr => by
    cases r with
    | ok f => exact hr
    | error e => exact hr.elim)
  exact codeAny_compStart_list loop' (W.self 0 _ _ _ hst₁ loop')

/-- the same where the comprehension is a statement's whole right side, and the name is a local -/
theorem comp_asg {elt target iter : Expr} {ifs : List Expr} {rest : List Comprehension} {scope : Scope} {pos spos : Pos} {env : Env} {cl : List (Str × Addr)} {y : Str} {py : Pos} {Q : Flow → Shared → Prop}
    (hsw : swapsWith (.ListComp elt (⟨target, iter, ifs, 0⟩ :: rest) scope pos) (some (.Name y py)) spos.line env = pure true) (hr0 : firstAsync (⟨target, iter, ifs, 0⟩ :: rest) = false)
    (hclos : closureFor scope env = pure cl) (hcell : ∀ y ∈ scope.names, y.2 ≠ .cell) (hkind : scope.kind = .function) (hnames : ∀ y ∈ scope.names, y.2 = .local → scope.names.lookup y.1 = some .local)
    (hs : ∀ x, foldedSetIterable iter env x = pure x)
    (hy : env.kindOf y = some .local) (hp : (env.scope.kind == .class || (env.scope.kind == .module && env.locals != env.globals)) = false)
    (h : wpAny (model prog w) A (eval iter env) (fun xv s₁ => wpAny (model prog w) A (pyIter xv) (fun it s₂ => ∃ I fp n P St, it = .ref I ∧ Walks prog w A I fp [I] n P St ∧ St 0 s₂.heap ∧ (∀ b ∈ fp, b < s₂.heap.objs.size) ∧
      ∀ D C h₄ tk₄, D = s₂.heap.objs.size → C = D + 1 → (∀ b o, s₂.heap.get? b = some o → h₄.get? b = some o) → h₄.get? D = some (LCg.lst []) → h₄.Ns C (fun _ => none) → St 0 h₄ →
        codeAny (model prog w) A (.compLoop (.ListComp elt (⟨target, iter, ifs, 0⟩ :: rest) scope pos) 0 (.ref I) (.ref D) (compEnvC scope cl C env))
          (fun r s' => match r with
            | .ok _ => ∃ m mL, s'.heap.Ns C m ∧ C ≠ env.locals ∧ s'.heap.Ns env.locals mL ∧ ∀ h' tk, (∀ b o, b ≠ C → b ≠ env.locals → s'.heap.get? b = some o → h'.get? b = some o) → h'.Ns env.locals (fun z => if z = y then some (.ref D) else mL z) → Q .next { s' with heap := h', toks := tk }
            | .error _ => False) { s₂ with heap := h₄, toks := tk₄ }) E s₁) E s) :
    wpAny (model prog w) A (exec (.Assign [.Name y py] (.ListComp elt (⟨target, iter, ifs, 0⟩ :: rest) scope pos) spos) env) Q E s := by
  rw [exec_Assign_Name_used _ _ _ _ hsw]
  refine wpAny_bind (wpAny_standAt (wpAny_bind ?_))
  show wpAny _ A (do let _ ← comprehension (.ListComp elt (⟨target, iter, ifs, 0⟩ :: rest) scope pos) scope env _ (newList []) (firstAsync (⟨target, iter, ifs, 0⟩ :: rest)) (eval iter env) (some (assign (.Name y py) env))) _ _ s
  rw [hr0]
  refine wpAny_bind (wpAny_mono (wpAny_comprehension_free (use := some (assign (.Name y py) env)) (Q := fun _ s' => Q .next s') rfl hs hclos hkind hnames
    (wpAny_mono h (fun xv s₁ h₁ => wpAny_mono h₁ (fun it s₂ h₂ => ?_) fun _ _ e => e) fun _ _ e => e)) (fun _ s' hq => wpAny_pure (wpAny_pure hq)) fun _ _ e => e)
  obtain ⟨I, fp, n, P, St, rfl, W, hst, hfp, h₂⟩ := h₂
  refine wpAny_newObj_type (wpAny_newFunctionEnv hcell (by intro y hy; simp at hy) (fun h₁ hns₁ hsb₁ => ?_) hkind)
  dsimp only at hns₁ hsb₁ ⊢
  generalize hH2 : s₂.heap.push { cls := .type "list", dict := none, data := .seq ([] : List Value).toArray } = H2 at hns₁ hsb₁ ⊢
  have hC : H2.objs.size = s₂.heap.objs.size + 1 := by rw [← hH2, Heap.size_push]
  have old : ∀ b o, s₂.heap.get? b = some o → h₁.get? b = some o := fun b o e => hsb₁.extBut b o (by rw [hC]; exact Nat.ne_of_lt (Nat.lt_succ_of_lt (Heap.lt_size e))) (Heap.get?_push_of_some _ (hH2 ▸ Heap.get?_push_of_some _ e))
  have hacc : h₁.get? s₂.heap.objs.size = some (LCg.lst []) := hsb₁.extBut _ _ (by rw [hC]; exact Nat.ne_of_lt (Nat.lt_succ_self _)) (Heap.get?_push_of_some _ (hH2 ▸ Heap.get?_push_size _ rfl))
  have hst₁ : St 0 h₁ := W.frame _ _ _ hst fun b _ o e => old b o e
  have loop := h₂ _ H2.objs.size h₁ (s₂.toks + ([] : List (Str × Value)).length) rfl hC old hacc hns₁ hst₁
  have loop' := codeAny_mono (R' := compPost (model prog w) A E (some (assign (.Name y py) env)) (fun _ s' => Q .next s') (.ref s₂.heap.objs.size) H2.objs.size) loop (fun r s' hr => by
    cases r with
    | ok f =>
      obtain ⟨m, mL, hn, hne, hL, hq⟩ := hr
      show wpAny _ A (assign (.Name y py) env (.ref s₂.heap.objs.size)) _ _ _
      refine wpAny_assign_Name (wpAny_storeName_local hy hL (fun h₂ hn₂ hs₂ => ?_) hp)
      refine ⟨m, hn.sameBut hs₂ hne, fun h₃ hs₃ => hq h₃ _ (fun b o hb hbL e => hs₃.extBut b o hb (hs₂.extBut b o hbL e)) (hn₂.sameBut hs₃ (Ne.symm hne))⟩
    | error e => exact hr.elim)
  exact codeAny_compStart_list loop' (W.self 0 _ _ _ hst₁ loop')
end
end Mine
/-! part R3 -/
namespace Mine
open PySem PySem.W PyProof.Rows PySem.Calls PySem.Spec
section
variable {prog : Program} {w : World} {A₀ A : Around} {s : Shared} {base h₀ : Heap} {outer : List Env} {L : Addr} {m : Str → Option Value} {env : Env} {K : Frag}
  {R : Result → Shared → Prop} {name qual : Str} {params : Arguments} {body : List Stmt} {scope : Scope} {dV kV doc pm cdv ct oc : Value} {an od : Option Addr} {osl : Array (Option Value)} {f : Addr} {args : Args} {binds : List (Str × Value)}
theorem enterC {p : Program} {loose : List Str} {mean : ExcName → Option Value} {mg mb : Str → Option Value}
    (B : Below A₀ base outer h₀) (F : Fr h₀ L s.heap m) (X₀ : K.In h₀) (T : Top p loose mean mg mb h₀) (hA : A.frames = some (env :: outer)) (hf : env.frame = some L) (hke : env.scope.kind = .function)
    (ho : K.lookup f = some ⟨oc, od, .func (fnOf name qual params body scope dV kV doc pm an cdv ct), osl⟩) (hcd : codeIn K cdv qual = true) (hroom : A.depth < recursionLimit)
    (hbind : BindsTo s (fnOf name qual params body scope dV kV doc pm an cdv ct) args binds)
    (hkind : ∀ n, ∀ x ∈ binds, scope.names.lookup x.1 = some .local ∨ (scope.names.lookup x.1 = some .cell ∧ ((cellsFrom n scope.names []).lookup x.1).isSome = true))
    (hnd : ((cellsFrom 0 scope.names []).map (·.1)).Nodup)
    (h : ∀ g L' h₁ tk cells, g = s.heap → L' = g.objs.size → Fr g L' h₁ (bindL (envOfC qual scope L' f cdv).kindOf binds fun _ => none) → News g L' h₁ cells →
      CellsAre (bindC (envOfC qual scope L' f cdv).kindOf binds fun _ => none) (cellsFrom (L' + 1) scope.names []) cells → Below A base (env :: outer) g → K.In g → Top p loose mean mg mb g →
      wpAny (model prog w) (A.deeper (envOfC qual scope L' f cdv)) (execs body (envOfC qual scope L' f cdv))
        (fun fl s' => R (.ok (.ret (match fl with | .ret v => v | _ => .none))) s') NoE
        { s with heap := h₁, toks := tk })
    (hco : scope.isCoroutine = false := by rfl) (hgen : scope.isGenerator = false := by rfl) (hk : scope.kind = .function := by rfl) : codeAny (model prog w) A (.call (.ref f) args) R s := by
  have B₁ := pushX B F hf hke
  refine codeAny_call_function hroom ((X₀.keeps F.keep) _ _ ho) rfl hco hgen rfl (codeRec_of (X₀.keeps F.keep) hcd) (hbind _ _ _ _ ?_)
  refine wpAny_newFunctionEnv_cells hk (hkind _) fun env' he s' x => ?_
  subst he
  refine ⟨((T.keeps F.keep).nolimit).keeps x.toInCall.keep, codeAny_func ?_⟩
  obtain ⟨h₁, tk, rfl, _⟩ := x.done
  have hk₁ := x.toInCall.keep
  obtain ⟨cells, NC, Y⟩ := Cl.news (h₀ := s.heap) (Nat.le_refl _) fun n c hm => ⟨x.cell n c (lookup_of_mem_nodup (cellsFrom_names scope.names 0 (s.heap.objs.size + 1) [] [] rfl ▸ hnd) hm), x.above n c hm⟩
  refine wpAny_mono (h s.heap s.heap.objs.size h₁ tk cells rfl rfl ⟨x.toInCall.ns, hk₁, Nat.le_refl _⟩ NC Y ⟨hA, B₁.stays, B₁.frames⟩ (X₀.keeps F.keep) (T.keeps F.keep)) (fun fl s' hl => hl) fun _ _ y => y.elim

/-- For over any source, with a name for target, modular -/
def ForOk (prog : Program) (w : World) (A : Around) (env : Env) (x : Str) (px : Pos) (body : List Stmt) (Q : Flow → Shared → Prop) (it : Value) (s₂ : Shared) : Prop :=
  ∃ (I : Addr) (fp : List Addr) (n : Nat) (P : Nat → Value → Prop) (St J : Nat → Heap → Prop), it = .ref I ∧ Walks prog w A I fp [I] n P St ∧ St 0 s₂.heap ∧ J 0 s₂.heap ∧
    (∀ i h h', St i h → (∀ b o, b ≠ I → h.get? b = some o → h'.get? b = some o) → J i h → J i h') ∧
    (∀ i v h tk, i < n → P i v → J i h → St (i + 1) h → wpAny (model prog w) A (assign (.Name x px) env v) (fun _ s₃ => wpAny (model prog w) A (execs body env)
      (fun f s₄ => (f = .next ∨ f = .cont) ∧ CN s₂ (J (i + 1)) (St (i + 1)) s₄) NoE s₃) NoE {s₂ with heap := h, toks := tk}) ∧
    ∀ h tk, J n h → Q .next {s₂ with heap := h, toks := tk}

theorem for_raw {x : Str} {px : Pos} {iter : Expr} {body : List Stmt} {pos : Pos} {Q : Flow → Shared → Prop} {E : Value → Shared → Prop}
    (h : wpAny (model prog w) A (eval iter env) (fun xv s₁ => wpAny (model prog w) A (pyIter xv) (ForOk prog w A env x px body Q) E s₁) E s)
    (hs : ∀ x, foldedSetIterable iter env x = pure x := by intro _; rfl) :
    wpAny (model prog w) A (exec (.For (.Name x px) iter body [] pos) env) Q E s := by
  refine wpAny_For (wpAny_mono h (fun xv s₁ h₁ => wpAny_mono h₁ (fun it s₂ h₂ => ?_) fun _ _ e => e) fun _ _ e => e) hs
  obtain ⟨I, fp, n, P, St, J, rfl, W, hst, h0, hJ, turn, fin⟩ := h₂
  refine codeAny_forLoop (fun k s' => ∃ i h tk, s' = { s₂ with heap := h, toks := tk } ∧ i ≤ n ∧ k = n + 1 - i ∧ J i h ∧ St i h) ?_ (n + 1) ⟨0, s₂.heap, s₂.toks, rfl, Nat.zero_le _, rfl, h0, hst⟩
  rintro k s' ⟨i, h, tk, rfl, hi, rfl, hj, hs'⟩
  by_cases hlt : i < n
  · refine W.item i _ _ _ hlt hs' fun v h₁ tk₁ hP hst₁ hk₁ => ?_
    have hj₁ : J i h₁ := hJ _ _ _ hs' (fun b o hb e => hk₁ b o (by simpa using hb) e) hj
    dsimp only
    refine wpAny_mono (turn i v h₁ tk₁ hlt hP hj₁ hst₁) (fun _ s₃ h₃ => wpAny_mono h₃ (fun f s₄ h₄ => ?_) fun _ _ e => e.elim) fun _ _ e => e.elim
    obtain ⟨hf, h', tk', rfl, a, b⟩ := h₄
    have : ∃ m, m < n + 1 - i ∧ ∃ i h tk, ({ s₂ with heap := h', toks := tk' } : Shared) = { s₂ with heap := h, toks := tk } ∧ i ≤ n ∧ m = n + 1 - i ∧ J i h ∧ St i h := ⟨n + 1 - (i + 1), by omega, i + 1, h', tk', rfl, hlt, rfl, a, b⟩
    rcases hf with rfl | rfl <;> exact this
  · obtain rfl : i = n := by omega
    refine W.done _ _ _ hs' fun h₁ tk₁ hk₁ => ?_
    exact wpAny_execs_nil (fin h₁ tk₁ (hJ _ _ _ hs' (fun b o hb e => hk₁ b o (by simpa using hb) e) hj))
end
end Mine
/-! part R4 -/
namespace Mine
open PySem PySem.W PyProof.Rows PySem.Calls PySem.Spec
inductive All2 {α : Type} (R : Value → α → Prop) : List Value → List α → Prop
  | nil : All2 R [] []
  | cons {v : Value} {x : α} {vs : List Value} {xs : List α} : R v x → All2 R vs xs → All2 R (v :: vs) (x :: xs)
abbrev Kpt (h h' : Heap) : Prop := ∀ (b : Nat) o, h.get? b = some o → h'.get? b = some o
abbrev KptBut (c : Nat) (h h' : Heap) : Prop := ∀ (b : Nat) o, b ≠ c → h.get? b = some o → h'.get? b = some o
/-- a later state: the block's locals at C may be others, all else is kept -/
def Step (s : Shared) (C : Nat) (h : Heap) (G : Heap → Prop) (s' : Shared) : Prop := ∃ h' tk m, s' = {s with heap := h', toks := tk} ∧ KptBut C h h' ∧ h'.Ns C m ∧ G h'
/-- depends on the heap from lo on only -/
def SeqO (o : Obj) : Prop := ∃ x n, o.data = .seq x n
def Late {α : Type} (Elt : Heap → Value → α → Prop) (lo : Nat) : Prop := ∀ h h' v x, (∀ (b : Nat) o, lo ≤ b → SeqO o → h.get? b = some o → h'.get? b = some o) → Elt h v x → Elt h' v x
theorem Late.all {α : Type} {Elt : Heap → Value → α → Prop} {lo : Nat} (L : Late Elt lo) {h h' : Heap} {v : Value} {x : α} (hk : ∀ (b : Nat) o, lo ≤ b → h.get? b = some o → h'.get? b = some o) : Elt h v x → Elt h' v x := L _ _ _ _ fun b o hb _ e => hk b o hb e
theorem All2.keepS {α : Type} {Elt : Heap → Value → α → Prop} {lo : Nat} (L : Late Elt lo) {h h' : Heap} (hk : ∀ (b : Nat) o, lo ≤ b → SeqO o → h.get? b = some o → h'.get? b = some o) : ∀ {ys : List Value} {xs : List α}, All2 (Elt h) ys xs → All2 (Elt h') ys xs
  | _, _, .nil => .nil
  | _, _, .cons a r => .cons (L _ _ _ _ hk a) (All2.keepS L hk r)
theorem All2.keep {α : Type} {Elt : Heap → Value → α → Prop} {lo : Nat} (L : Late Elt lo) {h h' : Heap} (hk : ∀ (b : Nat) o, lo ≤ b → h.get? b = some o → h'.get? b = some o) : ∀ {ys : List Value} {xs : List α}, All2 (Elt h) ys xs → All2 (Elt h') ys xs
  | _, _, .nil => .nil
  | _, _, .cons a r => .cons (L.all hk a) (All2.keep L hk r)
theorem All2.append {α : Type} {R : Value → α → Prop} : ∀ {ys ys' : List Value} {xs xs' : List α}, All2 R ys xs → All2 R ys' xs' → All2 R (ys ++ ys') (xs ++ xs')
  | _, _, _, _, .nil, h => h
  | _, _, _, _, .cons a r, h => .cons a (All2.append r h)
theorem All2.length {α : Type} {R : Value → α → Prop} : ∀ {ys : List Value} {xs : List α}, All2 R ys xs → ys.length = xs.length
  | _, _, .nil => rfl
  | _, _, .cons _ r => by rw [List.length_cons, List.length_cons, All2.length r]
theorem flat_succ {α : Type} (f : Nat → List α) (i : Nat) : (List.range (i + 1)).flatMap f = (List.range i).flatMap f ++ f i := by
  rw [List.range_succ, List.flatMap_append]; simp
theorem flat_len {α : Type} (f : Nat → List α) (k : Nat) (hf : ∀ i, (f i).length ≤ k) : ∀ i, ((List.range i).flatMap f).length ≤ i * k
  | 0 => by simp
  | i + 1 => by rw [flat_succ, List.length_append, Nat.succ_mul]; have := flat_len f k hf i; have := hf i; omega

section
variable {prog : Program} {w : World} {A : Around} {E : Value → Shared → Prop} {R : Result → Shared → Prop} {s : Shared} {α : Type}

/-- what a one-clause comprehension over a walked source needs -/
def One (prog : Program) (w : World) (A : Around) (s : Shared) (env : Env) (Elt : Nat → Heap → Value → α → Prop) (elt target : Expr) (ifs : List Expr) (scope : Scope) (cl : List (Str × Addr)) (Fin : Nat → Heap → Prop) (Qf : Nat → Shared → Prop) (it : Value) (s₂ : Shared) : Prop :=
  ∃ (I : Nat) (fp : List Addr) (n : Nat) (P : Nat → Value → Prop) (St : Nat → Heap → Prop) (f : Nat → List α) (h₂ : Heap) (t₂ : Nat), s₂ = {s with heap := h₂, toks := t₂} ∧ it = .ref I ∧ Walks prog w A I fp [I] n P St ∧ St 0 h₂ ∧ (∀ b ∈ fp, b < h₂.objs.size) ∧ Kpt s.heap h₂ ∧ s.heap.get? I = none ∧ I < h₂.objs.size ∧ n ≤ sizeLine ∧
    (∀ i v h, P i v → St (i + 1) h → ∀ (s' : Shared) (Q : Unit → Shared → Prop), s'.heap = h → Q () s' → wpAny (model prog w) A (letOwnedTupleGo target (.ref I) v) Q NoE s') ∧
    (∀ i v h tk (C : Nat) m, i < n → P i v → Kpt s.heap h → h.Ns C m → s.heap.get? C = none →
      wpAny (model prog w) A (assign target (compEnvC scope cl C env) v) (fun _ s₃ => wpAny (model prog w) A (testsOf ifs (compEnvC scope cl C env)) (fun ok s₄ =>
        if ok = true then wpAny (model prog w) A (eval elt (compEnvC scope cl C env)) (fun x s₅ => Step s C h (fun h' => ∃ y, f i = [y] ∧ Elt (C + 1) h' x y) s₅) NoE s₄
        else Step s C h (fun _ => f i = []) s₄) NoE s₃) NoE {s with heap := h, toks := tk}) ∧
    ∀ (D : Nat) ys h' tk, Fin D h' → h'.get? D = some (LCg.lst ys) → All2 (Elt (D + 2) h') ys ((List.range n).flatMap f) → s.heap.get? D = none → Qf D {s with heap := h', toks := tk}

theorem Ns_but {h h' : Heap} {a : Addr} {m : Str → Option Value} (x : h.Ns a m) {c : Nat} (hc : @Ne Nat a c) (hk : KptBut c h h') : h'.Ns a m := x.at' fun o e => hk a o hc e

theorem one_loop {Elt : Nat → Heap → Value → α → Prop} (L : ∀ lo, Late (Elt lo) lo) {elt target iter : Expr} {ifs : List Expr} {scope : Scope} {pos : Pos} {env : Env} {cl : List (Str × Addr)} {h₂ : Heap} {I : Nat} {fp : List Addr} {n : Nat} {P : Nat → Value → Prop} {St : Nat → Heap → Prop} {f : Nat → List α} {D C : Nat} {h₄ : Heap} {tk₄ : Nat}
    (W : Walks prog w A I fp [I] n P St) (hk2 : Kpt s.heap h₂) (hI0 : s.heap.get? I = none) (hI : I < h₂.objs.size) (hfp : ∀ b ∈ fp, b < h₂.objs.size) (hn : n ≤ sizeLine)
    (ht : ∀ i v h, P i v → St (i + 1) h → ∀ (s' : Shared) (Q : Unit → Shared → Prop), s'.heap = h → Q () s' → wpAny (model prog w) A (letOwnedTupleGo target (.ref I) v) Q NoE s')
    (turn : ∀ i v h tk (C : Nat) m, i < n → P i v → Kpt s.heap h → h.Ns C m → s.heap.get? C = none →
      wpAny (model prog w) A (assign target (compEnvC scope cl C env) v) (fun _ s₃ => wpAny (model prog w) A (testsOf ifs (compEnvC scope cl C env)) (fun ok s₄ =>
        if ok = true then wpAny (model prog w) A (eval elt (compEnvC scope cl C env)) (fun x s₅ => Step s C h (fun h' => ∃ y, f i = [y] ∧ Elt (C + 1) h' x y) s₅) NoE s₄
        else Step s C h (fun _ => f i = []) s₄) NoE s₃) NoE {s with heap := h, toks := tk})
    (hD : D = h₂.objs.size) (hC : C = D + 1) (hk4 : Kpt h₂ h₄) (hacc : h₄.get? D = some (LCg.lst [])) (hns : h₄.Ns C (fun _ => none)) (hst : St 0 h₄)
    (fin : ∀ ys h' tk m, Kpt s.heap h' → h'.get? D = some (LCg.lst ys) → All2 (Elt (D + 2) h') ys ((List.range n).flatMap f) → h'.Ns C m → R (.ok .next) {s with heap := h', toks := tk}) :
    codeAny (model prog w) A (.compLoop (.ListComp elt [⟨target, iter, ifs, 0⟩] scope pos) 0 (.ref I) (.ref D) (compEnvC scope cl C env)) R {s with heap := h₄, toks := tk₄} := by
  have hlt : ∀ (b : Nat) o, s.heap.get? b = some o → b < D := fun b o e => by have q : @LT.lt Nat _ b h₂.objs.size := Heap.lt_size (hk2 b o e); omega
  have hC0 : s.heap.get? C = none := by
    cases q : s.heap.get? C with
    | none => rfl
    | some o => have := hlt _ _ q; omega
  refine cl_one W (fun i h => Kpt s.heap h ∧ ∃ m ys, h.Ns C m ∧ h.get? D = some (LCg.lst ys) ∧ All2 (Elt (D + 2) h) ys ((List.range i).flatMap f) ∧ ys.length ≤ i) ?_ hst ⟨fun b o e => hk4 b o (hk2 b o e), _, [], hns, hacc, .nil, Nat.le_refl _⟩ ht ?_ ?_
  · rintro i h h' - hb ⟨k, m, ys, a, b, c, d⟩
    refine ⟨fun q o e => hb q o (fun q' => by rw [q', hI0] at e; cases e) (k q o e), m, ys, Ns_but a (c := I) (show @Ne Nat C I by omega) (fun q o hq e => hb q o hq e), hb D _ (show @Ne Nat D I by omega) b, All2.keep (L _) (fun q o hq e => hb q o (show @Ne Nat q I by omega) e) c, d⟩
  · rintro i v h tk hi hP ⟨k, m, ys, a, b, c, d⟩ hs
    have hDC : D ≠ C := by omega
    have T := turn i v h tk C m hi hP k a hC0
    refine wpAny_mono T (fun _ s₃ h₃ => wpAny_mono h₃ (fun ok s₄ h₄ => ?_) fun _ _ e => e) fun _ _ e => e
    have up : ∀ h', KptBut C h h' → Kpt s.heap h' := fun h' hb q o e => hb q o (fun q' => by rw [q', hC0] at e; cases e) (k q o e)
    have st : ∀ h', KptBut C h h' → St (i + 1) h' ∨ True := fun _ _ => .inr trivial
    cases ok with
    | false =>
      simp only [Bool.false_eq_true, if_false] at h₄ ⊢
      obtain ⟨h', tk', m', rfl, kb, n', fe⟩ := h₄
      refine ⟨h', tk', rfl, ⟨up h' kb, m', ys, n', kb D _ hDC b, ?_, by omega⟩, W.frame _ _ _ hs fun q hq o e => kb q o (have q2 : @LT.lt Nat _ q h₂.objs.size := hfp q hq; show @Ne Nat q C by omega) e⟩
      · rw [flat_succ, fe, List.append_nil]
        exact All2.keep (L _) (fun q o hq e => kb q o (by omega) e) c
    | true =>
      simp only [if_true] at h₄ ⊢
      refine wpAny_mono h₄ (fun x s₅ h₅ => ?_) fun _ _ e => e
      obtain ⟨h', tk', m', rfl, kb, n', y, fe, el⟩ := h₅
      refine append_at (s := {s with heap := h', toks := tk'}) (kb D _ hDC b) (fun h'' sb g => ?_) (by rw [List.size_toArray]; omega)
      have hb : KptBut D h' h'' := fun q o hq e => sb.extBut q o hq e
      refine ⟨h'', tk', rfl, ⟨fun q o e => hb q o (fun q' => by have := hlt _ _ e; omega) (up h' kb q o e), m', ys ++ [x], Ns_but n' (Ne.symm hDC) hb, by rw [g]; exact congrArg some (LCg.lst_snoc ys x), ?_, by rw [List.length_append, List.length_singleton]; omega⟩, W.frame _ _ _ hs fun q hq o e => have q2 : @LT.lt Nat _ q h₂.objs.size := hfp q hq; hb q o (show @Ne Nat q D by omega) (kb q o (show @Ne Nat q C by omega) e)⟩
      · rw [flat_succ, fe]
        refine All2.append (All2.keep (L _) (fun q o hq e => hb q o (by omega) (kb q o (by omega) e)) c) (.cons ?_ .nil)
        have : C + 1 = D + 2 := by omega
        rw [this] at el
        exact (L _).all (fun q o hq e => hb q o (by omega) e) el
  · rintro h tk ⟨k, m, ys, a, b, c, d⟩
    exact fin ys h tk m k b c a

theorem comp1 {Elt : Nat → Heap → Value → α → Prop} (L : ∀ lo, Late (Elt lo) lo) {elt target iter : Expr} {ifs : List Expr} {scope : Scope} {pos : Pos} {env : Env} {cl : List (Str × Addr)} {Q : Value → Shared → Prop}
    (hclos : closureFor scope env = pure cl) (hcell : ∀ y ∈ scope.names, y.2 ≠ .cell) (hkind : scope.kind = .function) (hnames : ∀ y ∈ scope.names, y.2 = .local → scope.names.lookup y.1 = some .local)
    (hs : ∀ x, foldedSetIterable iter env x = pure x)
    (h : wpAny (model prog w) A (eval iter env) (fun xv s₁ => wpAny (model prog w) A (pyIter xv) (One prog w A s env Elt elt target ifs scope cl (fun _ h' => Kpt s.heap h') (fun D s' => Q (.ref D) s')) E s₁) E s) :
    wpAny (model prog w) A (eval (.ListComp elt [⟨target, iter, ifs, 0⟩] scope pos) env) Q E s := by
  refine comp_in hclos hcell hkind hnames hs (wpAny_mono h (fun xv s₁ h₁ => wpAny_mono h₁ (fun it s₂ h₂ => ?_) fun _ _ e => e) fun _ _ e => e)
  obtain ⟨I, fp, n, P, St, f, h₂, t₂, rfl, rfl, W, hst, hfp, hk2, hI0, hI, hn, ht, turn, fin⟩ := h₂
  refine ⟨I, fp, n, P, St, rfl, W, hst, hfp, fun D C h₄ tk₄ hD hC hk4 hacc hns hst4 => ?_⟩
  have ltD : ∀ (b : Nat) o, s.heap.get? b = some o → b < D := fun b o e => by have q : @LT.lt Nat _ b h₂.objs.size := Heap.lt_size (hk2 b o e); have hD' : @Eq Nat D h₂.objs.size := hD; omega
  have sz : s.heap.get? D = none := by
    cases q : s.heap.get? D with
    | none => rfl
    | some o => exact absurd (ltD _ _ q) (Nat.lt_irrefl _)
  have h1 : @Eq Nat C (D + 1) := hC
  refine one_loop (s := s) L W hk2 hI0 hI hfp hn ht turn hD hC hk4 hacc hns hst4 fun ys h' tk m k g a nm => ⟨m, nm, fun h'' sb => ?_⟩
  have hb : KptBut C h' h'' := fun q o hq e => sb.extBut q o hq e
  refine fin D ys h'' tk (fun q o e => hb q o (fun q' => ?_) (k q o e)) (hb D _ (show @Ne Nat D C by have : @Eq Nat C (D + 1) := hC; omega) g) (All2.keep (L _) (fun q o hq e => hb q o (show @Ne Nat q C by have : @Eq Nat C (D + 1) := hC; omega) e) a) sz
  have : @LT.lt Nat _ q D := ltD _ _ e
  omega

theorem comp1_asg {Elt : Nat → Heap → Value → α → Prop} (L : ∀ lo, Late (Elt lo) lo) {elt target iter : Expr} {ifs : List Expr} {scope : Scope} {pos spos : Pos} {env : Env} {cl : List (Str × Addr)} {y : Str} {py : Pos} {mL : Str → Option Value} {Q : Flow → Shared → Prop}
    (hsw : swapsWith (.ListComp elt [⟨target, iter, ifs, 0⟩] scope pos) (some (.Name y py)) spos.line env = pure true) (hr0 : firstAsync [⟨target, iter, ifs, 0⟩] = false)
    (hclos : closureFor scope env = pure cl) (hcell : ∀ y ∈ scope.names, y.2 ≠ .cell) (hkind : scope.kind = .function) (hnames : ∀ y ∈ scope.names, y.2 = .local → scope.names.lookup y.1 = some .local)
    (hs : ∀ x, foldedSetIterable iter env x = pure x)
    (hy : env.kindOf y = some .local) (hp : (env.scope.kind == .class || (env.scope.kind == .module && env.locals != env.globals)) = false) (hL : s.heap.Ns env.locals mL)
    (h : wpAny (model prog w) A (eval iter env) (fun xv s₁ => wpAny (model prog w) A (pyIter xv) (One prog w A s env Elt elt target ifs scope cl (fun D h' => KptBut env.locals s.heap h' ∧ h'.Ns env.locals (fun z => if z = y then some (.ref D) else mL z)) (fun D s' => Q .next s')) E s₁) E s) :
    wpAny (model prog w) A (exec (.Assign [.Name y py] (.ListComp elt [⟨target, iter, ifs, 0⟩] scope pos) spos) env) Q E s := by
  refine comp_asg hsw hr0 hclos hcell hkind hnames hs hy hp (wpAny_mono h (fun xv s₁ h₁ => wpAny_mono h₁ (fun it s₂ h₂ => ?_) fun _ _ e => e) fun _ _ e => e)
  obtain ⟨I, fp, n, P, St, f, h₂, t₂, rfl, rfl, W, hst, hfp, hk2, hI0, hI, hn, ht, turn, fin⟩ := h₂
  refine ⟨I, fp, n, P, St, rfl, W, hst, hfp, fun D C h₄ tk₄ hD hC hk4 hacc hns hst4 => ?_⟩
  have ltD : ∀ (b : Nat) o, s.heap.get? b = some o → b < D := fun b o e => by have q : @LT.lt Nat _ b h₂.objs.size := Heap.lt_size (hk2 b o e); have hD' : @Eq Nat D h₂.objs.size := hD; omega
  have sz : s.heap.get? D = none := by
    cases q : s.heap.get? D with
    | none => rfl
    | some o => exact absurd (ltD _ _ q) (Nat.lt_irrefl _)
  have h1 : @Eq Nat C (D + 1) := hC
  have hLs : @LT.lt Nat _ env.locals D := by obtain ⟨o, _, _, e, _⟩ := hL; exact ltD _ _ e
  refine one_loop (s := s) L W hk2 hI0 hI hfp hn ht turn hD hC hk4 hacc hns hst4 fun ys h' tk m k g a nm => ⟨m, mL, nm, (show @Ne Nat C env.locals by omega), hL.at' fun o e => k _ _ e, fun h'' tk' hb n' => ?_⟩
  refine fin D ys h'' tk' ⟨fun q o hq e => hb q o (have : @LT.lt Nat _ q D := ltD _ _ e; show @Ne Nat q C by omega) hq (k q o e), n'⟩ (hb D _ (show @Ne Nat D C by omega) (show @Ne Nat D env.locals by omega) g) (All2.keep (L _) (fun q o hq e => hb q o (show @Ne Nat q C by omega) (show @Ne Nat q env.locals by omega) e) a) sz
end
end Mine
/-! part R5 -/
namespace Mine
open PySem PySem.W PyProof.Rows PySem.Calls PySem.Spec
section
variable {prog : Program} {w : World} {A : Around} {E : Value → Shared → Prop} {R : Result → Shared → Prop} {s : Shared} {α : Type}
def StepM (s : Shared) (C : Nat) (h : Heap) (M : (Str → Option Value) → Prop) (G : Heap → Prop) (s' : Shared) : Prop := ∃ h' tk m, s' = {s with heap := h', toks := tk} ∧ KptBut C h h' ∧ h'.Ns C m ∧ M m ∧ G h'

def Inner (prog : Program) (w : World) (A : Around) (s : Shared) (env : Env) (Elt : Nat → Heap → Value → α → Prop) (elt target : Expr) (ifs : List Expr) (C : Nat) (h : Heap) (k : Nat) (fi : List α) (it : Value) (s₆ : Shared) : Prop :=
  ∃ (I : Nat) (fp : List Addr) (n : Nat) (P : Nat → Value → Prop) (St : Nat → Heap → Prop) (f : Nat → List α) (h₆ : Heap) (t₆ : Nat) (m₆ : Str → Option Value) (M : (Str → Option Value) → Prop),
    s₆ = {s with heap := h₆, toks := t₆} ∧ it = .ref I ∧ Walks prog w A I fp [I] n P St ∧ St 0 h₆ ∧ (∀ b ∈ fp, b ≠ C ∧ b + 1 ≠ C) ∧ KptBut C h h₆ ∧ h₆.Ns C m₆ ∧ M m₆ ∧ C < I ∧ (∀ i h, St i h → ∃ o, h.get? I = some o ∧ ¬ SeqO o) ∧ n ≤ k ∧ fi = (List.range n).flatMap f ∧
    (∀ i v h, P i v → St (i + 1) h → ∀ (s' : Shared) (Q : Unit → Shared → Prop), s'.heap = h → Q () s' → wpAny (model prog w) A (letOwnedTupleGo target (.ref I) v) Q NoE s') ∧
    (∀ i v h tk m, i < n → P i v → Kpt s.heap h → h.Ns C m → M m →
      wpAny (model prog w) A (assign target env v) (fun _ s₃ => wpAny (model prog w) A (testsOf ifs env) (fun ok s₄ =>
        if ok = true then wpAny (model prog w) A (eval elt env) (fun x s₅ => StepM s C h M (fun h' => ∃ y, f i = [y] ∧ Elt (C + 1) h' x y) s₅) NoE s₄
        else StepM s C h M (fun _ => f i = []) s₄) NoE s₃) NoE {s with heap := h, toks := tk})

def Two (prog : Program) (w : World) (A : Around) (s : Shared) (env : Env) (Elt : Nat → Heap → Value → α → Prop) (elt target : Expr) (ifs : List Expr) (t1 i1 : Expr) (f1 : List Expr) (scope : Scope) (cl : List (Str × Addr)) (Fin : Nat → Heap → Prop) (Qf : Nat → Shared → Prop) (it : Value) (s₂ : Shared) : Prop :=
  ∃ (I : Nat) (fp : List Addr) (n k : Nat) (P : Nat → Value → Prop) (St : Nat → Heap → Prop) (f : Nat → List α) (h₂ : Heap) (t₂ : Nat), s₂ = {s with heap := h₂, toks := t₂} ∧ it = .ref I ∧ Walks prog w A I fp [I] n P St ∧ St 0 h₂ ∧ (∀ b ∈ fp, b < h₂.objs.size) ∧ Kpt s.heap h₂ ∧ s.heap.get? I = none ∧ I < h₂.objs.size ∧ n * k ≤ sizeLine ∧
    (∀ i v h, P i v → St (i + 1) h → ∀ (s' : Shared) (Q : Unit → Shared → Prop), s'.heap = h → Q () s' → wpAny (model prog w) A (letOwnedTupleGo target (.ref I) v) Q NoE s') ∧
    (∀ i v h tk (C : Nat) m, i < n → P i v → Kpt s.heap h → h.Ns C m → s.heap.get? C = none → (∀ D : Nat, D + 1 = C → s.heap.get? D = none) →
      wpAny (model prog w) A (assign target (compEnvC scope cl C env) v) (fun _ s₃ => wpAny (model prog w) A (testsOf ifs (compEnvC scope cl C env)) (fun ok s₄ =>
        if ok = true then wpAny (model prog w) A (eval i1 (compEnvC scope cl C env)) (fun xv s₅ => wpAny (model prog w) A (pyIter xv) (Inner prog w A s (compEnvC scope cl C env) Elt elt t1 f1 C h k (f i)) NoE s₅) NoE s₄
        else Step s C h (fun _ => f i = []) s₄) NoE s₃) NoE {s with heap := h, toks := tk}) ∧
    ∀ (D : Nat) ys h' tk, Fin D h' → h'.get? D = some (LCg.lst ys) → All2 (Elt (D + 2) h') ys ((List.range n).flatMap f) → s.heap.get? D = none → Qf D {s with heap := h', toks := tk}

theorem two_loop {Elt : Nat → Heap → Value → α → Prop} (L : ∀ lo, Late (Elt lo) lo) {elt target iter t1 i1 : Expr} {ifs f1 : List Expr} {scope : Scope} {pos : Pos} {env : Env} {cl : List (Str × Addr)} {h₂ : Heap} {I : Nat} {fp : List Addr} {n k : Nat} {P : Nat → Value → Prop} {St : Nat → Heap → Prop} {f : Nat → List α} {D C : Nat} {h₄ : Heap} {tk₄ : Nat}
    (W : Walks prog w A I fp [I] n P St) (hk2 : Kpt s.heap h₂) (hI0 : s.heap.get? I = none) (hI : I < h₂.objs.size) (hfp : ∀ b ∈ fp, b < h₂.objs.size) (hn : n * k ≤ sizeLine)
    (hs1 : ∀ x, foldedSetIterable i1 (compEnvC scope cl C env) x = pure x)
    (ht : ∀ i v h, P i v → St (i + 1) h → ∀ (s' : Shared) (Q : Unit → Shared → Prop), s'.heap = h → Q () s' → wpAny (model prog w) A (letOwnedTupleGo target (.ref I) v) Q NoE s')
    (turn : ∀ i v h tk (C : Nat) m, i < n → P i v → Kpt s.heap h → h.Ns C m → s.heap.get? C = none → (∀ D : Nat, D + 1 = C → s.heap.get? D = none) →
      wpAny (model prog w) A (assign target (compEnvC scope cl C env) v) (fun _ s₃ => wpAny (model prog w) A (testsOf ifs (compEnvC scope cl C env)) (fun ok s₄ =>
        if ok = true then wpAny (model prog w) A (eval i1 (compEnvC scope cl C env)) (fun xv s₅ => wpAny (model prog w) A (pyIter xv) (Inner prog w A s (compEnvC scope cl C env) Elt elt t1 f1 C h k (f i)) NoE s₅) NoE s₄
        else Step s C h (fun _ => f i = []) s₄) NoE s₃) NoE {s with heap := h, toks := tk})
    (hD : D = h₂.objs.size) (hC : C = D + 1) (hk4 : Kpt h₂ h₄) (hacc : h₄.get? D = some (LCg.lst [])) (hns : h₄.Ns C (fun _ => none)) (hst : St 0 h₄)
    (fin : ∀ ys h' tk m, Kpt s.heap h' → h'.get? D = some (LCg.lst ys) → All2 (Elt (D + 2) h') ys ((List.range n).flatMap f) → h'.Ns C m → R (.ok .next) {s with heap := h', toks := tk}) :
    codeAny (model prog w) A (.compLoop (.ListComp elt [⟨target, iter, ifs, 0⟩, ⟨t1, i1, f1, 0⟩] scope pos) 0 (.ref I) (.ref D) (compEnvC scope cl C env)) R {s with heap := h₄, toks := tk₄} := by
  have hlt : ∀ (b : Nat) o, s.heap.get? b = some o → b < D := fun b o e => by have q : @LT.lt Nat _ b h₂.objs.size := Heap.lt_size (hk2 b o e); omega
  have hC0 : s.heap.get? C = none := by
    cases q : s.heap.get? C with
    | none => rfl
    | some o => have := hlt _ _ q; omega
  have hDC : D ≠ C := by omega
  have hD0 : ∀ D' : Nat, D' + 1 = C → s.heap.get? D' = none := fun D' q => by
    cases q2 : s.heap.get? D' with
    | none => rfl
    | some o => have := hlt _ _ q2; omega
  refine cl_outer W (fun i h => Kpt s.heap h ∧ ∃ m ys, h.Ns C m ∧ h.get? D = some (LCg.lst ys) ∧ All2 (Elt (D + 2) h) ys ((List.range i).flatMap f) ∧ ys.length ≤ i * k) ?_ hst ⟨fun b o e => hk4 b o (hk2 b o e), _, [], hns, hacc, .nil, Nat.zero_le _⟩ ht hs1 ?_ ?_
  · rintro i h h' - hb ⟨k, m, ys, a, b, c, d⟩
    refine ⟨fun q o e => hb q o (fun q' => by rw [q', hI0] at e; cases e) (k q o e), m, ys, Ns_but a (c := I) (show @Ne Nat C I by omega) (fun q o hq e => hb q o hq e), hb D _ (show @Ne Nat D I by omega) b, All2.keep (L _) (fun q o hq e => hb q o (show @Ne Nat q I by omega) e) c, d⟩
  · rintro i v h tk hi hP ⟨kp, m, ys, a, b, c, d⟩ hs
    have T := turn i v h tk C m hi hP kp a hC0 hD0
    have up : ∀ h', KptBut C h h' → Kpt s.heap h' := fun h' hb q o e => hb q o (fun q' => by rw [q', hC0] at e; cases e) (kp q o e)
    have ik : i * k + k ≤ n * k := by rw [← Nat.succ_mul]; exact Nat.mul_le_mul_right _ hi
    refine wpAny_mono T (fun _ s₃ h₃ => wpAny_mono h₃ (fun ok s₄ h₄ => ?_) fun _ _ e => e) fun _ _ e => e
    cases ok with
    | false =>
      simp only [Bool.false_eq_true, if_false] at h₄ ⊢
      obtain ⟨h', tk', m', rfl, kb, n', fe⟩ := h₄
      refine ⟨h', tk', rfl, ⟨up h' kb, m', ys, n', kb D _ hDC b, ?_, by rw [Nat.succ_mul]; omega⟩, W.frame _ _ _ hs fun q hq o e => kb q o (have q2 : @LT.lt Nat _ q h₂.objs.size := hfp q hq; show @Ne Nat q C by omega) e⟩
      rw [flat_succ, fe, List.append_nil]
      exact All2.keep (L _) (fun q o hq e => kb q o (show @Ne Nat q C by omega) e) c
    | true =>
      simp only [if_true] at h₄ ⊢
      refine wpAny_mono h₄ (fun xv s₅ h₅ => wpAny_mono h₅ (fun it s₆ h₆ => ?_) fun _ _ e => e) fun _ _ e => e
      obtain ⟨I', fp', n', P', St', f', h₆, t₆, m₆, M, rfl, rfl, W', hst', hfp', kb, n6, hM, hCI, hSq, hnk, fe, ht', turn'⟩ := h₆
      have hCI' : @LT.lt Nat _ C I' := hCI
      refine cs_inner W' hst' ?_
      refine cl_inner W' (fun j h' => Kpt s.heap h' ∧ St (i + 1) h' ∧ ∃ m ys, h'.Ns C m ∧ M m ∧ h'.get? D = some (LCg.lst ys) ∧ All2 (Elt (D + 2) h') ys ((List.range i).flatMap f ++ (List.range j).flatMap f') ∧ ys.length ≤ i * k + j) ?_ hst' ⟨up _ kb, W.frame _ _ _ hs fun q hq o e => kb q o (have q2 : @LT.lt Nat _ q h₂.objs.size := hfp q hq; show @Ne Nat q C by omega) e, m₆, ys, n6, hM, kb D _ hDC b, ?_, by omega⟩ ht' ?_ ?_
      · rintro j h h' hsj hb ⟨kq, sq, m, ys, a, hm, b, c, d⟩
        refine ⟨fun q o e => hb q o (have q2 := hlt q o e; show @Ne Nat q I' by omega) (kq q o e), W.frame _ _ _ sq fun q hq o e => hb q o (have q2 : @LT.lt Nat _ q h₂.objs.size := hfp q hq; show @Ne Nat q I' by omega) e, m, ys, Ns_but a (c := I') (show @Ne Nat C I' by omega) (fun q o hq e => hb q o hq e), hm, hb D _ (show @Ne Nat D I' by omega) b, ?_, d⟩
        obtain ⟨oi, hoi, hni⟩ := hSq _ _ hsj
        exact All2.keepS (L _) (fun q o hq so e => hb q o (fun q' => by rw [q', hoi] at e; cases e; exact hni so) e) c
      · simp only [List.range_zero, List.flatMap_nil, List.append_nil]
        exact All2.keep (L _) (fun q o hq e => kb q o (show @Ne Nat q C by omega) e) c
      · rintro j v' h' tk' hj hP' ⟨kq, sq, m, ys, a, hm, b, c, d⟩ hsj
        refine wpAny_mono (turn' j v' h' tk' m hj hP' kq a hm) (fun _ s₃ h₃ => wpAny_mono h₃ (fun ok s₄ h₄ => ?_) fun _ _ e => e) fun _ _ e => e
        have up' : ∀ h₁, KptBut C h' h₁ → Kpt s.heap h₁ := fun h₁ hb q o e => hb q o (fun q' => by rw [q', hC0] at e; cases e) (kq q o e)
        cases ok with
        | false =>
          simp only [Bool.false_eq_true, if_false] at h₄ ⊢
          obtain ⟨h₁, tk₁, m₁, rfl, kb₁, n₁, hm₁, fe₁⟩ := h₄
          refine ⟨h₁, tk₁, rfl, ⟨up' h₁ kb₁, W.frame _ _ _ sq fun q hq o e => kb₁ q o (have q2 : @LT.lt Nat _ q h₂.objs.size := hfp q hq; show @Ne Nat q C by omega) e, m₁, ys, n₁, hm₁, kb₁ D _ hDC b, ?_, by omega⟩, W'.frame _ _ _ hsj fun q hq o e => kb₁ q o (hfp' q hq).1 e⟩
          rw [flat_succ, fe₁, List.append_nil]
          exact All2.keep (L _) (fun q o hq e => kb₁ q o (show @Ne Nat q C by omega) e) c
        | true =>
          simp only [if_true] at h₄ ⊢
          refine wpAny_mono h₄ (fun x s₅ h₅ => ?_) fun _ _ e => e
          obtain ⟨h₁, tk₁, m₁, rfl, kb₁, n₁, hm₁, y, fe₁, el⟩ := h₅
          refine append_at (s := {s with heap := h₁, toks := tk₁}) (kb₁ D _ hDC b) (fun h'' sb g => ?_) (by rw [List.size_toArray]; omega)
          have hb : KptBut D h₁ h'' := fun q o hq e => sb.extBut q o hq e
          refine ⟨h'', tk₁, rfl, ⟨fun q o e => hb q o (fun q' => by have := hlt _ _ e; omega) (up' h₁ kb₁ q o e), W.frame _ _ _ sq fun q hq o e => have q2 : @LT.lt Nat _ q h₂.objs.size := hfp q hq; hb q o (show @Ne Nat q D by omega) (kb₁ q o (show @Ne Nat q C by omega) e), m₁, ys ++ [x], Ns_but n₁ (Ne.symm hDC) hb, hm₁, by rw [g]; exact congrArg some (LCg.lst_snoc ys x), ?_, by rw [List.length_append, List.length_singleton]; omega⟩, W'.frame _ _ _ hsj fun q hq o e => hb q o (have q2 : @Ne Nat (q + 1) C := (hfp' q hq).2; show @Ne Nat q D by omega) (kb₁ q o (hfp' q hq).1 e)⟩
          rw [flat_succ, fe₁, ← List.append_assoc]
          refine All2.append (All2.keep (L _) (fun q o hq e => hb q o (by omega) (kb₁ q o (by omega) e)) c) (.cons ?_ .nil)
          have : C + 1 = D + 2 := by omega
          rw [this] at el
          exact (L _).all (fun q o hq e => hb q o (by omega) e) el
      · rintro h' tk' ⟨kq, sq, m, ys, a, hm, b, c, d⟩
        refine ⟨h', tk', rfl, ⟨kq, m, ys, a, b, ?_, by rw [Nat.succ_mul]; omega⟩, sq⟩
        rw [flat_succ, fe]
        exact c
  · rintro h tk ⟨k, m, ys, a, b, c, d⟩
    exact fin ys h tk m k b c a

theorem comp2 {Elt : Nat → Heap → Value → α → Prop} (L : ∀ lo, Late (Elt lo) lo) {elt target iter t1 i1 : Expr} {ifs f1 : List Expr} {scope : Scope} {pos : Pos} {env : Env} {cl : List (Str × Addr)} {Q : Value → Shared → Prop}
    (hclos : closureFor scope env = pure cl) (hcell : ∀ y ∈ scope.names, y.2 ≠ .cell) (hkind : scope.kind = .function) (hnames : ∀ y ∈ scope.names, y.2 = .local → scope.names.lookup y.1 = some .local)
    (hs : ∀ x, foldedSetIterable iter env x = pure x) (hs1 : ∀ C x, foldedSetIterable i1 (compEnvC scope cl C env) x = pure x)
    (h : wpAny (model prog w) A (eval iter env) (fun xv s₁ => wpAny (model prog w) A (pyIter xv) (Two prog w A s env Elt elt target ifs t1 i1 f1 scope cl (fun _ h' => Kpt s.heap h') (fun D s' => Q (.ref D) s')) E s₁) E s) :
    wpAny (model prog w) A (eval (.ListComp elt [⟨target, iter, ifs, 0⟩, ⟨t1, i1, f1, 0⟩] scope pos) env) Q E s := by
  refine comp_in hclos hcell hkind hnames hs (wpAny_mono h (fun xv s₁ h₁ => wpAny_mono h₁ (fun it s₂ h₂ => ?_) fun _ _ e => e) fun _ _ e => e)
  obtain ⟨I, fp, n, k, P, St, f, h₂, t₂, rfl, rfl, W, hst, hfp, hk2, hI0, hI, hn, ht, turn, fin⟩ := h₂
  refine ⟨I, fp, n, P, St, rfl, W, hst, hfp, fun D C h₄ tk₄ hD hC hk4 hacc hns hst4 => ?_⟩
  have ltD : ∀ (b : Nat) o, s.heap.get? b = some o → b < D := fun b o e => by have q : @LT.lt Nat _ b h₂.objs.size := Heap.lt_size (hk2 b o e); have hD' : @Eq Nat D h₂.objs.size := hD; omega
  have sz : s.heap.get? D = none := by
    cases q : s.heap.get? D with
    | none => rfl
    | some o => exact absurd (ltD _ _ q) (Nat.lt_irrefl _)
  have h1 : @Eq Nat C (D + 1) := hC
  refine two_loop (s := s) L W hk2 hI0 hI hfp hn (hs1 C) ht turn hD hC hk4 hacc hns hst4 fun ys h' tk m k g a nm => ⟨m, nm, fun h'' sb => ?_⟩
  have hb : KptBut C h' h'' := fun q o hq e => sb.extBut q o hq e
  refine fin D ys h'' tk (fun q o e => hb q o (fun q' => ?_) (k q o e)) (hb D _ (show @Ne Nat D C by omega) g) (All2.keep (L _) (fun q o hq e => hb q o (show @Ne Nat q C by omega) e) a) sz
  have : @LT.lt Nat _ q D := ltD _ _ e
  omega
end
end Mine
/-! part R6 -/
namespace Mine
open PySem PySem.W PyProof.Rows PySem.Calls PySem.Spec
section
variable {M : Model} {A : Around} {E : Value → Shared → Prop} {s : Shared} {scope : Scope} {cl : List (Str × Addr)} {C : Addr} {env : Env} {x : Str} {pos : Pos} {v : Value} {m : Str → Option Value} {c : Addr} {Q : Value → Shared → Prop}
theorem relabel_cell {env : Env} {x : Str} (hf : env.scope.kind = .function) (he : env.kindOf x = some .cell) : ∀ {names : List (Str × NameKind)}, names.lookup x = some .free →
    (names.map fun (n, k) => if (k == NameKind.free && env.scope.kind == .function && env.kindOf n == some .cell) then (n, NameKind.cell) else (n, k)).lookup x = some .cell
  | [], h => by simp at h
  | (n, k) :: r, h => by
    have ih := @relabel_cell env x hf he r
    show List.lookup x ((if (k == NameKind.free && env.scope.kind == .function && env.kindOf n == some .cell) = true then (n, NameKind.cell) else (n, k)) :: _) = _
    cases hx : x == n with
    | true =>
      simp only [List.lookup_cons, hx] at h
      cases h
      have e := eq_of_beq hx
      subst e
      rw [if_pos (by rw [he, hf]; decide)]
      simp [List.lookup_cons]
    | false =>
      simp only [List.lookup_cons, hx] at h
      by_cases hc : (k == NameKind.free && env.scope.kind == .function && env.kindOf n == some .cell) = true
      · rw [if_pos hc]; simp only [List.lookup_cons, hx]; exact ih h
      · rw [if_neg hc]; simp only [List.lookup_cons, hx]; exact ih h
theorem cname_L (hn : s.heap.Ns C m) (hv : m x = some v) (h : Q v s) (hk : scope.kind = .function) (hx : scope.names.lookup x = some .local) (hd : (x == ("__debug__" : Str)) = false) :
    wpAny M A (eval (.Name x pos) (compEnvC scope cl C env)) Q E s := wpAny_Name (wpAny_loadName_local hk (lookup_relabel_local hx) hn hv h) hd
theorem cname_C (hc : cl.lookup x = some c) (hv : s.heap.IsCell c (some v)) (h : Q v s) (hk : scope.kind = .function) (hf : env.scope.kind = .function) (hx : scope.names.lookup x = some .free) (he : env.kindOf x = some .cell) (hd : (x == ("__debug__" : Str)) = false) :
    wpAny M A (eval (.Name x pos) (compEnvC scope cl C env)) Q E s := wpAny_Name (wpAny_loadName_cell hk (relabel_cell hf he hx) hc hv h) hd
theorem cname_F' (hc : cl.lookup x = some c) (hv : s.heap.IsCell c (some v)) (h : Q v s) (hk : scope.kind = .function) (hx : (compEnvC scope cl C env).kindOf x = some .free) (hd : (x == ("__debug__" : Str)) = false) (hn : (x == ("__classdict__" : Str)) = false) :
    wpAny M A (eval (.Name x pos) (compEnvC scope cl C env)) Q E s := wpAny_Name (wpAny_loadName_free hk hx hc hv h hn) hd
theorem fname_L {cn : Str} {cs : Scope} {L a : Addr} {ccd : Value} {cl : List (Str × Addr)} {h₀ : Heap} (F : Fr h₀ L s.heap m) (hv : m x = some v) (h : Q v s)
    (hk : cs.kind = .function) (hx : (envX cn cs L a ccd cl).kindOf x = some .local) (hd : (x == ("__debug__" : Str)) = false) :
    wpAny M A (eval (.Name x pos) (envX cn cs L a ccd cl)) Q E s := nameX_L F hv h hk hx hd
theorem fnameC_L {cn : Str} {cs : Scope} {L a : Addr} {ccd : Value} {h₀ : Heap} (F : Fr h₀ L s.heap m) (hv : m x = some v) (h : Q v s)
    (hk : cs.kind = .function) (hx : (envOfC cn cs L a ccd).kindOf x = some .local) (hd : (x == ("__debug__" : Str)) = false) :
    wpAny M A (eval (.Name x pos) (envOfC cn cs L a ccd)) Q E s := nameX_L F hv h hk hx hd
theorem tests_nil {Q : Bool → Shared → Prop} (h : Q true s) : wpAny M A (testsOf [] env) Q E s := by
  unfold testsOf
  rw [List.forIn_nil]
  exact wpAny_pure h
theorem tests_one {c : Expr} {Q : Bool → Shared → Prop} (h : wpAny M A (isTrue c env (eval c env)) Q E s) : wpAny M A (testsOf [c] env) Q E s := by
  unfold testsOf
  rw [List.forIn_cons]
  simp only [if_true]
  refine wpAny_bind (wpAny_bind (wpAny_mono h (fun ok s' h' => wpAny_pure ?_) fun _ _ e => e))
  show wpAny M A (forIn [] ok _) _ _ _
  rw [List.forIn_nil]
  exact wpAny_pure h'
theorem fnameC_C {cn : Str} {cs : Scope} {L a : Addr} {ccd : Value} (hc : (cellsFrom (L + 1) cs.names []).lookup x = some c) (hv : s.heap.IsCell c (some v)) (h : Q v s)
    (hk : cs.kind = .function) (hx : (envOfC cn cs L a ccd).kindOf x = some .cell) (hd : (x == ("__debug__" : Str)) = false) :
    wpAny M A (eval (.Name x pos) (envOfC cn cs L a ccd)) Q E s := wpAny_Name (wpAny_loadName_cell hk hx hc hv h) hd
end
end Mine
/-! part R7 -/
namespace Mine
open PySem PySem.W PyProof.Rows PySem.Calls PySem.Spec
theorem range_lim : ∀ {n : Nat}, n ≤ 4 → Builtin.Range.small 1 ((n : Int) + 1) 1 = true ∧ Builtin.Range.rangeSize 1 ((n : Int) + 1) 1 = n
  | 0, _ => by decide
  | 1, _ => by decide
  | 2, _ => by decide
  | 3, _ => by decide
  | 4, _ => by decide
  | n + 5, h => by omega
theorem range_st0 {h : Heap} {a : Int} {n : Nat} {k : Int} (hk : k = n) :
    IsRangeIter (h.push { cls := .type "range_iterator", data := .fields #[rawInt a, rawInt k, rawInt 1] }) h.objs.size (a + ((0 : Nat) : Int) * 1) ((n : Int) - ((0 : Nat) : Int)) 1 := by
  subst hk
  have e : (a + ((0 : Nat) : Int) * 1) = a := by omega
  have e2 : ((n : Int) - ((0 : Nat) : Int)) = n := by omega
  rw [e, e2]
  exact Heap.get?_push_size _ rfl
theorem range_notSeq {h : Heap} {I : Addr} {a b c : Int} (x : IsRangeIter h I a b c) : ∃ o, h.get? I = some o ∧ ¬ SeqO o := ⟨_, x, fun ⟨_, _, e⟩ => by cases e⟩
theorem list_notSeq {h : Heap} {I l : Addr} {k : Nat} (x : h.IsListIter I l k) : ∃ o, h.get? I = some o ∧ ¬ SeqO o := by
  obtain ⟨o, ho, _, hd⟩ := x
  exact ⟨o, ho, fun ⟨_, _, e⟩ => by rw [hd] at e; cases e⟩
section
variable {prog : Program} {w : World} {A : Around} {E : Value → Shared → Prop} {s : Shared}
theorem tup_reads {h : Heap} {v : Value} {p : Int × Int} (x : TupIs h v p) : Reads h v (.tuple [.int p.1, .int p.2]) [] := by
  obtain ⟨a, t, u, n, rfl, g⟩ := x
  exact reads_tuple_at g rfl rfl (readsAll_cons_val (.int _ _) (readsAll_cons_val (.int _ _) .nil))
theorem ne_tups {x y : Value} {p q : Int × Int} {Q : Value → Shared → Prop} (hx : TupIs s.heap x p) (hy : TupIs s.heap y q) (hu : A.units + 8 < cLine) (h : Q (.bool (decide (p ≠ q))) s) : wpAny (model prog w) A (compareOp .NotEq x y) Q E s := by
  refine SeqAt.compareNe_reads (tup_reads hx) (tup_reads hy) (by simp [PyData.canLay0, PyData.canLayAll0]) (by simp [PyData.canLay0, PyData.canLayAll0]) ?_ ?_
  · have : min (PyData.tuple [.int p.1, .int p.2]).depth (PyData.tuple [.int q.1, .int q.2]).depth ≤ 2 := Nat.le_trans (Nat.min_le_left _ _) (by simp [PyData.depth, PyData.depthAll])
    omega
  · have e : (!PyData.eqv (.tuple [.int p.1, .int p.2]) (.tuple [.int q.1, .int q.2])) = decide (p ≠ q) := by
      obtain ⟨a, b⟩ := p
      obtain ⟨c, d⟩ := q
      simp only [PyData.eqv, PyData.eqvAll, Bool.and_true]
      by_cases h1 : a = c <;> by_cases h2 : b = d <;> simp [h1, h2]
    rw [e]; exact h
theorem push_kpt (h : Heap) (o : Obj) : Kpt h (h.push o) := fun _ _ e => Heap.get?_push_of_some _ e
theorem range2_raw {a b : Int} {t u : Tok} {Q : Value → Shared → Prop}
    (h : ∀ h' (D : Nat) tk v, Kpt s.heap h' → s.heap.objs.size = D → h'.objs.size = D + 1 → IsRange h' D a b 1 t u v → Q (.ref D) {s with heap := h', toks := tk}) :
    wpAny (model prog w) A (call (.type "range") [.int a t, .int b u]) Q E s :=
  call_range_2 (h _ _ _ _ (push_kpt _ _) rfl (Heap.size_push ..) (IsRange.new _ _ _ _ _ _ _))
theorem range1_raw {b : Int} {u : Tok} {Q : Value → Shared → Prop}
    (h : ∀ h' (D : Nat) tk t v, Kpt s.heap h' → s.heap.objs.size = D → h'.objs.size = D + 1 → IsRange h' D 0 b 1 t u v → Q (.ref D) {s with heap := h', toks := tk}) :
    wpAny (model prog w) A (call (.type "range") [.int b u]) Q E s :=
  call_range_1 (h _ _ _ _ _ (push_kpt _ _) rfl (Heap.size_push ..) (IsRange.new _ _ _ _ _ _ _))
theorem iter_range_raw {r : Addr} {a b : Int} {t u v : Tok} {n : Nat} {Q : Value → Shared → Prop} (hr : IsRange s.heap r a b 1 t u v) (hs : Builtin.Range.small a b 1 = true) (hn : Builtin.Range.rangeSize a b 1 = n)
    (h : ∀ h' (I : Nat), Kpt s.heap h' → s.heap.objs.size = I → h'.objs.size = I + 1 → IsRangeIter h' I (a + ((0 : Nat) : Int) * 1) ((n : Int) - ((0 : Nat) : Int)) 1 → Q (.ref I) {s with heap := h'}) :
    wpAny (model prog w) A (pyIter (.ref r)) Q E s :=
  wpAny_pyIter_range hr hs (h _ _ (push_kpt _ _) rfl (Heap.size_push ..) (range_st0 hn))
theorem iter_list_raw {l : Addr} {items : Array Value} {Q : Value → Shared → Prop} (hl : s.heap.IsList l items)
    (h : ∀ h' (I : Nat), Kpt s.heap h' → s.heap.objs.size = I → h'.objs.size = I + 1 → h'.IsListIter I l 0 → Q (.ref I) {s with heap := h'}) :
    wpAny (model prog w) A (pyIter (.ref l)) Q E s :=
  wpAny_pyIter_list hl (h _ _ (push_kpt _ _) rfl (Heap.size_push ..) ⟨_, Heap.get?_push_size _ rfl, rfl, rfl⟩)
theorem tuple_raw {items : List Value} {Q : Value → Shared → Prop} (hz : items.length ≤ sizeLine)
    (h : ∀ h' (D : Nat), Kpt s.heap h' → s.heap.objs.size = D → h'.objs.size = D + 1 → h'.get? D = some { cls := .type "tuple", data := .seq items.toArray } → Q (.ref D) {s with heap := h'}) :
    wpAny (model prog w) A (newTuple items) Q E s :=
  wpAny_newTuple (h _ _ (push_kpt _ _) rfl (Heap.size_push ..) (Heap.get?_push_size _ rfl)) hz
theorem range0 {n : Nat} (h : n ≤ 100000) : Builtin.Range.small 0 (n : Int) 1 = true ∧ Builtin.Range.rangeSize 0 (n : Int) 1 = n :=
  ⟨small_one (by omega) (by omega) (by omega) (by omega), by rw [rangeSize_one]; split <;> omega⟩
theorem All2.perm {α : Type} {R : Value → α → Prop} : ∀ {out ys : List Value}, out.Perm ys → ∀ {xs : List α}, All2 R ys xs → ∃ qs, All2 R out qs ∧ qs.Perm xs := by
  intro out ys hp
  induction hp with
  | nil => intro xs h; exact ⟨xs, h, .refl _⟩
  | cons v p ih =>
    intro xs h
    cases h with
    | cons a r => obtain ⟨qs, h1, h2⟩ := ih r; exact ⟨_ :: qs, .cons a h1, h2.cons _⟩
  | swap v u l =>
    intro xs h
    cases h with
    | cons a r => cases r with
      | cons b r => exact ⟨_, .cons b (.cons a r), .swap ..⟩
  | trans p q ih1 ih2 =>
    intro xs h
    obtain ⟨q1, a1, b1⟩ := ih2 h
    obtain ⟨q2, a2, b2⟩ := ih1 a1
    exact ⟨q2, a2, b2.trans b1⟩
theorem All2.mono {α : Type} {R R' : Value → α → Prop} (hr : ∀ v x, R v x → R' v x) : ∀ {ys : List Value} {xs : List α}, All2 R ys xs → All2 R' ys xs
  | _, _, .nil => .nil
  | _, _, .cons a r => .cons (hr _ _ a) (All2.mono hr r)
theorem All2.at {α : Type} {R : Value → α → Prop} (d : α) : ∀ {ys : List Value} {xs : List α}, All2 R ys xs → ∀ (i : Nat) (v : Value), ys[i]? = some v → R v (xs.getD i d) ∧ i < xs.length
  | _, _, .cons a r, 0, v, e => by simp at e; subst e; exact ⟨by simpa using a, by simp⟩
  | _, _, .cons a r, i + 1, v, e => by
    obtain ⟨h1, h2⟩ := All2.at d r i v (by simpa using e)
    exact ⟨by simpa using h1, by simp; omega⟩
/-- one copy of each run of equals -/
def dedF (out : List Value) (qs : List (Int × Int)) (i : Nat) : List (Value × (Int × Int)) :=
  if i = 0 ∨ qs.getD (i - 1) (0, 0) ≠ qs.getD i (0, 0) then [(out.getD i .none, qs.getD i (0, 0))] else []
theorem dedF_len (out : List Value) (qs : List (Int × Int)) (i : Nat) : (dedF out qs i).length ≤ 1 := by unfold dedF; split <;> simp
theorem dedF_mem {out : List Value} {qs : List (Int × Int)} (p : Int × Int) : p ∈ ((List.range qs.length).flatMap (dedF out qs)).map (·.2) ↔ p ∈ qs := by
  simp only [List.mem_map, List.mem_flatMap, List.mem_range]
  constructor
  · rintro ⟨⟨v, q⟩, ⟨i, hi, hm⟩, rfl⟩
    unfold dedF at hm
    split at hm
    · rw [List.mem_singleton] at hm
      cases hm
      show qs.getD i (0, 0) ∈ qs
      rw [List.getD_eq_getElem?_getD, List.getElem?_eq_getElem hi]
      exact List.getElem_mem hi
    · cases hm
  · intro hp
    obtain ⟨i, hi, e⟩ := List.getElem_of_mem hp
    have key : ∀ i, i < qs.length → qs.getD i (0, 0) = p → ∃ a, (∃ j, j < qs.length ∧ a ∈ dedF out qs j) ∧ a.2 = p := by
      intro i
      induction i with
      | zero => intro hi e; exact ⟨_, ⟨0, hi, by unfold dedF; rw [if_pos (.inl rfl)]; exact .head _⟩, e⟩
      | succ i ih =>
        intro hi e
        by_cases h : qs.getD i (0, 0) = qs.getD (i + 1) (0, 0)
        · exact ih (by omega) (h.trans e)
        · exact ⟨_, ⟨i + 1, hi, by unfold dedF; rw [if_pos (.inr h)]; exact .head _⟩, e⟩
    exact key i hi (by rw [List.getD_eq_getElem?_getD, List.getElem?_eq_getElem hi]; exact e)
theorem All2.eq {xs : List (Value × (Int × Int))} : ∀ {ys : List Value}, All2 (fun v x => v = x.1) ys xs → ys = xs.map (·.1) := by
  intro ys h
  induction h with
  | nil => rfl
  | cons a r ih => rw [List.map_cons, ← ih, a]
theorem All2.of_all {R : Value → (Int × Int) → Prop} : ∀ {xs : List (Value × (Int × Int))}, (∀ x ∈ xs, R x.1 x.2) → All2 R (xs.map (·.1)) (xs.map (·.2))
  | [], _ => .nil
  | x :: r, h => .cons (h x (.head _)) (All2.of_all fun y hy => h y (.tail _ hy))
theorem flat_one {α β : Type} (F : α → β) : ∀ (ps : List α), ps.flatMap (fun p => [F p]) = ps.map F
  | [] => rfl
  | p :: r => by rw [List.flatMap_cons, flat_one F r]; rfl
theorem flat_getD {α β : Type} (d : α) (F : α → List β) : ∀ (ps : List α), (List.range ps.length).flatMap (fun i => F (ps.getD i d)) = ps.flatMap F := by
  intro ps
  induction ps with
  | nil => rfl
  | cons p r ih =>
    rw [List.length_cons, List.range_succ_eq_map, List.flatMap_cons, List.flatMap_cons, List.flatMap_map]
    congr 1
end
end Mine
/-! part B1 -/
namespace Mine
open PySem PySem.W PyProof.Rows PySem.Calls PySem.Spec
theorem filled7 (w : World) (h₀ : Heap) : (hd.heap_39 w.params).In h₀ → PySem.Challenge.rw_ec5003_01 = PySem.Challenge.rw_ec5003_01 := by
  k_fill
  intro _; rfl
local macro_rules | `(tactic| walk_at "exec While Compare cons nil") => `(tactic| (refine stop_in ?_))
local macro_rules | `(tactic| walk_at "call ref") => `(tactic| (refine stop_in ?_))
local macro_rules | `(tactic| walk_at "exec For Name Name cons nil") => `(tactic| (refine stop_in ?_))
local macro_rules | `(tactic| walk_at "pyIter ref") => `(tactic| (refine stop_in ?_))
local macro_rules | `(tactic| walk_at "eval ListComp") => `(tactic| (refine stop_in ?_))
local macro_rules | `(tactic| walk_at "exec Assign cons ListComp") => `(tactic| (refine stop_in ?_))
local macro_rules | `(tactic| walk_at "call builtin:sorted") => `(tactic| (refine stop_in ?_))
local macro_rules | `(tactic| walk_at "call type:range") => `(tactic| (refine stop_in ?_))
local macro_rules | `(tactic| walk_at "subscriptTail Name Constant ref int") => `(tactic| (refine stop_in ?_))
local macro_rules | `(tactic| walk_at "subscriptTail Name BinOp ref int") => `(tactic| (refine stop_in ?_))
local macro_rules | `(tactic| walk_at "subscriptTail Name Name ref int") => `(tactic| (refine stop_in ?_))
local macro_rules | `(tactic| walk_at "compareOp NotEq ref ref") => `(tactic| (refine stop_in ?_))
local macro_rules | `(tactic| walk_at "call builtin:len") => `(tactic| (refine stop_in ?_))
local macro_rules | `(tactic| walk_at "call builtin:min") => `(tactic| (refine stop_in ?_))
local macro_rules | `(tactic| walk_at "eval Name") => `(tactic| ((with_reducible refine' fnameC_C ?hc ?hv ?_ ?hk ?hx ?hd); (case hk => k_dflt rfl); (case hx => k_dflt rfl); (case hd => k_dflt decide); (case hc => k_dflt rfl); (case hv => k_dflt assumption)))
def InTurn : Prop := True
local macro_rules | `(tactic| walk_at "storeName") => `(tactic| ((rename InTurn => hMk); refine stop_in ?_))
local macro_rules | `(tactic| walk_at "newTuple") => `(tactic| ((rename InTurn => hMk); refine stop_in ?_))
local macro_rules | `(tactic| walk_at "eval Name") => `(tactic| ((with_reducible refine' fnameC_L ?kF ?hv ?_ ?hk ?hx ?hd); (case hk => k_dflt rfl); (case hx => k_dflt rfl); (case hd => k_dflt decide); (case kF => with_reducible assumption); (case hv => first | k_dflt exact rfl | with_reducible assumption | (k_dflt (simp (decide := true) only [↓reduceIte]); with_reducible assumption))))
local macro_rules | `(tactic| walk_at "eval Name") => `(tactic| ((with_reducible refine' cname_C ?hc ?hv ?_ ?hk ?hf ?hx ?he ?hd); (case hk => k_dflt rfl); (case hf => k_dflt rfl); (case hx => k_dflt rfl); (case he => k_dflt rfl); (case hd => k_dflt decide); (case hc => k_dflt rfl); (case hv => k_dflt assumption)))
local macro_rules | `(tactic| walk_at "eval Name") => `(tactic| ((with_reducible refine' cname_L ?hn ?hv ?_ ?hk ?hx ?hd); (case hk => k_dflt rfl); (case hx => k_dflt rfl); (case hd => k_dflt decide); (case hn => with_reducible assumption); (case hv => first | k_dflt exact rfl | with_reducible assumption | (k_dflt (simp (decide := true) only [↓reduceIte]); with_reducible assumption))))


def stepS (lim : Nat) (S : Int × Int → Prop) (w : Int) (q : Int × Int) : Prop := ∃ p, S p ∧ ∃ j, j < lim ∧ (2 : Int) ^ ((lim : Int) - (1 + (j : Int))).toNat ≤ p.2 ∧ q = (p.1 + w * (1 + (j : Int)), p.2 - 2 ^ ((lim : Int) - (1 + (j : Int))).toNat)
def SS (lim : Nat) (ws : List Int) : Int × Int → Prop := ws.foldl (stepS lim) (fun q => q = (0, 2 ^ lim))
structure Best (g : Heap) (L' : Nat) (lim : Nat) (u : Tok) (ws : List Int) (i : Nat) (h : Heap) : Prop where
  st : ∃ (D : Nat) (n : Nat) (vs : List Value) (ps : List (Int × Int)) (mL : Str → Option Value), Fr g L' h mL ∧ mL (Str.ofString "states") = some (.ref D) ∧ h.get? D = some (listOf vs.toArray n) ∧ All2 (TupIs h) vs ps ∧ (∀ p, p ∈ ps ↔ SS lim (ws.take i) p) ∧ ps.length ≤ 4 ^ i
  c1 : h.IsCell (L' + 1) (some (.int lim u))
  c2 : ∃ v, h.IsCell (L' + 2) v
  c3 : ∃ v, h.IsCell (L' + 3) v
theorem Best.but {g h h' : Heap} {L' lim : Nat} {u : Tok} {ws : List Int} {i : Nat} (x : Best g L' lim u ws i h) {I ax : Nat} {k : Nat} (hi : h.IsListIter I ax k) (hb : KptBut I h h') (h0 : g.get? I = none) (h1 : L' + 3 < I) : Best g L' lim u ws i h' := by
  obtain ⟨⟨D, n, vs, ps, mL, F, e, d, a, mm, l⟩, c1, ⟨v2, c2⟩, ⟨v3, c3⟩⟩ := x
  obtain ⟨oi, hoi, -, hdi⟩ := hi
  have nI : ∀ (b : Nat) o, h.get? b = some o → SeqO o → b ≠ I := fun b o e so q => by
    rw [q, hoi] at e; cases e
    obtain ⟨x, n, so⟩ := so
    rw [hdi] at so; cases so
  refine ⟨⟨D, n, vs, ps, mL, Fr_but F hb (show @Ne Nat I L' by omega) h0, e, hb D _ (nI D _ d ⟨_, _, rfl⟩) d, a.mono fun v p t => ?_, mm, l⟩, ?_, ⟨v2, ?_⟩, ⟨v3, ?_⟩⟩
  · obtain ⟨b, t, u, n, rfl, gb⟩ := t
    exact ⟨b, t, u, n, rfl, hb b _ (nI b _ gb ⟨_, _, rfl⟩) gb⟩
  · obtain ⟨o, e, d⟩ := c1; exact ⟨o, hb _ _ (by omega) e, d⟩
  · obtain ⟨o, e, d⟩ := c2; exact ⟨o, hb _ _ (by omega) e, d⟩
  · obtain ⟨o, e, d⟩ := c3; exact ⟨o, hb _ _ (by omega) e, d⟩
def EltT (lo : Nat) (h : Heap) (v : Value) (p : Int × Int) : Prop := ∃ (a : Nat) (t u : Tok) (n : Nat), v = .ref a ∧ lo ≤ a ∧ h.get? a = some (tupO p.1 t p.2 u n)
theorem EltT.late (lo : Nat) : Late (EltT lo) lo := fun h h' v x hk ⟨a, t, u, n, e, hl, g⟩ => ⟨a, t, u, n, e, hl, hk _ _ hl ⟨_, _, rfl⟩ g⟩
theorem EltT.is {lo : Nat} {h : Heap} {v : Value} {p : Int × Int} : EltT lo h v p → TupIs h v p := fun ⟨a, t, u, n, e, _, g⟩ => ⟨a, t, u, n, e, g⟩
/-- what the inner clause of the first comprehension makes of one state -/
def growJ (lim : Nat) (w : Int) (p : Int × Int) (j : Nat) : List (Int × Int) := if (2 : Int) ^ ((lim : Int) - (1 + (j : Int))).toNat ≤ p.2 then [(p.1 + w * (1 + (j : Int)), p.2 - 2 ^ ((lim : Int) - (1 + (j : Int))).toNat)] else []
def growF (lim : Nat) (w : Int) (ps : List (Int × Int)) (i : Nat) : List (Int × Int) := (List.range lim).flatMap (growJ lim w (ps.getD i (0, 0)))
theorem growJ_len (lim : Nat) (w : Int) (p : Int × Int) (j : Nat) : (growJ lim w p j).length ≤ 1 := by
  unfold growJ; split <;> simp
theorem growF_len {lim : Nat} (hl : lim ≤ 4) (w : Int) (ps : List (Int × Int)) (i : Nat) : (growF lim w ps i).length ≤ 4 := by
  have := flat_len (growJ lim w (ps.getD i (0, 0))) 1 (fun j => growJ_len _ _ _ j) lim
  unfold growF; omega
theorem All2.ints : ∀ {ys : List Value} {xs : List Int}, All2 (fun v x => ∃ t, v = .int x t) ys xs → IntsAre ys xs
  | _, _, .nil => .nil
  | _, _, .cons ⟨t, e⟩ r => e ▸ .cons _ t (All2.ints r)
theorem grow_mem {lim : Nat} {w : Int} {ps : List (Int × Int)} {S : Int × Int → Prop} (mm : ∀ p, p ∈ ps ↔ S p) {q : Int × Int} : q ∈ (List.range ps.length).flatMap (growF lim w ps) ↔ stepS lim S w q := by
  have e : (List.range ps.length).flatMap (growF lim w ps) = ps.flatMap (fun p => (List.range lim).flatMap (growJ lim w p)) := flat_getD (0, 0) (fun p => (List.range lim).flatMap (growJ lim w p)) ps
  rw [e]
  simp only [List.mem_flatMap, List.mem_range]
  constructor
  · rintro ⟨p, hp, j, hj, hq⟩
    unfold growJ at hq
    split at hq
    · exact ⟨p, (mm p).mp hp, j, hj, by assumption, List.mem_singleton.mp hq⟩
    · cases hq
  · rintro ⟨p, hp, j, hj, hc, rfl⟩
    exact ⟨p, (mm p).mpr hp, j, hj, by unfold growJ; rw [if_pos hc]; exact .head _⟩
theorem best_spec {w : World} {p : Program} {loose : List Str} {mean : ExcName → Option Value} {mg mb : Str → Option Value} {dp un : Nat} {gd : Option (List Code)} {cn : Str} {cs : Scope} {a : Addr} {ccd : Value} {cl : List (Str × Addr)} {outer : List Env} {A₀ : Around} {base h₀ : Heap} {L : Addr} {m : Str → Option Value} {s : Shared} {Q E : Value → Shared → Prop}
  {l : Addr} {its : Array Value} {n : Nat} {ws : List Int} {lim : Nat} {u : Tok}
  (B : Below A₀ base outer h₀) (F : Fr h₀ L s.heap m) (X : (hd.heap_39 w.params).In h₀) (T : Top p loose mean mg mb h₀) (hk : cs.kind = .function)
  (hl : s.heap.get? l = some (listOf its n)) (hi : IntsAre its.toList ws)
  (hz : ws.length ≤ 5) (hlim : lim ≤ 4) (hdp : dp + 4 < recursionLimit) (hun : un + 32 < cLine) (hne : ∃ q, SS lim ws q)
  (hret : ∀ M t h' tk', Kp s.heap h' → (∃ q, SS lim ws q ∧ q.1 = M) → (∀ q, SS lim ws q → M ≤ q.1) → Q (.int M t) {s with heap := h', toks := tk'}) :
  wpAny (model PySem.Challenge.rw_ec5003_01.row.prog w) (ktrTop dp un gd cn cs L a ccd cl outer) (call (.ref 49) [.ref l, .int lim u]) Q E s := by
  refine wpAny_call ?_
  refine' enterC ?k1 ?k2 ?k3 ?k5 ?kA ?kF ?kK ?k6 ?k7 ?k8 ?k9 ?kB ?kN ?_ ?c2 ?c3 ?c4
  (case kA => exact rfl)
  (case kF => exact rfl)
  (case kK => exact hk)
  (case k1 => exact B)
  (case k2 => exact F)
  (case k3 => exact X)
  (case k5 => exact T)
  (case k6 => k_is)
  (case k7 => k_is)
  (case k8 => ktr_room)
  (case k9 => exact kp_binds (X.keeps F.keep) (fun _ => rfl))
  (case kB => exact kindsX rfl)
  (case kN => decide)
  (case c2 => exact rfl)
  (case c3 => exact rfl)
  (case c4 => exact rfl)
  k_whole
  intro g L' h₁ tk cells eg eL F' N' Y B' X' T'
  k_cells Y
  k_unmd
  dsimp only
  k_fold
  have hgk : Kp s.heap g := by rw [eg]; exact fun _ _ e => e
  have hg : g.IsList l its.toList.toArray := by rw [Array.toArray_toList]; exact ⟨_, hgk _ _ hl, rfl, _, rfl⟩
  k_unmd
  k_steps
  refine Stop.out ?_
  rename_i o3 o2 o1 d3 d2 d1 Dt h2 l2 Ds h3 l3 h4 F4 N4
  refine for_raw ?_
  k_unmd
  k_steps
  refine Stop.out ?_
  have hg4 : h4.IsList l its.toList.toArray := hg.at fun o e => F4.keep _ _ e
  refine wpAny_pyIter_list hg4 ?_
  generalize hI : h4.objs.size = I
  have ltI : ∀ (b : Nat) o, h4.get? b = some o → b < I := fun b o e => hI ▸ Heap.lt_size e
  have n1 := N4 _ (.head _)
  have n2 := N4 _ (.tail _ (.head _))
  have n3 := N4 _ (.tail _ (.tail _ (.head _)))
  have n4 := N4 _ (.tail _ (.tail _ (.tail _ (.head _))))
  have n5 := N4 _ (.tail _ (.tail _ (.tail _ (.tail _ (.head _)))))
  have kI : ∀ (b : Nat) o, b ≠ I → h4.get? b = some o → (h4.push { cls := .type "list_iterator", data := .fields #[.ref l, .int 0 0] }).get? b = some o := fun b o _ e => Heap.get?_push_of_some _ e
  have hgI : g.get? I = none := by
    cases q : g.get? I with
    | none => rfl
    | some o => exact absurd (ltI _ _ (F4.keep _ _ q)) (Nat.lt_irrefl _)
  have hlI : l ≠ I := by obtain ⟨o, e, _⟩ := hg4; exact Nat.ne_of_lt (ltI _ _ e)
  have e3 : L' + 3 < I := ltI _ _ n3.1
  have B0 : Best g L' lim u ws 0 h4 := by
    refine ⟨⟨Ds, 0, [.ref Dt], [(0, 2 ^ lim)], _, F4, rfl, n1.1, .cons ⟨Dt, _, _, _, rfl, n2.1⟩ .nil, fun p => ?_, by simp⟩, ⟨o1, n5.1, d1⟩, ⟨_, o2, n4.1, d2⟩, ⟨_, o3, n3.1, d3⟩⟩
    rw [List.take_zero, List.mem_singleton]; rfl
  refine ⟨I, [I, l], its.toList.toArray.size, _, _, Best g L' lim u ws, rfl, Walks.list (by rfl) I l hlI its.toList.toArray, ?st0, ?j0, ?stab, ?turn, ?fin⟩
  case st0 => exact ⟨⟨_, hI ▸ Heap.get?_push_size _ rfl, rfl, rfl⟩, hg4.at fun o e => kI _ _ hlI e⟩
  case j0 =>
    obtain ⟨⟨D, n, vs, ps, mL, F, e, d, a, mm, ll⟩, ⟨o1, c1, e1⟩, ⟨v2, o2, c2, e2⟩, ⟨v3, o3, c3, e3⟩⟩ := B0
    have k : Kpt h4 (h4.push { cls := .type "list_iterator", data := .fields #[.ref l, .int 0 0] }) := fun b o e => Heap.get?_push_of_some _ e
    exact ⟨⟨D, n, vs, ps, mL, F.keeps k, e, k _ _ d, a.mono fun v p t => t.keep k, mm, ll⟩, ⟨o1, k _ _ c1, e1⟩, ⟨v2, o2, k _ _ c2, e2⟩, ⟨v3, o3, k _ _ c3, e3⟩⟩
  case stab => exact fun i h h' st hb x => x.but st.1 hb hgI e3
  case turn =>
    rintro i v h5 tk5 hi5 hv5 ⟨⟨D, n5, vs, ps, mL, F5, eD, dD, aD, mm, ll⟩, c1, ⟨v2, c2⟩, ⟨v3, c3⟩⟩ st5
    obtain ⟨wi, ti, hwi, rfl⟩ := IntsAre_at hi i v (by simpa using hv5)
    refine wpAny_assign_Name (wpAny_storeName_cell rfl rfl rfl c2 fun h6 c6 sb6 => ?_)
    have hb6 : KptBut (L' + 2) h5 h6 := fun b o hb e => sb6.extBut b o hb e
    have gc : ∀ k, g.get? (L' + 1 + k) = none := fun k => by
      cases q : g.get? (L' + 1 + k) with
      | none => rfl
      | some o => exact absurd (Heap.lt_size q) (by rw [eL]; show ¬ (@LT.lt Nat _ (g.objs.size + 1 + k) g.objs.size); omega)
    have F6 := Fr_but F5 hb6 (by show @Ne Nat (L' + 2) L'; omega) (gc 1)
    k_unmd
    k_steps
    refine Stop.out ?_
    have nD : (D : Nat) ≠ L' + 2 := fun q => by
      obtain ⟨o, e, d⟩ := c2
      rw [q] at dD
      have e' : h5.get? (L' + 2) = some o := e
      rw [dD] at e'; cases e'; cases d
    have dD6 := hb6 D _ nD dD
    have aD6 : All2 (TupIs h6) vs ps := aD.mono fun v p ⟨b, t, u, n, e, gb⟩ => ⟨b, t, u, n, e, hb6 b _ (fun q => by
      obtain ⟨o, e, d⟩ := c2
      rw [q] at gb
      have e' : h5.get? (L' + 2) = some o := e
      rw [gb] at e'; cases e'; cases d) gb⟩
    have c16 : h6.IsCell (L' + 1) (some (.int lim u)) := by obtain ⟨o, e, d⟩ := c1; exact ⟨o, hb6 _ _ (by omega) e, d⟩
    have c36 : h6.IsCell (L' + 3) v3 := by obtain ⟨o, e, d⟩ := c3; exact ⟨o, hb6 _ _ (by omega) e, d⟩
    have lD6 : h6.IsList D vs.toArray := ⟨_, dD6, rfl, _, rfl⟩
    have hll := aD.length
    refine comp2 (α := Int × Int) (Elt := EltT) EltT.late (cl := ?cl2) (by with_unfolding_all rfl) (by decide) (by rfl) (by decide) (by intro _; rfl) (by intro _ _; rfl) ?_
    k_unmd
    k_steps
    refine Stop.out ?_
    refine iter_list_raw lD6 fun h6i I2 k6 hI2 si2 it2 => ?_
    have lt2 : ∀ (b : Nat) o, h6.get? b = some o → b < I2 := fun b o e => hI2 ▸ Heap.lt_size e
    have nDI : D ≠ I2 := Nat.ne_of_lt (lt2 _ _ dD6)
    have ps5 : ps.length ≤ 4 ^ 5 := Nat.le_trans ll (Nat.pow_le_pow_right (by decide) (Nat.le_of_lt (Nat.lt_of_lt_of_le hi5 (by rw [List.size_toArray, hi.length]; exact hz))))
    refine ⟨I2, [I2, D], vs.toArray.size, 4, _, _, growF lim wi ps, _, _, rfl, rfl, Walks.list (by rfl) I2 D nDI vs.toArray, ⟨it2, lD6.at fun o e => k6 _ _ e⟩, ?fp, k6, ?i0, by rw [si2]; exact Nat.lt_succ_self _, by rw [List.size_toArray, hll, sizeLine_eq]; omega, ?ht, ?turn2, ?fin2⟩
    case fp =>
      intro b hb
      rw [si2]
      rcases List.mem_cons.mp hb with rfl | hb
      · exact Nat.lt_succ_self _
      · rw [List.mem_singleton.mp hb]; exact Nat.lt_succ_of_lt (lt2 _ _ dD6)
    case i0 =>
      cases q : h6.get? I2 with
      | none => rfl
      | some o => exact absurd (lt2 _ _ q) (Nat.lt_irrefl _)
    case ht =>
      rintro j v h7 hv7 st7 s' Q' rfl hq
      obtain ⟨⟨b, t, u, n, rfl, gb⟩, -⟩ := aD6.at (0, 0) j v (by simpa using hv7)
      exact wpAny_letOwnedTupleGo_listiter st7.1 hq
    case turn2 =>
      intro j v h7 tk7 C m7 hj7 hv7 k7 n7 c70 _
      obtain ⟨⟨b, t, u', n, rfl, gb⟩, hj⟩ := aD6.at (0, 0) j v (by simpa using hv7)
      refine assign_tup2 (by rfl) ⟨_, k7 _ _ gb, rfl, _, rfl⟩ (by rfl) (by rfl) (by rfl) n7 fun h8 tk8 hb8 n8 => ?_
      refine tests_nil ?_
      rw [if_pos rfl]
      have n8' : h8.Ns C _ := n8
      have kk8 : KptBut C h7 h8 := hb8
      have k8 : Kpt h6 h8 := fun q o e => kk8 q o (fun q' => by rw [q', c70] at e; cases e) (k7 q o e)
      have c18 : h8.IsCell (L' + 1) (some (.int lim u)) := by obtain ⟨o, e, d⟩ := c16; exact ⟨o, k8 _ _ e, d⟩
      have F8 := F6.keeps k8
      have pd : ps.getD j (0, 0) = ps.getD j (0, 0) := rfl
      k_unmd
      k_steps
      refine Stop.out ?_
      refine range2_raw fun h9 R9 tk9 t9 k89 s8 s9 r9 => ?_
      k_unmd
      k_steps
      refine Stop.out ?_
      refine iter_range_raw r9 (range_lim hlim).1 (range_lim hlim).2 fun h10 I9 k910 si si' st9 => ?_
      have k9 : Kpt h8 h10 := fun b o e => k910 _ _ (k89 _ _ e)
      have hC8 : @LT.lt Nat _ C h8.objs.size := n8'.lt
      have hCI : C < I9 := by rw [← si, s9, ← s8]; exact Nat.lt_succ_of_lt hC8
      refine ⟨I9, [I9], lim, _, _, growJ lim wi (ps.getD j (0, 0)), h10, _, _, fun m => m (Str.ofString "cost") = some (.int (ps.getD j (0, 0)).1 t) ∧ m (Str.ofString "left") = some (.int (ps.getD j (0, 0)).2 u'), rfl, rfl, LCg.range_walks (by rfl) 1 lim, st9, ?fp3, fun b o hb e => k9 b o (kk8 b o hb e), n8'.at' fun o e => k9 _ _ e, ⟨?mc, ?ml⟩, hCI, fun i h st => range_notSeq st, hlim, rfl, ?ht3, ?turn3⟩
      case fp3 =>
        intro b hb
        rw [List.mem_singleton.mp hb]
        constructor
        · show @Ne Nat I9 C; omega
        · show @Ne Nat (I9 + 1) C; omega
      case mc => simp (decide := true)
      case ml => simp (decide := true)
      case ht3 => exact fun _ _ _ _ _ s' Q' _ hq => wpAny_pure hq
      case turn3 =>
        rintro q v h11 tk11 m11 hq11 ⟨t9, rfl⟩ k11 n11 ⟨mc, ml⟩
        refine assign_one (by rfl) (by rfl) n11 fun h12 tk12 hb12 n12 => ?_
        have n12' : h12.Ns C _ := n12
        have kk12 : KptBut C h11 h12 := hb12
        have k12 : Kpt h6 h12 := fun q o e => kk12 q o (fun q' => by rw [q', c70] at e; cases e) (k11 q o e)
        have c112 : h12.IsCell (L' + 1) (some (.int lim u)) := by obtain ⟨o, e, d⟩ := c16; exact ⟨o, k12 _ _ e, d⟩
        have c612 : h12.IsCell (L' + 1 + 1) (some (.int wi ti)) := by obtain ⟨o, e, d⟩ := c6; exact ⟨o, k12 _ _ e, d⟩
        have F12 := F6.keeps k12
        refine tests_one ?_
        have mk : InTurn := trivial
        clear F8 n8' n8
        k_unmd
        k_steps
        · refine Stop.out ?_
          refine tuple_raw (by show 2 ≤ sizeLine; rw [sizeLine_eq]; decide) fun h13 D13 k13 sD sD' gD => ?_
          have hC12 : @LT.lt Nat _ C h12.objs.size := n12'.lt
          refine ⟨h13, _, _, rfl, fun b o hb e => k13 _ _ (kk12 b o hb e), n12'.at' fun o e => k13 _ _ e, ⟨?_, ?_⟩, ((ps.getD j (0, 0)).1 + wi * (1 + (q : Int)), (ps.getD j (0, 0)).2 - 2 ^ ((lim : Int) - (1 + (q : Int))).toNat), ?_, D13, _, _, _, rfl, ?_, gD⟩
          · show (if Str.ofString "cost" = Str.ofString "l" then _ else m11 _) = _; rw [if_neg (by decide)]; exact mc
          · show (if Str.ofString "left" = Str.ofString "l" then _ else m11 _) = _; rw [if_neg (by decide)]; exact ml
          · unfold growJ; rw [if_pos (by assumption)]
          · have : @Eq Nat h12.objs.size D13 := sD
            omega
        · refine ⟨h12, _, _, rfl, kk12, n12', ⟨?_, ?_⟩, ?_⟩
          · show (if Str.ofString "cost" = Str.ofString "l" then _ else m11 _) = _; rw [if_neg (by decide)]; exact mc
          · show (if Str.ofString "left" = Str.ofString "l" then _ else m11 _) = _; rw [if_neg (by decide)]; exact ml
          · unfold growJ; rw [if_neg (by assumption)]
    case fin2 =>
      intro DG ys h14 tk14 k14 gG aG DG0
      have k14' : Kpt h6 h14 := k14
      have c114 : h14.IsCell (L' + 1) (some (.int lim u)) := by obtain ⟨o, e, d⟩ := c16; exact ⟨o, k14 _ _ e, d⟩
      have c314 : h14.IsCell (L' + 3) v3 := by obtain ⟨o, e, d⟩ := c36; exact ⟨o, k14 _ _ e, d⟩
      have F14 := F6.keeps k14'
      clear F6 c16 c36
      k_unmd
      k_steps
      refine Stop.out ?_
      have gG' : h14.IsList DG ys.toArray := ⟨_, gG, rfl, _, rfl⟩
      have len14 := aG.length
      have lenG := flat_len (growF lim wi ps) 4 (growF_len hlim wi ps) vs.toArray.size
      have vsz : vs.toArray.size = ps.length := by rw [List.size_toArray, hll]
      refine sorted_tups gG' (by rw [len14, sizeLine_eq]; omega) (fun v hv => by
        obtain ⟨i, hi⟩ := List.getElem?_of_mem hv
        exact ⟨_, (aG.at (0, 0) i v hi).1.is⟩) fun Dg out n15 h15 perm k15 g15 f15 => ?_
      have k15' : Kpt h14 h15 := k15
      obtain ⟨o33, e33, d33⟩ := c314
      have c315 : h15.IsCell (L' + 3) v3 := ⟨o33, k15 _ _ e33, d33⟩
      have F15 := F14.keeps k15'
      have mk : InTurn := trivial
      k_unmd
      k_steps
      refine Stop.out ?_
      refine wpAny_storeName_cell (by rfl) (by rfl) (by rfl) c315 fun h16 c316 sb16 => ?_
      have hb16 : KptBut (L' + 3) h15 h16 := fun b o hb e => sb16.extBut b o hb e
      have F16 := Fr_but F15 hb16 (by show @Ne Nat (L' + 3) L'; omega) (gc 2)
      rename InTurn => mk3
      clear mk3 F15 F14
      k_unmd
      k_steps
      refine Stop.out ?_
      have nG : @Ne Nat Dg (L' + 3) := fun q => by
        obtain ⟨o, e, d⟩ := c315
        rw [q] at g15
        have e' : h15.get? (L' + 3) = some o := e
        rw [g15] at e'; cases e'; cases d
      have g16 : h16.IsList Dg out.toArray := ⟨_, hb16 _ _ nG g15, rfl, _, rfl⟩
      obtain ⟨qs, a15, pq⟩ := All2.perm perm (aG.mono fun v p t => t.is.keep k15)
      have a16 : All2 (TupIs h16) out qs := a15.mono fun v p ⟨b, t, u, n, e, gb⟩ => ⟨b, t, u, n, e, hb16 b _ (fun q => by
        obtain ⟨o, e, d⟩ := c315
        rw [q] at gb
        have e' : h15.get? (L' + 3) = some o := e
        rw [gb] at e'; cases e'; cases d) gb⟩
      have lo := a16.length
      have lq : qs.length ≤ 4 ^ 6 := by rw [pq.length_eq]; omega
      have c316' : h16.IsCell (L' + 1 + 1 + 1) (some (.ref Dg)) := c316
      refine comp1_asg (α := Value × (Int × Int)) (Elt := fun _ _ v x => v = x.1) (fun _ _ _ _ _ _ e => e) (cl := [(Str.ofString "grown", L' + 1 + 1 + 1)]) (by with_unfolding_all rfl) (by rfl) (by with_unfolding_all rfl) (by decide) (by rfl) (by decide) (by intro _; rfl) (by rfl) (by rfl) F16.ns ?_
      k_unmd
      k_steps
      refine Stop.out ?_
      refine len_list g16 (by rw [List.size_toArray]; omega) ?_
      k_unmd
      k_steps
      refine Stop.out ?_
      refine range1_raw fun h17 R17 tk17 t17 v17 k17 s17 s17' r17 => ?_
      k_unmd
      k_steps
      refine Stop.out ?_
      have osz : out.toArray.size = qs.length := by rw [List.size_toArray, lo]
      rw [osz] at r17
      refine iter_range_raw r17 (range0 (by omega)).1 (range0 (by omega)).2 fun h18 I18 k18 s18 s18' st18 => ?_
      have kk18 : Kpt h16 h18 := fun b o e => k18 _ _ (k17 _ _ e)
      have ltI18 : ∀ (b : Nat) o, h16.get? b = some o → b < I18 := fun b o e => by rw [← s18]; exact Heap.lt_size (k17 _ _ e)
      refine ⟨I18, [I18], qs.length, _, _, dedF out qs, h18, _, rfl, rfl, LCg.range_walks (by rfl) 0 qs.length, st18, ?fp18, kk18, ?i18, by rw [s18']; exact Nat.lt_succ_self _, by rw [sizeLine_eq]; omega, fun _ _ _ _ _ s' Q' _ hq => wpAny_pure hq, ?turn18, ?fin18⟩
      case fp18 =>
        intro b hb
        rw [List.mem_singleton.mp hb, s18']; exact Nat.lt_succ_self _
      case i18 =>
        cases q : h16.get? I18 with
        | none => rfl
        | some o => exact absurd (ltI18 _ _ q) (Nat.lt_irrefl _)
      case turn18 =>
        rintro q v h19 tk19 C m19 hq19 ⟨t19, rfl⟩ k19 n19 c190
        refine assign_one (by rfl) (by rfl) n19 fun h20 tk20 hb20 n20 => ?_
        have n20' : h20.Ns C _ := n20
        have kk20 : KptBut C h19 h20 := hb20
        have k20 : Kpt h16 h20 := fun q o e => kk20 q o (fun q' => by rw [q', c190] at e; cases e) (k19 q o e)
        have c320 : h20.IsCell (L' + 1 + 1 + 1) (some (.ref Dg)) := by obtain ⟨o, e, d⟩ := c316'; exact ⟨o, k20 _ _ e, d⟩
        have g20 : h20.IsList Dg out.toArray := g16.at fun o e => k20 _ _ e
        refine tests_one ?_
        clear n20
        have gx : ∀ r, r < qs.length → out.toArray[r]? = some (out.getD r .none) := fun r hr => by
          have hr' : r < out.length := by omega
          simp [List.getD_eq_getElem?_getD, hr']
        have tx : ∀ r, r < qs.length → TupIs h20 (out.getD r .none) (qs.getD r (0, 0)) := fun r hr => by
          have hr' : r < out.length := by omega
          have := (a16.at (0, 0) r (out.getD r .none) (by simp [List.getD_eq_getElem?_getD, hr'])).1
          exact this.keep k20
        k_unmd
        k_steps
        · have q0 : q = 0 := by omega
          refine Stop.out ?_
          refine item_raw (v := out.getD q .none) g20 (by omega) (by omega) (by rw [show (0 + (q : Int)).toNat = q by omega]; exact gx q hq19) ?_
          exact ⟨h20, _, _, rfl, kk20, n20', (out.getD q .none, qs.getD q (0, 0)), by unfold dedF; rw [if_pos (.inl q0)], rfl⟩
        · have q0 : q ≠ 0 := by omega
          obtain ⟨b1, t1, u1, m1, e1, gb1⟩ := tx (q - 1) (by omega)
          obtain ⟨b2, t2, u2, m2, e2, gb2⟩ := tx q hq19
          refine Stop.out ?_
          refine item_raw (v := .ref b1) g20 (by omega) (by omega) (by rw [show (0 + (q : Int) - 1).toNat = q - 1 by omega, ← e1]; exact gx _ (by omega)) ?_
          k_unmd
          k_steps
          refine Stop.out ?_
          refine item_raw (v := .ref b2) g20 (by omega) (by omega) (by rw [show (0 + (q : Int)).toNat = q by omega, ← e2]; exact gx _ hq19) ?_
          k_unmd
          k_steps
          refine Stop.out ?_
          refine ne_tups ⟨b1, t1, u1, m1, rfl, gb1⟩ ⟨b2, t2, u2, m2, rfl, gb2⟩ (by show un + 3 + 8 < cLine; omega) ?_
          by_cases hne : qs.getD (q - 1) (0, 0) ≠ qs.getD q (0, 0)
          · rw [decide_eq_true hne]
            k_unmd
            k_steps
            refine Stop.out ?_
            refine item_raw (v := out.getD q .none) g20 (by omega) (by omega) (by rw [show (0 + (q : Int)).toNat = q by omega]; exact gx q hq19) ?_
            exact ⟨h20, _, _, rfl, kk20, n20', (out.getD q .none, qs.getD q (0, 0)), by unfold dedF; rw [if_pos (.inr hne)], rfl⟩
          · rw [decide_eq_false hne]
            k_unmd
            k_steps
            exact ⟨h20, _, _, rfl, kk20, n20', by unfold dedF; rw [if_neg (fun h => h.elim q0 hne)]⟩
      case fin18 =>
        rintro D' ys' h21 tk21 ⟨kb21, n21⟩ g21 a21 D'0
        have ys'e := All2.eq a21
        have kb : KptBut L' h16 h21 := kb21
        have nL : ∀ (b : Nat) o, h16.get? b = some o → SeqO o → b ≠ L' := fun b o e so q => by
          obtain ⟨oL, es, ep, hL, hLd, -⟩ := F16.ns
          rw [q, hL] at e; cases e
          obtain ⟨x, n, so⟩ := so
          rw [hLd] at so; cases so
        have kk : ∀ (b : Nat) o, b ≠ L' → b ≠ L' + 2 → b ≠ L' + 3 → h5.get? b = some o → h21.get? b = some o := fun b o h1 h2 h3 e => kb b o h1 (hb16 b o h3 (k15 _ _ (k14' b o (hb6 b o h2 e))))
        refine wpAny_execs_nil ?_
        refine ⟨.inl rfl, h21, _, rfl, ⟨⟨D', _, ys', ((List.range qs.length).flatMap (dedF out qs)).map (·.2), _, ⟨n21, fun b o e => kb b o ?_ (F16.keep b o e), F16.above⟩, if_pos rfl, g21, ?_, fun p => ?_, ?_⟩, ?_, ?_, ?_⟩, ?_, ?_⟩
        · have q1 : @LT.lt Nat _ b g.objs.size := Heap.lt_size e
          rw [eL]; exact Nat.ne_of_lt q1
        · rw [ys'e]
          refine All2.of_all fun x hx => ?_
          obtain ⟨r, hr, hx⟩ := List.mem_flatMap.mp hx
          have hr' := List.mem_range.mp hr
          have tx : TupIs h16 (out.getD r .none) (qs.getD r (0, 0)) := (a16.at (0, 0) r (out.getD r .none) (by simp [List.getD_eq_getElem?_getD, (show r < out.length by omega)])).1
          unfold dedF at hx
          split at hx
          · rw [List.mem_singleton.mp hx]
            obtain ⟨b, t, u, n, e, gb⟩ := tx
            exact ⟨b, t, u, n, e, kb b _ (nL _ _ gb ⟨_, _, rfl⟩) gb⟩
          · cases hx
        · rw [dedF_mem, pq.mem_iff, vsz, show ws.take (i + 1) = ws.take i ++ [wi] by rw [List.take_add_one, hwi]; rfl]
          unfold SS
          rw [List.foldl_append]
          exact grow_mem (mm)
        · rw [List.length_map]
          have := flat_len (dedF out qs) 1 (dedF_len out qs) qs.length
          have l2 := pq.length_eq
          rw [Nat.pow_succ]
          omega
        · obtain ⟨o, e, d⟩ := c1; exact ⟨o, kk _ _ (by omega) (by omega) (by omega) e, d⟩
        · obtain ⟨o, e, d⟩ := c6; exact ⟨_, o, kb _ _ (by omega) (hb16 _ _ (by omega) (k15 _ _ (k14' _ _ e))), d⟩
        · obtain ⟨o, e, d⟩ := c316; exact ⟨_, o, kb _ _ (by omega) e, d⟩
        · obtain ⟨o, e, d⟩ := st5.1; exact ⟨o, kk _ _ (by omega) (by omega) (by omega) e, d⟩
        · obtain ⟨o, e, d⟩ := st5.2
          have nl : ∀ k, @Ne Nat l (L' + k) := fun k => by
            obtain ⟨o, e, -⟩ := hg
            have q1 : @LT.lt Nat _ l L' := by rw [eL]; exact Heap.lt_size e
            omega
          exact ⟨o, kk _ _ (nl 0) (nl 2) (nl 3) e, d⟩
  case fin =>
    rintro h22 tk22 ⟨⟨D, n5, vs, ps, mL, F5, eD, dD, aD, mm, ll⟩, c1, ⟨v2, c2⟩, ⟨v3, c3⟩⟩
    have lD : h22.IsList D vs.toArray := ⟨_, dD, rfl, _, rfl⟩
    clear F4 N4
    have hll := aD.length
    rw [show its.toList.toArray.size = ws.length by rw [List.size_toArray, hi.length], List.take_length] at mm
    have ps5 : ps.length ≤ 4 ^ 5 := Nat.le_trans ll (Nat.pow_le_pow_right (by decide) (by rw [List.size_toArray, hi.length]; exact hz))
    k_unmd
    k_steps
    refine Stop.out ?_
    refine comp1 (α := Int) (Elt := fun _ _ v x => ∃ t, v = .int x t) (fun _ _ _ _ _ _ e => e) (cl := []) (by with_unfolding_all rfl) (by decide) (by rfl) (by decide) (by intro _; rfl) ?_
    k_unmd
    k_steps
    refine Stop.out ?_
    refine iter_list_raw lD fun h23 I23 k23 s23 s23' it23 => ?_
    have lt23 : ∀ (b : Nat) o, h22.get? b = some o → b < I23 := fun b o e => s23 ▸ Heap.lt_size e
    have nD23 : D ≠ I23 := Nat.ne_of_lt (lt23 _ _ dD)
    refine ⟨I23, [I23, D], vs.toArray.size, _, _, fun i => [(ps.getD i (0, 0)).1], h23, _, rfl, rfl, Walks.list (by rfl) I23 D nD23 vs.toArray, ⟨it23, lD.at fun o e => k23 _ _ e⟩, ?fp, k23, ?i0, by rw [s23']; exact Nat.lt_succ_self _, by rw [List.size_toArray, hll, sizeLine_eq]; omega, ?ht, ?turn2, ?fin2⟩
    case fp =>
      intro b hb
      rw [s23']
      rcases List.mem_cons.mp hb with rfl | hb
      · exact Nat.lt_succ_self _
      · rw [List.mem_singleton.mp hb]; exact Nat.lt_succ_of_lt (lt23 _ _ dD)
    case i0 =>
      cases q : h22.get? I23 with
      | none => rfl
      | some o => exact absurd (lt23 _ _ q) (Nat.lt_irrefl _)
    case ht =>
      rintro j v h7 hv7 st7 s' Q' rfl hq
      obtain ⟨⟨b, t, u, n, rfl, gb⟩, -⟩ := aD.at (0, 0) j v (by simpa using hv7)
      exact wpAny_letOwnedTupleGo_listiter st7.1 hq
    case turn2 =>
      intro j v h7 tk7 C m7 hj7 hv7 k7 n7 c70
      obtain ⟨⟨b, t, u', n, rfl, gb⟩, hj⟩ := aD.at (0, 0) j v (by simpa using hv7)
      refine assign_tup2 (by rfl) ⟨_, k7 _ _ gb, rfl, _, rfl⟩ (by rfl) (by rfl) (by rfl) n7 fun h8 tk8 hb8 n8 => ?_
      refine tests_nil ?_
      rw [if_pos rfl]
      have n8' : h8.Ns C _ := n8
      have kk8 : KptBut C h7 h8 := hb8
      clear n8
      k_unmd
      k_steps
      exact ⟨h8, _, _, rfl, kk8, n8', (ps.getD j (0, 0)).1, rfl, t, rfl⟩
    case fin2 =>
      intro DG ys h14 tk14 k14 gG aG DG0
      have F14 := F5.keeps k14
      have gG' : h14.IsList DG ys.toArray := ⟨_, gG, rfl, _, rfl⟩
      have eps : (List.range vs.toArray.size).flatMap (fun i => [(ps.getD i (0, 0)).1]) = ps.map (·.1) := by
        rw [List.size_toArray, hll, flat_getD (0, 0) (fun p => [p.1]) ps]
        exact flat_one _ _
      rw [eps] at aG
      have iG : IntsAre ys (ps.map (·.1)) := All2.ints aG
      clear F5
      k_unmd
      k_steps
      refine Stop.out ?_
      refine min_list_N (by rfl) F14 News.nil gG' iG ?ne fun h25 M t tk25 F25 _ hM hle => ?_
      case ne =>
        obtain ⟨q, hq⟩ := hne
        rw [List.length_map]; exact List.length_pos_of_mem ((mm q).mpr hq)
      k_unmd
      k_steps
      refine hret M t h25 _ (fun b o e => F25.keep _ _ (hgk b o e)) ?_ fun q hq => hle _ (List.mem_map.mpr ⟨q, (mm q).mpr hq, rfl⟩)
      obtain ⟨q, hq, e⟩ := List.mem_map.mp hM
      exact ⟨q, (mm q).mp hq, e⟩
end Mine
/-! part R8 -/
namespace Mine
open PySem PySem.W PyProof.Rows PySem.Calls PySem.Spec
section
variable {prog : Program} {w : World} {A : Around} {E : Value → Shared → Prop} {s : Shared}
theorem list_raw {items : List Value} {Q : Value → Shared → Prop} (hz : items.length ≤ sizeLine)
    (h : ∀ h' (D : Nat), Kpt s.heap h' → s.heap.objs.size = D → h'.objs.size = D + 1 → h'.get? D = some (listOf items.toArray 0) → Q (.ref D) {s with heap := h'}) :
    wpAny (model prog w) A (newList items) Q E s :=
  wpAny_newList (h _ _ (push_kpt _ _) rfl (Heap.size_push ..) (Heap.get?_push_size _ rfl)) hz
theorem copy_raw {l : Addr} {items : Array Value} {n : Nat} {Q : Value → Shared → Prop} (hl : s.heap.get? l = some (listOf items n)) (hz : items.size ≤ sizeLine)
    (h : ∀ h' (D : Nat) c, Kpt s.heap h' → s.heap.objs.size = D → h'.get? D = some (listOf items c) → Q (.ref D) {s with heap := h'}) :
    wpAny (model prog w) A (call (.type "list") [.ref l]) Q E s :=
  call_list_seq (hsz := hz) l (.inl rfl) hl rfl rfl fun h' c' hk hD => h h' _ c' hk rfl hD
theorem slice_raw {value slice : Expr} {l : Addr} {items : Array Value} {vl vu : Value} {lo hi : Option Int} {Q : Value → Shared → Prop} (hl : s.heap.IsList l items) (pl : IsPart vl lo) (pu : IsPart vu hi)
    (h : ∀ h' (D : Nat), Kpt s.heap h' → s.heap.objs.size < D → h'.get? D = some (listOf (slicePick items lo hi none) 0) → Q (.ref D) { s with heap := h' })
    (hs : subscripted slice false (.ref l) (.ref s.heap.objs.size) = operate [.ref s.heap.objs.size, .ref l] (getItem (.ref l) (.ref s.heap.objs.size)))
    (ht : ∀ r, letTemporaryGo value (.ref l) r = pure ())
    (hsz : items.size ≤ sizeLine) :
    wpAny (model prog w) A (subscriptTail value slice (.ref l) (.ref s.heap.objs.size)) Q E { s with heap := s.heap.push { cls := .type "slice", data := .fields #[vl, vu, .none] } } := by
  refine subscriptTail_ops (Heap.IsList.typeIs (s := { s with heap := s.heap.push { cls := .type "slice", data := .fields #[vl, vu, .none] } }) (hl.push _)) list_getitem_lookup
    (wpAny_getItem_list_slice (hl.push _) (Heap.IsSliceOf.new ..) pl pu .none (by simp) ?_ hsz) hs ht
  refine h _ _ (fun b o e => Heap.get?_push_of_some _ (Heap.get?_push_of_some _ e)) ?_ (Heap.get?_push_size _ rfl)
  show @LT.lt Nat _ s.heap.objs.size (s.heap.push _).objs.size
  rw [Heap.size_push]; exact Nat.lt_succ_self _
end
end Mine
/-! part R9 -/
namespace Mine
open PySem PySem.W PyProof.Rows PySem.Calls PySem.Spec
/-- an item of a row: a list of a weight and a list of indices; none of the two lists is at c -/
def ItemN (c : Nat) (h : Heap) (v : Value) (x : Int × List Int) : Prop :=
  ∃ (a b : Nat) (t : Tok) (n n' : Nat) (vs : List Value), v = .ref a ∧ a ≠ c ∧ b ≠ c ∧ h.get? a = some (listOf #[.int x.1 t, .ref b] n) ∧ h.get? b = some (listOf vs.toArray n') ∧ IntsAre vs x.2
theorem ItemN.but {c : Nat} {h h' : Heap} {v : Value} {x : Int × List Int} (i : ItemN c h v x) (hk : KptBut c h h') : ItemN c h' v x := by
  obtain ⟨a, b, t, n, n', vs, e, ha, hb, ga, gb, iv⟩ := i
  exact ⟨a, b, t, n, n', vs, e, ha, hb, hk _ _ ha ga, hk _ _ hb gb, iv⟩
theorem ItemN.keep {c : Nat} {h h' : Heap} {v : Value} {x : Int × List Int} (i : ItemN c h v x) (hk : Kpt h h') : ItemN c h' v x := i.but fun b o _ e => hk b o e
theorem ItemN.seq {c : Nat} {h h' : Heap} {v : Value} {x : Int × List Int} (i : ItemN c h v x) (hk : ∀ (b : Nat) o, SeqO o → h.get? b = some o → h'.get? b = some o) : ItemN c h' v x := by
  obtain ⟨a, b, t, n, n', vs, e, ha, hb, ga, gb, iv⟩ := i
  exact ⟨a, b, t, n, n', vs, e, ha, hb, hk _ _ ⟨_, _, rfl⟩ ga, hk _ _ ⟨_, _, rfl⟩ gb, iv⟩
theorem ItemN.fresh {c c' : Nat} {h : Heap} {v : Value} {x : Int × List Int} (i : ItemN c h v x) (h0 : h.get? c' = none) : ItemN c' h v x := by
  obtain ⟨a, b, t, n, n', vs, e, ha, hb, ga, gb, iv⟩ := i
  exact ⟨a, b, t, n, n', vs, e, (fun q => by rw [q, h0] at ga; cases ga), (fun q => by rw [q, h0] at gb; cases gb), ga, gb, iv⟩
theorem ItemN.wt {c : Nat} {h : Heap} {v : Value} {x : Int × List Int} (i : ItemN c h v x) : WtIs h v x.1 ∧ v ≠ .ref c := by
  obtain ⟨a, b, t, n, n', vs, e, ha, hb, ga, gb, iv⟩ := i
  exact ⟨⟨a, _, n, t, e, ga, rfl⟩, fun q => ha (by rw [e] at q; cases q; rfl)⟩
def insP (p : List (Int × List Int)) (x : Int × List Int) : List (Int × List Int) :=
  p.take (bisR (p.map (·.1)) x.1 0 p.length) ++ x :: p.drop (bisR (p.map (·.1)) x.1 0 p.length)
def plainP (ws : List Int) (i : Nat) : List (Int × List Int) := (List.range i).foldl (fun p k => insP p (ws.getD k 0, [(k : Int)])) []
theorem plainP_succ (ws : List Int) (i : Nat) : plainP ws (i + 1) = insP (plainP ws i) (ws.getD i 0, [(i : Int)]) := by
  unfold plainP; rw [List.range_succ, List.foldl_append]; rfl
theorem bisR_le' (p : List (Int × List Int)) (x : Int) : bisR (p.map (·.1)) x 0 p.length ≤ p.length := by
  have := bisR_le (ks := p.map (·.1)) (x := x) (lo := 0) (hi := p.length) (Nat.zero_le _)
  omega
theorem insP_length (p : List (Int × List Int)) (x : Int × List Int) : (insP p x).length = p.length + 1 := by
  have := bisR_le' p x.1
  unfold insP
  rw [List.length_append, List.length_cons, List.length_take, List.length_drop]; omega
theorem plainP_length (ws : List Int) : ∀ i, (plainP ws i).length = i
  | 0 => rfl
  | i + 1 => by rw [plainP_succ, insP_length, plainP_length ws i]
theorem All2.take {α : Type} {R : Value → α → Prop} : ∀ {ys : List Value} {xs : List α}, All2 R ys xs → ∀ k, All2 R (ys.take k) (xs.take k)
  | _, _, _, 0 => .nil
  | _, _, .nil, _ + 1 => .nil
  | _, _, .cons a r, k + 1 => .cons a (All2.take r k)
theorem All2.drop {α : Type} {R : Value → α → Prop} : ∀ {ys : List Value} {xs : List α}, All2 R ys xs → ∀ k, All2 R (ys.drop k) (xs.drop k)
  | _, _, h, 0 => h
  | _, _, .nil, _ + 1 => .nil
  | _, _, .cons a r, k + 1 => All2.drop r k
theorem All2.ins {R : Value → (Int × List Int) → Prop} {ys : List Value} {xs : List (Int × List Int)} {v : Value} {x : Int × List Int} (h : All2 R ys xs) (hv : R v x) :
    All2 R (insL ys (bisR (xs.map (·.1)) x.1 0 xs.length) v) (insP xs x) := (h.take _).append (.cons hv (h.drop _))
theorem All2.at' {α : Type} {R : Value → α → Prop} : ∀ {ys : List Value} {xs : List α}, All2 R ys xs → ∀ (i : Nat) (v : Value), ys[i]? = some v → ∃ x, xs[i]? = some x ∧ R v x
  | _, _, .cons a r, 0, v, e => by simp at e; subst e; exact ⟨_, rfl, a⟩
  | _, _, .cons a r, i + 1, v, e => by
    obtain ⟨x, h1, h2⟩ := All2.at' r i v (by simpa using e)
    exact ⟨x, by simpa using h1, h2⟩
end Mine
/-! part R10 -/
namespace Mine
open PySem PySem.W PyProof.Rows PySem.Calls PySem.Spec
theorem range2_row : ∀ r : Nat, r < 30 → 1 ≤ r → Builtin.Range.small 0 ((r : Int) - 1) 2 = true ∧ Builtin.Range.rangeSize 0 ((r : Int) - 1) 2 = ((r / 2 : Nat) : Int) := by decide
section
variable {prog : Program} {w : World} {A : Around} {E : Value → Shared → Prop} {s : Shared}
theorem add_raw {l b : Addr} {vs us : List Value} {n n' : Nat} {Q : Value → Shared → Prop} (hl : s.heap.get? l = some (listOf vs.toArray n)) (hb : s.heap.get? b = some (listOf us.toArray n')) (hz : vs.length + us.length ≤ sizeLine)
    (h : ∀ h' (D : Nat), Kpt s.heap h' → s.heap.objs.size = D → h'.objs.size = D + 1 → h'.get? D = some (listOf (vs ++ us).toArray 0) → Q (.ref D) {s with heap := h'}) :
    wpAny (model prog w) A (binaryOp .Add (.ref l) (.ref b)) Q E s :=
  P.add_list (items := vs.toArray) (items2 := us.toArray) hl hb (h _ _ (push_kpt _ _) rfl (Heap.size_push ..) (by rw [Heap.get?_push_size _ rfl]; simp [PySem.W.listOf])) (by simpa using hz)
theorem range3_raw {a b c : Int} {t u v : Tok} {Q : Value → Shared → Prop} (hc : c ≠ 0) (hp : Builtin.divisionGoesByPylong (b - a) c = false)
    (h : ∀ h' (D : Nat), Kpt s.heap h' → s.heap.objs.size = D → h'.objs.size = D + 1 → IsRange h' D a b c t u v → Q (.ref D) {s with heap := h', toks := s.toks}) :
    wpAny (model prog w) A (call (.type "range") [.int a t, .int b u, .int c v]) Q E s :=
  call_range_3 hc (h _ _ (push_kpt _ _) rfl (Heap.size_push ..) (IsRange.new _ _ _ _ _ _ _)) (.inl hp)
theorem iter_range3_raw {r : Addr} {a b c : Int} {t u v : Tok} {n : Nat} {Q : Value → Shared → Prop} (hr : IsRange s.heap r a b c t u v) (hs : Builtin.Range.small a b c = true) (hn : Builtin.Range.rangeSize a b c = n)
    (h : ∀ h' (I : Nat), Kpt s.heap h' → s.heap.objs.size = I → h'.objs.size = I + 1 → IsRangeIter h' I (a + ((0 : Nat) : Int) * c) ((n : Int) - ((0 : Nat) : Int)) c → Q (.ref I) {s with heap := h'}) :
    wpAny (model prog w) A (pyIter (.ref r)) Q E s :=
  wpAny_pyIter_range hr hs (h _ _ (push_kpt _ _) rfl (Heap.size_push ..) (by
    have e : (a + ((0 : Nat) : Int) * c) = a := by simp
    have e2 : ((n : Int) - ((0 : Nat) : Int)) = n := by omega
    rw [e, e2, ← hn]
    exact Heap.get?_push_size _ rfl))
end
abbrev I0 : Int × List Int := (0, [])
def pairP (row : List (Int × List Int)) (i : Nat) : Int × List Int := ((row.getD (2 * i) I0).1 + (row.getD (2 * i + 1) I0).1, (row.getD (2 * i) I0).2 ++ (row.getD (2 * i + 1) I0).2)
def pairsP (row : List (Int × List Int)) : List (Int × List Int) := (List.range (row.length / 2)).map (pairP row)
theorem pairsP_length (row : List (Int × List Int)) : (pairsP row).length = row.length / 2 := by unfold pairsP; simp
def rowP (ws : List Int) : Nat → List (Int × List Int)
  | 0 => plainP ws ws.length
  | j + 1 => (pairsP (rowP ws j)).foldl insP (plainP ws ws.length)
theorem foldl_insP_length : ∀ (xs p : List (Int × List Int)), (xs.foldl insP p).length = p.length + xs.length
  | [], p => rfl
  | x :: xs, p => by rw [List.foldl_cons, foldl_insP_length xs, insP_length, List.length_cons]; omega
theorem rowP_length (ws : List Int) : ∀ j, ws.length ≤ (rowP ws j).length ∧ (rowP ws j).length ≤ 2 * ws.length
  | 0 => by unfold rowP; rw [plainP_length]; omega
  | j + 1 => by
    have := rowP_length ws j
    unfold rowP; rw [foldl_insP_length, plainP_length, pairsP_length]; omega
/-- the lists of indices stay short -/
def Short (k : Nat) (row : List (Int × List Int)) : Prop := ∀ x ∈ row, x.2.length ≤ k
theorem Short.ins {k : Nat} {p : List (Int × List Int)} {x : Int × List Int} (h : Short k p) (hx : x.2.length ≤ k) : Short k (insP p x) := by
  intro y hy
  unfold insP at hy
  rcases List.mem_append.mp hy with hy | hy
  · exact h y (List.mem_of_mem_take hy)
  · rcases List.mem_cons.mp hy with rfl | hy
    · exact hx
    · exact h y (List.mem_of_mem_drop hy)
theorem Short.fold {k : Nat} : ∀ {xs p : List (Int × List Int)}, Short k p → Short k xs → Short k (xs.foldl insP p)
  | [], _, h, _ => h
  | x :: xs, p, h, hx => Short.fold (xs := xs) (p := insP p x) (h.ins (hx x (.head _))) fun y hy => hx y (.tail _ hy)
theorem Short.mono {k k' : Nat} {p : List (Int × List Int)} (h : Short k p) (hk : k ≤ k') : Short k' p := fun x hx => Nat.le_trans (h x hx) hk
theorem plainP_short (ws : List Int) : ∀ i, Short 1 (plainP ws i)
  | 0 => fun x hx => by cases hx
  | i + 1 => by rw [plainP_succ]; exact (plainP_short ws i).ins (by simp)
theorem getD_short {k : Nat} {p : List (Int × List Int)} (h : Short k p) (i : Nat) : (p.getD i I0).2.length ≤ k := by
  rw [List.getD_eq_getElem?_getD]
  cases e : p[i]? with
  | none => simp
  | some x => exact h x (List.mem_of_getElem? e)
theorem rowP_short (ws : List Int) : ∀ j, Short (2 ^ j) (rowP ws j)
  | 0 => plainP_short ws _
  | j + 1 => by
    refine Short.fold ((plainP_short ws _).mono (Nat.one_le_two_pow)) ?_
    intro x hx
    obtain ⟨i, _, rfl⟩ := List.mem_map.mp hx
    have h1 := getD_short (rowP_short ws j) (2 * i)
    have h2 := getD_short (rowP_short ws j) (2 * i + 1)
    show (_ ++ _ : List Int).length ≤ _
    rw [List.length_append, Nat.pow_succ]; omega
/-- keys in order -/
def SortedP (p : List (Int × List Int)) : Prop := p.Pairwise fun x y => x.1 ≤ y.1
theorem bisR_spec {ks : List Int} {x : Int} (hs : ∀ i j, i ≤ j → j < ks.length → ks.getD i 0 ≤ ks.getD j 0) : ∀ {lo hi : Nat}, lo ≤ hi → hi ≤ ks.length → (∀ i, i < lo → ks.getD i 0 ≤ x) → (∀ i, hi ≤ i → i < ks.length → x < ks.getD i 0) →
    (∀ i, i < bisR ks x lo hi → ks.getD i 0 ≤ x) ∧ (∀ i, bisR ks x lo hi ≤ i → i < ks.length → x < ks.getD i 0) := by
  intro lo hi
  induction lo, hi using bisR.induct (ks := ks) (x := x) with
  | case1 lo hi h1 h2 ih =>
    intro h hl a b
    rw [bisR_left h1 h2]
    exact ih (by omega) (by omega) a fun i hi' hl' => Int.lt_of_lt_of_le h2 (hs _ _ hi' hl')
  | case2 lo hi h1 h2 ih =>
    intro h hl a b
    rw [bisR_right h1 h2]
    exact ih (by omega) hl (fun i hi' => Int.le_trans (hs i ((lo + hi) / 2) (by omega) (by omega)) (by omega)) b
  | case3 lo hi h1 =>
    intro h hl a b
    rw [bisR_end h1]
    exact ⟨a, fun i hi' => b i (by omega)⟩
theorem keys_getD (p : List (Int × List Int)) (i : Nat) : (p.map (·.1)).getD i 0 = (p.getD i I0).1 := by
  rw [List.getD_eq_getElem?_getD, List.getD_eq_getElem?_getD, List.getElem?_map]
  cases p[i]? <;> rfl
theorem SortedP.at {p : List (Int × List Int)} (h : SortedP p) : ∀ i j, i ≤ j → j < (p.map (·.1)).length → (p.map (·.1)).getD i 0 ≤ (p.map (·.1)).getD j 0 := by
  intro i j hij hj
  rw [List.length_map] at hj
  rw [keys_getD, keys_getD, List.getD_eq_getElem?_getD, List.getD_eq_getElem?_getD, List.getElem?_eq_getElem hj, List.getElem?_eq_getElem (show i < p.length by omega)]
  rcases Nat.eq_or_lt_of_le hij with rfl | hlt
  · exact Int.le_refl _
  · exact (List.pairwise_iff_getElem.mp h) i j (by omega) hj hlt
/-- where an item goes in -/
theorem bisP {p : List (Int × List Int)} (h : SortedP p) (x : Int) : (∀ y ∈ p.take (bisR (p.map (·.1)) x 0 p.length), y.1 ≤ x) ∧ (∀ y ∈ p.drop (bisR (p.map (·.1)) x 0 p.length), x < y.1) := by
  obtain ⟨a, b⟩ := bisR_spec (x := x) h.at (lo := 0) (hi := (p.map (·.1)).length) (Nat.zero_le _) (Nat.le_refl _) (by simp) (by intro i h1 h2; omega)
  rw [List.length_map] at a b
  constructor
  · intro y hy
    obtain ⟨i, hi, e⟩ := List.getElem_of_mem hy
    rw [List.length_take] at hi
    have := a i (by omega)
    rw [keys_getD, List.getD_eq_getElem?_getD, List.getElem?_eq_getElem (by omega)] at this
    rw [List.getElem_take] at e
    rw [← e]; exact this
  · intro y hy
    obtain ⟨i, hi, e⟩ := List.getElem_of_mem hy
    rw [List.length_drop] at hi
    have := b (bisR (p.map (·.1)) x 0 p.length + i) (by omega) (by omega)
    rw [keys_getD, List.getD_eq_getElem?_getD, List.getElem?_eq_getElem (by omega)] at this
    rw [List.getElem_drop] at e
    rw [← e]; exact this
theorem SortedP.ins {p : List (Int × List Int)} (h : SortedP p) (x : Int × List Int) : SortedP (insP p x) := by
  obtain ⟨a, b⟩ := bisP h x.1
  unfold insP SortedP
  rw [List.pairwise_append]
  refine ⟨h.take, List.pairwise_cons.mpr ⟨fun y hy => Int.le_of_lt (b y hy), h.drop⟩, fun y hy z hz => ?_⟩
  rcases List.mem_cons.mp hz with rfl | hz
  · exact a y hy
  · exact Int.le_trans (a y hy) (Int.le_of_lt (b z hz))
theorem SortedP.fold : ∀ {xs p : List (Int × List Int)}, SortedP p → SortedP (xs.foldl insP p)
  | [], _, h => h
  | x :: xs, p, h => SortedP.fold (xs := xs) (p := insP p x) (h.ins x)
theorem plainP_sorted (ws : List Int) : ∀ i, SortedP (plainP ws i)
  | 0 => .nil
  | i + 1 => by rw [plainP_succ]; exact (plainP_sorted ws i).ins _
theorem rowP_sorted (ws : List Int) : ∀ j, SortedP (rowP ws j)
  | 0 => plainP_sorted ws _
  | j + 1 => (plainP_sorted ws _).fold
/-- the count that the text tests against -/
theorem count_le {p : List (Int × List Int)} (h : SortedP p) (x : Int) : (p.filter fun y => decide (y.1 ≤ x)).length = bisR (p.map (·.1)) x 0 p.length := by
  obtain ⟨a, b⟩ := bisP h x
  have e : p = p.take (bisR (p.map (·.1)) x 0 p.length) ++ p.drop (bisR (p.map (·.1)) x 0 p.length) := (List.take_append_drop _ _).symm
  have l := bisR_le' p x
  conv => lhs; rw [e]
  rw [List.filter_append, List.length_append, List.filter_eq_self.mpr fun y hy => decide_eq_true (a y hy), List.filter_eq_nil_iff.mpr fun y hy => by have := b y hy; simp; omega]
  rw [List.length_take, List.length_nil]; omega
/-- the items whose key is not above x -/
def cntF (p : List (Int × List Int)) (rs : List Value) (x : Int) (r : Nat) : List Value := if (p.getD r I0).1 ≤ x then [rs.getD r .none] else []
theorem cntF_length (p : List (Int × List Int)) (rs : List Value) (x : Int) : ((List.range p.length).flatMap (cntF p rs x)).length = (p.filter fun y => decide (y.1 ≤ x)).length := by
  have key : ∀ (n : Nat), n ≤ p.length → ((List.range n).flatMap (cntF p rs x)).length = ((p.take n).filter fun y => decide (y.1 ≤ x)).length := by
    intro n
    induction n with
    | zero => intro _; rfl
    | succ n ih =>
      intro h
      rw [flat_succ, List.length_append, ih (by omega), List.take_add_one, List.filter_append, List.length_append, List.getElem?_eq_getElem (by omega)]
      congr 1
      unfold cntF
      rw [List.getD_eq_getElem?_getD, List.getElem?_eq_getElem (by omega)]
      simp only [Option.getD_some, Option.toList_some, List.filter_cons, List.filter_nil]
      by_cases hc : p[n].1 ≤ x <;> simp [hc]
  rw [key _ (Nat.le_refl _), List.take_length]
end Mine
/-! part R11 -/
namespace Mine
open PySem PySem.W PyProof.Rows PySem.Calls PySem.Spec
section
variable {prog : Program} {w : World} {A : Around} {E : Value → Shared → Prop} {R : Result → Shared → Prop} {s : Shared}
abbrev IntE (v : Value) (x : Int) : Prop := ∃ t, v = .int x t
def OneC (prog : Program) (w : World) (A : Around) (s : Shared) (env : Env) (elt : Expr) (scope : Scope) (y : Str) (cl : List (Str × Addr)) (Qf : Nat → Shared → Prop) (it : Value) (s₂ : Shared) : Prop :=
  ∃ (I : Nat) (fp : List Addr) (n : Nat) (P : Nat → Value → Prop) (St : Nat → Heap → Prop) (f : Nat → Int) (h₂ : Heap) (t₂ : Nat), s₂ = {s with heap := h₂, toks := t₂} ∧ it = .ref I ∧ Walks prog w A I fp [I] n P St ∧ St 0 h₂ ∧ (∀ b ∈ fp, b < h₂.objs.size) ∧ Kpt s.heap h₂ ∧ s.heap.get? I = none ∧ I < h₂.objs.size ∧ n ≤ sizeLine ∧
    (∀ i v h tk (C : Nat), i < n → P i v → Kpt s.heap h → h.IsCell (C + 1) (some v) →
      wpAny (model prog w) A (eval elt (compEnvC scope ((y, C + 1) :: cl) C env)) (fun x s₅ => ∃ h' tk', s₅ = {s with heap := h', toks := tk'} ∧ Kpt h h' ∧ IntE x (f i)) NoE {s with heap := h, toks := tk}) ∧
    ∀ (D : Nat) ys h' tk, Kpt s.heap h' → h'.get? D = some (LCg.lst ys) → All2 IntE ys ((List.range n).map f) → s.heap.get? D = none → Qf D {s with heap := h', toks := tk}

theorem compC {elt iter : Expr} {y : Str} {py : Pos} {scope : Scope} {pos : Pos} {env : Env} {cl : List (Str × Addr)} {Q : Value → Shared → Prop}
    (hclos : closureFor scope env = pure cl) (hkind : scope.kind = .function) (hnames : ∀ y ∈ scope.names, y.2 = .local → scope.names.lookup y.1 = some .local)
    (hp : ∀ h, pushCells h scope.names = h.push { cls := .type "cell", data := .cell none }) (hcf : ∀ n, cellsFrom n scope.names cl = (y, n) :: cl)
    (hyc : ∀ cl' C, (compEnvC scope cl' C env).kindOf y = some .cell)
    (hs : ∀ x, foldedSetIterable iter env x = pure x)
    (h : wpAny (model prog w) A (eval iter env) (fun xv s₁ => wpAny (model prog w) A (pyIter xv) (OneC prog w A s env elt scope y cl (fun D s' => Q (.ref D) s')) E s₁) E s) :
    wpAny (model prog w) A (eval (.ListComp elt [⟨.Name y py, iter, [], 0⟩] scope pos) env) Q E s := by
  rw [eval_ListComp]
  refine wpAny_comprehension_free (use := none) rfl hs hclos hkind hnames (wpAny_mono h (fun xv s₁ h₁ => wpAny_mono h₁ (fun it s₂ h₂ => ?_) fun _ _ e => e) fun _ _ e => e)
  obtain ⟨I, fp, n, P, St, f, h₂, t₂, rfl, rfl, W, hst, hfp, hk2, hI0, hI, hn, turn, fin⟩ := h₂
  refine wpAny_newObj_type ?_
  simp only [newFunctionEnv, Option.isSome_some, if_true]
  refine wpAny_bind (wpAny_alloc ?_)
  refine wpAny_bind (wpAny_layCells _ (fun name kind cells => by cases hkc : kind == NameKind.cell <;> simp [hkc]) _ _ _ _ ?_)
  rw [hp, hcf]
  simp only [List.forIn_nil]
  refine wpAny_bind (wpAny_pure (wpAny_pure ?_))
  dsimp only
  generalize hH2 : h₂.push { cls := .type "list", dict := none, data := .seq ([] : List Value).toArray } = H2
  have hD' : H2.objs.size = h₂.objs.size + 1 := by rw [← hH2, Heap.size_push]
  generalize hH3 : H2.push { cls := .type "dict", data := .dict #[] } = H3
  have hC' : H3.objs.size = H2.objs.size + 1 := by rw [← hH3, Heap.size_push]
  generalize hH4 : H3.push { cls := .type "cell", data := .cell none } = H4
  have k23 : Kpt h₂ H3 := fun b o e => hH3 ▸ Heap.get?_push_of_some _ (hH2 ▸ Heap.get?_push_of_some _ e)
  have k34 : Kpt H3 H4 := fun b o e => hH4 ▸ Heap.get?_push_of_some _ e
  generalize hDn : h₂.objs.size = D at *
  have hacc : H4.get? D = some (LCg.lst []) := k34 _ _ (hH3 ▸ Heap.get?_push_of_some _ (hH2 ▸ hDn ▸ Heap.get?_push_size _ rfl))
  have hns : H4.Ns H2.objs.size (fun _ => none) := by
    have := Heap.Ns.new H2 (.type "dict")
    exact (hH3 ▸ this : H3.Ns H2.objs.size (fun _ => none)).at' fun o e => k34 _ _ e
  have hcell : H4.IsCell H3.objs.size none := ⟨_, hH4 ▸ Heap.get?_push_size _ rfl, rfl⟩
  have e3 : H3.objs.size = H2.objs.size + 1 := hC'
  rw [e3] at hcell ⊢
  generalize hCn : H2.objs.size = C at *
  have k24 : Kpt h₂ H4 := fun b o e => k34 _ _ (k23 _ _ e)
  have hCD : @Eq Nat C (D + 1) := hD'
  have hlt : ∀ (b : Nat) o, s.heap.get? b = some o → b < D := fun b o e => by
    have q : @LT.lt Nat _ b h₂.objs.size := Heap.lt_size (hk2 b o e)
    have q2 : @Eq Nat h₂.objs.size D := hDn
    omega
  have hfp' : ∀ (b : Nat), b ∈ fp → b < D := hfp
  have hI' : @LT.lt Nat _ I D := hI
  have hst4 : St 0 H4 := W.frame _ _ _ hst fun b _ o e => k24 b o e
  have loop : codeAny (model prog w) A (.compLoop (.ListComp elt [⟨.Name y py, iter, [], 0⟩] scope pos) 0 (.ref I) (.ref D) (compEnvC scope ((y, C + 1) :: cl) C env)) (compPost (model prog w) A E none Q (.ref D) C) {s with heap := H4, toks := t₂} := by
    refine cl_one W (fun i h => Kpt s.heap h ∧ ∃ m ys vc, h.Ns C m ∧ h.IsCell (C + 1) vc ∧ h.get? D = some (LCg.lst ys) ∧ All2 IntE ys ((List.range i).map f) ∧ ys.length ≤ i) ?_ hst4 ⟨fun b o e => k24 b o (hk2 b o e), _, [], none, hns, hcell, hacc, .nil, Nat.le_refl _⟩ (fun _ _ _ _ _ s' Q' _ hq => wpAny_pure hq) ?_ ?_
    · rintro i h h' - hb ⟨k, m, ys, vc, a, ⟨oc, ec, dc⟩, b, c, d⟩
      exact ⟨fun q o e => hb q o (fun q' => by rw [q', hI0] at e; cases e) (k q o e), m, ys, vc, Ns_but a (c := I) (show @Ne Nat C I by omega) (fun q o hq e => hb q o hq e), ⟨oc, hb _ _ (show @Ne Nat (C + 1) I by omega) ec, dc⟩, hb D _ (show @Ne Nat D I by omega) b, c, d⟩
    · rintro i v h tk hi hP ⟨k, m, ys, vc, a, hc, b, c, d⟩ hs1
      refine wpAny_assign_Name (wpAny_storeName_cell (c := C + 1) hkind (hyc _ _) (by simp [compEnvC]) hc fun h' hc' sb => ?_)
      have hb : KptBut (C + 1) h h' := fun b o hb e => sb.extBut b o hb e
      have k' : Kpt s.heap h' := fun b o e => hb b o (have := hlt b o e; show @Ne Nat b (C + 1) by omega) (k b o e)
      unfold testsOf
      rw [List.forIn_nil]
      refine wpAny_pure ?_
      rw [if_pos rfl]
      refine wpAny_mono (turn i v h' tk C hi hP k' hc') (fun x s₅ h₅ => ?_) fun _ _ e => e
      obtain ⟨h'', tk', rfl, kk, hx⟩ := h₅
      have gD : h''.get? D = some (LCg.lst ys) := kk _ _ (hb _ _ (show @Ne Nat D (C + 1) by omega) b)
      refine append_at (s := {s with heap := h'', toks := tk'}) gD (fun h3 sb3 g3 => ?_) (by rw [List.size_toArray]; omega)
      have hb3 : KptBut D h'' h3 := fun q o hq e => sb3.extBut q o hq e
      obtain ⟨oc, ec, dc⟩ := hc'
      refine ⟨h3, tk', rfl, ⟨fun q o e => hb3 q o (have := hlt q o e; show @Ne Nat q D by omega) (kk _ _ (k' q o e)), m, ys ++ [x], _, (Ns_but a (c := C + 1) (show @Ne Nat C (C + 1) by omega) hb).at' fun o e => hb3 _ _ (show @Ne Nat C D by omega) (kk _ _ e), ⟨oc, hb3 _ _ (show @Ne Nat (C + 1) D by omega) (kk _ _ ec), dc⟩, by rw [g3]; exact congrArg some (LCg.lst_snoc ys x), ?_, by rw [List.length_append, List.length_singleton]; omega⟩, W.frame _ _ _ hs1 fun q hq o e => hb3 q o (have := hfp' q hq; show @Ne Nat q D by omega) (kk _ _ (hb q o (have := hfp' q hq; show @Ne Nat q (C + 1) by omega) e))⟩
      rw [List.range_succ, List.map_append]
      exact c.append (.cons hx .nil)
    · rintro h tk ⟨k, m, ys, vc, a, hc, b, c, d⟩
      refine ⟨m, a, fun h' sb => ?_⟩
      have hb : KptBut C h h' := fun q o hq e => sb.extBut q o hq e
      refine fin D ys h' tk (fun q o e => hb q o (have := hlt q o e; show @Ne Nat q C by omega) (k q o e)) (hb D _ (show @Ne Nat D C by omega) b) c ?_
      cases q : s.heap.get? D with
      | none => rfl
      | some o => exact absurd (hlt _ _ q) (Nat.lt_irrefl _)
  exact codeAny_compStart_list loop (W.self 0 _ _ _ hst4 loop)
end
end Mine
/-! part L1 -/
namespace Mine
open PySem PySem.W PyProof.Rows PySem.Calls PySem.Spec
theorem filled8 (w : World) (h₀ : Heap) : (hd.heap_39 w.params).In h₀ → PySem.Challenge.rw_ec5003_01 = PySem.Challenge.rw_ec5003_01 := by
  k_fill
  intro _; rfl
local macro_rules | `(tactic| walk_at "call ref") => `(tactic| (refine stop_in ?_))
local macro_rules | `(tactic| walk_at "callKw ref") => `(tactic| (refine stop_in ?_))
local macro_rules | `(tactic| walk_at "exec For Name Name cons nil") => `(tactic| (refine stop_in ?_))
local macro_rules | `(tactic| walk_at "exec For Name Call cons nil") => `(tactic| (refine stop_in ?_))
local macro_rules | `(tactic| walk_at "pyIter ref") => `(tactic| (refine stop_in ?_))
local macro_rules | `(tactic| walk_at "eval ListComp") => `(tactic| (refine stop_in ?_))
local macro_rules | `(tactic| walk_at "exec Assign cons ListComp") => `(tactic| (refine stop_in ?_))
local macro_rules | `(tactic| walk_at "call type:range") => `(tactic| (refine stop_in ?_))
local macro_rules | `(tactic| walk_at "call type:list") => `(tactic| (refine stop_in ?_))
local macro_rules | `(tactic| walk_at "subscriptTail Name Constant ref int") => `(tactic| (refine stop_in ?_))
local macro_rules | `(tactic| walk_at "subscriptTail Name BinOp ref int") => `(tactic| (refine stop_in ?_))
local macro_rules | `(tactic| walk_at "subscriptTail Name Name ref int") => `(tactic| (refine stop_in ?_))
local macro_rules | `(tactic| walk_at "subscriptTail Name Slice ref ref") => `(tactic| (refine stop_in ?_))
local macro_rules | `(tactic| walk_at "subscriptTail Subscript Constant ref int") => `(tactic| (refine stop_in ?_))
local macro_rules | `(tactic| walk_at "call builtin:len") => `(tactic| (refine stop_in ?_))
local macro_rules | `(tactic| walk_at "call builtin:list.insert") => `(tactic| (refine stop_in ?_))
local macro_rules | `(tactic| walk_at "binaryOp Add ref ref") => `(tactic| (refine stop_in ?_))
local macro_rules | `(tactic| walk_at "getMethod ref") => `(tactic| (refine stop_in ?_))
local macro_rules | `(tactic| walk_at "eval Name") => `(tactic| ((with_reducible refine' fnameC_C ?hc ?hv ?_ ?hk ?hx ?hd); (case hk => k_dflt rfl); (case hx => k_dflt rfl); (case hd => k_dflt decide); (case hc => k_dflt rfl); (case hv => k_dflt assumption)))
def InTurnL : Prop := True
local macro_rules | `(tactic| walk_at "newList") => `(tactic| ((rename InTurnL => hMk); (have hMk2 : InTurnL := hMk); refine stop_in ?_))
local macro_rules | `(tactic| walk_at "storeName") => `(tactic| ((rename InTurnL => hMk); (have hMk2 : InTurnL := hMk); refine stop_in ?_))
local macro_rules | `(tactic| walk_at "newTuple") => `(tactic| ((rename InTurnL => hMk); (have hMk2 : InTurnL := hMk); refine stop_in ?_))
local macro_rules | `(tactic| walk_at "eval Name") => `(tactic| ((with_reducible refine' fnameC_L ?kF ?hv ?_ ?hk ?hx ?hd); (case hk => k_dflt rfl); (case hx => k_dflt rfl); (case hd => k_dflt decide); (case kF => with_reducible assumption); (case hv => first | k_dflt exact rfl | with_reducible assumption | (k_dflt (simp (decide := true) only [↓reduceIte]); with_reducible assumption))))
local macro_rules | `(tactic| walk_at "eval Name") => `(tactic| ((with_reducible refine' cname_C ?hc ?hv ?_ ?hk ?hf ?hx ?he ?hd); (case hk => k_dflt rfl); (case hf => k_dflt rfl); (case hx => k_dflt rfl); (case he => k_dflt rfl); (case hd => k_dflt decide); (case hc => k_dflt rfl); (case hv => k_dflt assumption)))
local macro_rules | `(tactic| walk_at "eval Name") => `(tactic| ((with_reducible refine' cname_L ?hn ?hv ?_ ?hk ?hx ?hd); (case hk => k_dflt rfl); (case hx => k_dflt rfl); (case hd => k_dflt decide); (case hn => with_reducible assumption); (case hv => first | k_dflt exact rfl | with_reducible assumption | (k_dflt (simp (decide := true) only [↓reduceIte]); with_reducible assumption))))

structure Plain (g : Heap) (L' : Nat) (lim : Nat) (u : Tok) (l : Addr) (ws : List Int) (P : Nat) (i : Nat) (h : Heap) : Prop where
  fr : ∃ mL, Fr g L' h mL ∧ mL (Str.ofString "plain") = some (.ref P) ∧ mL (Str.ofString "weights") = some (.ref l) ∧ mL (Str.ofString "limit") = some (.int lim u)
  st : ∃ (n : Nat) (vs : List Value), h.get? P = some (listOf vs.toArray n) ∧ All2 (ItemN P h) vs (plainP ws i)
  c1 : ∃ v, h.IsCell (L' + 1) v
  c2 : ∃ v, h.IsCell (L' + 2) v
  c3 : ∃ v, h.IsCell (L' + 3) v
theorem Plain.but {g h h' : Heap} {L' lim : Nat} {u : Tok} {l : Addr} {ws : List Int} {P i : Nat} (x : Plain g L' lim u l ws P i h) {I : Nat} (hi : ∃ o, h.get? I = some o ∧ ¬ SeqO o) (hb : KptBut I h h') (h0 : g.get? I = none) (h1 : L' + 3 < I) (h2 : P < I) : Plain g L' lim u l ws P i h' := by
  obtain ⟨⟨mL, F, e1, e2, e3⟩, ⟨n, vs, gP, a⟩, ⟨v1, c1⟩, ⟨v2, c2⟩, ⟨v3, c3⟩⟩ := x
  obtain ⟨oi, hoi, hni⟩ := hi
  have hs : ∀ (b : Nat) o, SeqO o → h.get? b = some o → h'.get? b = some o := fun b o so e => hb b o (fun q => by rw [q, hoi] at e; cases e; exact hni so) e
  refine ⟨⟨mL, Fr_but F hb (show @Ne Nat I L' by omega) h0, e1, e2, e3⟩, ⟨n, vs, hb _ _ (by omega) gP, a.mono fun v x t => t.seq hs⟩, ⟨v1, ?_⟩, ⟨v2, ?_⟩, ⟨v3, ?_⟩⟩
  · obtain ⟨o, e, d⟩ := c1; exact ⟨o, hb _ _ (by omega) e, d⟩
  · obtain ⟨o, e, d⟩ := c2; exact ⟨o, hb _ _ (by omega) e, d⟩
  · obtain ⟨o, e, d⟩ := c3; exact ⟨o, hb _ _ (by omega) e, d⟩
structure Lev (g : Heap) (L' : Nat) (l : Addr) (ws : List Int) (P : Nat) (j : Nat) (h : Heap) : Prop where
  fr : ∃ mL, Fr g L' h mL ∧ mL (Str.ofString "plain") = some (.ref P) ∧ mL (Str.ofString "weights") = some (.ref l)
  pl : ∃ (n : Nat) (vs : List Value), h.get? P = some (listOf vs.toArray n) ∧ All2 (ItemN L' h) vs (plainP ws ws.length)
  rw' : ∃ (R n : Nat) (rs : List Value), h.IsCell (L' + 1) (some (.ref R)) ∧ h.get? R = some (listOf rs.toArray n) ∧ All2 (ItemN L' h) rs (rowP ws j)
  c2 : ∃ v, h.IsCell (L' + 2) v
  c3 : ∃ v, h.IsCell (L' + 3) v
theorem Lev.but {g h h' : Heap} {L' : Nat} {l : Addr} {ws : List Int} {P j : Nat} (x : Lev g L' l ws P j h) {I : Nat} (hi : ∃ o, h.get? I = some o ∧ ¬ SeqO o) (hb : KptBut I h h') (h0 : g.get? I = none) (h1 : L' + 3 < I) : Lev g L' l ws P j h' := by
  obtain ⟨⟨mL, F, e1, e2⟩, ⟨n, vs, gP, a⟩, ⟨R, nr, rs, ⟨o1, e3, d3⟩, gR, ar⟩, ⟨v2, c2⟩, ⟨v3, c3⟩⟩ := x
  obtain ⟨oi, hoi, hni⟩ := hi
  have hs : ∀ (b : Nat) o, SeqO o → h.get? b = some o → h'.get? b = some o := fun b o so e => hb b o (fun q => by rw [q, hoi] at e; cases e; exact hni so) e
  refine ⟨⟨mL, Fr_but F hb (show @Ne Nat I L' by omega) h0, e1, e2⟩, ⟨n, vs, hs _ _ ⟨_, _, rfl⟩ gP, a.mono fun v x t => t.seq hs⟩, ⟨R, nr, rs, ⟨o1, hb _ _ (by omega) e3, d3⟩, hs _ _ ⟨_, _, rfl⟩ gR, ar.mono fun v x t => t.seq hs⟩, ⟨v2, ?_⟩, ⟨v3, ?_⟩⟩
  · obtain ⟨o, e, d⟩ := c2; exact ⟨o, hb _ _ (by omega) e, d⟩
  · obtain ⟨o, e, d⟩ := c3; exact ⟨o, hb _ _ (by omega) e, d⟩
/-- an item made at lo or later -/
def EltI (lo : Nat) (h : Heap) (v : Value) (x : Int × List Int) : Prop :=
  ∃ (a b : Nat) (t : Tok) (n n' : Nat) (vs : List Value), v = .ref a ∧ lo ≤ a ∧ lo ≤ b ∧ h.get? a = some (listOf #[.int x.1 t, .ref b] n) ∧ h.get? b = some (listOf vs.toArray n') ∧ IntsAre vs x.2
theorem EltI.late (lo : Nat) : Late (EltI lo) lo := fun h h' v x hk ⟨a, b, t, n, n', vs, e, ha, hb, ga, gb, iv⟩ => ⟨a, b, t, n, n', vs, e, ha, hb, hk _ _ ha ⟨_, _, rfl⟩ ga, hk _ _ hb ⟨_, _, rfl⟩ gb, iv⟩
theorem EltI.is {lo c : Nat} (hc : c < lo) {h : Heap} {v : Value} {x : Int × List Int} : EltI lo h v x → ItemN c h v x := fun ⟨a, b, t, n, n', vs, e, ha, hb, ga, gb, iv⟩ => ⟨a, b, t, n, n', vs, e, by omega, by omega, ga, gb, iv⟩
structure Inn (g : Heap) (L' : Nat) (l : Addr) (P R : Nat) (plain : List (Int × List Int)) (ms : List Value) (pk : List (Int × List Int)) (Il : Nat) (il1 il2 : Int) (q : Nat) (h : Heap) : Prop where
  fr : ∃ mL, Fr g L' h mL ∧ mL (Str.ofString "plain") = some (.ref P) ∧ mL (Str.ofString "weights") = some (.ref l)
  pl : ∃ (n : Nat) (vs : List Value), h.get? P = some (listOf vs.toArray n) ∧ All2 (ItemN R h) vs plain
  cr : h.IsCell (L' + 1) (some (.ref R))
  rw' : ∃ (n : Nat) (rs : List Value), h.get? R = some (listOf rs.toArray n) ∧ All2 (ItemN R h) rs ((pk.take q).foldl insP plain)
  ms : All2 (ItemN R h) ms pk
  c2 : ∃ v, h.IsCell (L' + 2) v
  c3 : ∃ v, h.IsCell (L' + 3) v
  lev : IsRangeIter h Il il1 il2 1
theorem Inn.but {g h h' : Heap} {L' : Nat} {l : Addr} {P R : Nat} {plain : List (Int × List Int)} {ms : List Value} {pk : List (Int × List Int)} {Il : Nat} {il1 il2 : Int} {q : Nat} (x : Inn g L' l P R plain ms pk Il il1 il2 q h) {I : Nat} (hi : ∃ o, h.get? I = some o ∧ ¬ SeqO o) (hb : KptBut I h h') (h0 : g.get? I = none) (h1 : L' + 3 < I) (h2 : Il < I) : Inn g L' l P R plain ms pk Il il1 il2 q h' := by
  obtain ⟨⟨mL, F, e1, e2⟩, ⟨n, vs, gP, a⟩, ⟨o1, e3, d3⟩, ⟨nr, rs, gR, ar⟩, am, ⟨v2, c2⟩, ⟨v3, c3⟩, lv⟩ := x
  obtain ⟨oi, hoi, hni⟩ := hi
  have hs : ∀ (b : Nat) o, SeqO o → h.get? b = some o → h'.get? b = some o := fun b o so e => hb b o (fun q => by rw [q, hoi] at e; cases e; exact hni so) e
  refine ⟨⟨mL, Fr_but F hb (show @Ne Nat I L' by omega) h0, e1, e2⟩, ⟨n, vs, hs _ _ ⟨_, _, rfl⟩ gP, a.mono fun v x t => t.seq hs⟩, ⟨o1, hb _ _ (by omega) e3, d3⟩, ⟨nr, rs, hs _ _ ⟨_, _, rfl⟩ gR, ar.mono fun v x t => t.seq hs⟩, am.mono fun v x t => t.seq hs, ⟨v2, ?_⟩, ⟨v3, ?_⟩, hb _ _ (by omega) lv⟩
  · obtain ⟨o, e, d⟩ := c2; exact ⟨o, hb _ _ (by omega) e, d⟩
  · obtain ⟨o, e, d⟩ := c3; exact ⟨o, hb _ _ (by omega) e, d⟩
/-- how often an index stands in the taken packages -/
def lensP (t : List (Int × List Int)) (place : Nat) : Int := ((t.flatMap fun x => x.2.flatMap fun k => if k = (place : Int) then [k] else []).length : Nat)
theorem cnt_len {k : Nat} (p : Int) : ∀ {t : List (Int × List Int)}, Short k t → (t.flatMap fun x => x.2.flatMap fun y => if y = p then [y] else []).length ≤ t.length * k
  | [], _ => Nat.zero_le _
  | x :: r, h => by
    have ih := cnt_len p (t := r) fun y hy => h y (.tail _ hy)
    have h1 : ∀ (l : List Int), (l.flatMap fun y => if y = p then [y] else []).length ≤ l.length := by
      intro l
      induction l with
      | nil => exact Nat.zero_le _
      | cons a l ih =>
        rw [List.flatMap_cons, List.length_append, List.length_cons]
        have : (if a = p then [a] else []).length ≤ 1 := by split <;> simp
        omega
    rw [List.flatMap_cons, List.length_append, List.length_cons, Nat.succ_mul]
    have := h1 x.2
    have := h x (.head _)
    omega
theorem All2.intsL : ∀ {ys : List Value} {xs : List Int}, All2 IntE ys xs → IntsAre ys xs
  | _, _, .nil => .nil
  | _, _, .cons ⟨t, e⟩ r => e ▸ .cons _ t (All2.intsL r)
theorem storeC_L {M : Model} {A : Around} {E : Value → Shared → Prop} {s : Shared} {h₀ : Heap} {L a : Addr} {m : Str → Option Value} {cn : Str} {cs : Scope} {ccd : Value} {x : Str} {v : Value} {Q : Unit → Shared → Prop} (F : Fr h₀ L s.heap m)
    (h : ∀ h' tk, Fr h₀ L h' (fun y => if y = x then some v else m y) → KptBut L s.heap h' → Q () { s with heap := h', toks := tk })
    (hk : cs.kind = .function) (hx : (envOfC cn cs L a ccd).kindOf x = some .local) : wpAny M A (storeName (envOfC cn cs L a ccd) x v) Q E s :=
  wpAny_storeName_local hx F.ns (fun h' hn hs => h h' _ (F.set hn hs) fun b o hb e => hs.extBut b o hb e) (by show (cs.kind == .class || (cs.kind == .module && L != mainGlobals)) = false; rw [hk]; rfl)
theorem lengths_spec {w : World} {p : Program} {loose : List Str} {mean : ExcName → Option Value} {mg mb : Str → Option Value} {dp un : Nat} {gd : Option (List Code)} {cn : Str} {cs : Scope} {a : Addr} {ccd : Value} {cl : List (Str × Addr)} {outer : List Env} {A₀ : Around} {base h₀ : Heap} {L : Addr} {m : Str → Option Value} {s : Shared} {Q E : Value → Shared → Prop}
  {l : Addr} {its : Array Value} {n : Nat} {ws : List Int} {lim : Nat} {u : Tok}
  (B : Below A₀ base outer h₀) (F : Fr h₀ L s.heap m) (X : (hd.heap_39 w.params).In h₀) (T : Top p loose mean mg mb h₀) (hk : cs.kind = .function)
  (hl : s.heap.get? l = some (listOf its n)) (hi : IntsAre its.toList ws)
  (hz : ws.length ≤ 5) (hz0 : 2 ≤ ws.length) (hlim : lim ≤ 4) (hlim0 : 1 ≤ lim) (hdp : dp + 5 < recursionLimit) (hun : un + 40 < cLine)
  (hret : ∀ (D : Nat) ys n h' tk', Kp s.heap h' → h'.get? D = some (listOf (List.toArray ys) n) → IntsAre ys ((List.range ws.length).map (lensP ((rowP ws (lim - 1)).take (2 * ws.length - 2)))) → s.heap.get? D = none → Q (.ref D) {s with heap := h', toks := tk'}) :
  wpAny (model PySem.Challenge.rw_ec5003_01.row.prog w) (ktrTop dp un gd cn cs L a ccd cl outer) (call (.ref 44) [.ref l, .int lim u]) Q E s := by
  refine wpAny_call ?_
  refine' enterC ?k1 ?k2 ?k3 ?k5 ?kA ?kF ?kK ?k6 ?k7 ?k8 ?k9 ?kB ?kN ?_ ?c2 ?c3 ?c4
  (case kA => exact rfl)
  (case kF => exact rfl)
  (case kK => exact hk)
  (case k1 => exact B)
  (case k2 => exact F)
  (case k3 => exact X)
  (case k5 => exact T)
  (case k6 => k_is)
  (case k7 => k_is)
  (case k8 => ktr_room)
  (case k9 => exact kp_binds (X.keeps F.keep) (fun _ => rfl))
  (case kB => exact kindsX rfl)
  (case kN => decide)
  (case c2 => exact rfl)
  (case c3 => exact rfl)
  (case c4 => exact rfl)
  k_whole
  intro g L' h₁ tk cells eg eL F' N' Y B' X' T'
  k_cells Y
  k_unmd
  dsimp only
  k_fold
  have hgk : Kp s.heap g := by rw [eg]; exact fun _ _ e => e
  have hg : g.IsList l its.toList.toArray := by rw [Array.toArray_toList]; exact ⟨_, hgk _ _ hl, rfl, _, rfl⟩
  k_unmd
  k_steps
  refine Stop.out ?_
  rename_i o3 o2 o1 d3 d2 d1 P h2 l2 h4 F4 N4
  have n1 := N4 _ (.head _)
  have n2 := N4 _ (.tail _ (.head _))
  have n3 := N4 _ (.tail _ (.tail _ (.head _)))
  have n4 := N4 _ (.tail _ (.tail _ (.tail _ (.head _))))
  refine for_raw ?_
  k_unmd
  k_steps
  refine Stop.out ?_
  have esz : its.toList.toArray.size = ws.length := by rw [List.size_toArray, hi.length]
  refine len_list (hg.at fun o e => F4.keep _ _ e) (by rw [esz]; omega) ?_
  k_unmd
  k_steps
  refine Stop.out ?_
  rw [esz]
  refine range1_raw fun h5 R5 tk5 t5 v5 k5 s5 s5' r5 => ?_
  k_unmd
  k_steps
  refine Stop.out ?_
  refine iter_range_raw r5 (range0 (by omega)).1 (range0 (by omega)).2 fun h6 I6 k6 s6 s6' st6 => ?_
  have kk6 : Kpt h4 h6 := fun b o e => k6 _ _ (k5 _ _ e)
  have ltI6 : ∀ (b : Nat) o, h4.get? b = some o → b < I6 := fun b o e => by rw [← s6]; exact Heap.lt_size (k5 _ _ e)
  have hgI : g.get? I6 = none := by
    cases q : g.get? I6 with
    | none => rfl
    | some o => exact absurd (ltI6 _ _ (F4.keep _ _ q)) (Nat.lt_irrefl _)
  have iP : @LT.lt Nat _ P I6 := ltI6 _ _ n1.1
  have i3 : @LT.lt Nat _ (L' + 3) I6 := ltI6 _ _ n2.1
  have pL : @LT.lt Nat _ (L' + 3) P := l2.1
  refine ⟨I6, [I6], ws.length, _, _, Plain g L' lim u l ws P, rfl, LCg.range_walks (by rfl) 0 ws.length, st6, ?j0, ?stab, ?turn, ?fin⟩
  case j0 =>
    have F6 := F4.keeps kk6
    exact ⟨⟨_, F6, rfl, rfl, rfl⟩, ⟨0, [], kk6 _ _ n1.1, .nil⟩, ⟨_, o1, kk6 _ _ n4.1, d1⟩, ⟨_, o2, kk6 _ _ n3.1, d2⟩, ⟨_, o3, kk6 _ _ n2.1, d3⟩⟩
  case stab => exact fun i h h' st hb x => x.but (range_notSeq st) hb hgI i3 iP
  case turn =>
    rintro i v h7 tk7 hi7 ⟨t7, rfl⟩ ⟨⟨mL, F7, e7, ew, el⟩, ⟨n7, vs, g7, a7⟩, c1, c2, c3⟩ st7
    refine wpAny_assign_Name (storeC_L F7 (fun h8 tk8 F8 hb8 => ?_) (by rfl) (by rfl))
    have mk : InTurnL := trivial
    k_unmd
    k_steps
    refine Stop.out ?_
    obtain ⟨tw, hw⟩ : ∃ tw, its.toList.toArray[i]? = some (.int (ws.getD i 0) tw) := by
      obtain ⟨tw, hw⟩ := hi.get i (ws.getD i 0) (by rw [List.getD_eq_getElem?_getD, List.getElem?_eq_getElem hi7]; rfl)
      exact ⟨tw, by simpa using hw⟩
    refine item_raw (v := .int (ws.getD i 0) tw) (hg.at fun o e => F8.keep _ _ e) (by omega) (by omega) (by rw [show (0 + (i : Int)).toNat = i by omega]; exact hw) ?_
    k_unmd
    k_steps
    refine Stop.out ?_
    refine list_raw (by show 1 ≤ sizeLine; rw [sizeLine_eq]; decide) fun h9 D9 k9 s9 s9' g9 => ?_
    have F9 := F8.keeps k9
    clear F8
    k_unmd
    k_steps
    refine Stop.out ?_
    refine list_raw (by show 2 ≤ sizeLine; rw [sizeLine_eq]; decide) fun h10 D10 k10 s10 s10' g10 => ?_
    have F10 := F9.keeps k10
    clear F9
    rename InTurnL => mk3
    clear mk3
    k_unmd
    k_steps
    refine Stop.out ?_
    have hPL : @Ne Nat P L' := by omega
    have k810 : Kpt h8 h10 := fun b o e => k10 _ _ (k9 _ _ e)
    have g8 : h8.get? P = some (listOf vs.toArray n7) := hb8 _ _ hPL g7
    have a8 : All2 (ItemN P h8) vs (plainP ws i) := a7.mono fun v x t => t.seq fun b o so e => hb8 b o (fun q => by
      obtain ⟨oL, es, ep, hL, hLd, -⟩ := F7.ns
      rw [q, hL] at e; cases e
      obtain ⟨x, n, so⟩ := so
      rw [hLd] at so; cases so) e
    have gP0 : g.get? P = none := n1.2.2
    have lv := a8.length
    have lp := plainP_length ws i
    have lt9 : ∀ (b : Nat) o, h8.get? b = some o → b < D9 := fun b o e => by rw [← s9]; exact Heap.lt_size e
    have lt10 : ∀ (b : Nat) o, h9.get? b = some o → b < D10 := fun b o e => by rw [← s10]; exact Heap.lt_size e
    have p9 := lt9 _ _ g8
    have p10 := lt10 _ _ g9
    have a10 : All2 (ItemN P h10) vs (plainP ws i) := a8.mono fun v x t => t.keep k810
    have new10 : ItemN P h10 (.ref D10) (ws.getD i 0, [(i : Int)]) := by
      refine ⟨D10, D9, _, _, _, [.int (0 + (i : Int)) _], rfl, by omega, by omega, g10, k10 _ _ g9, ?_⟩
      rw [Int.zero_add]
      exact .cons _ _ .nil
    refine insort_key B' F10 X' (fun p hp => by rcases List.mem_singleton.mp hp with rfl; exact ⟨k810 _ _ g8, hPL, gP0⟩) T' (by rfl) (ks := (plainP ws i).map (·.1)) (by rw [List.size_toArray, List.length_map, lv]) ?hel new10.wt.1 new10.wt.2 (by rw [List.length_map, lp]; omega) (by show dp + 1 + 3 < recursionLimit; omega) (by show un + 3 + 24 < cLine; omega) fun h11 tk11 kb11 g11 => ?_
    case hel =>
      intro j v hv
      obtain ⟨x, hx, it⟩ := a10.at' j v (by simpa using hv)
      exact ⟨x.1, by rw [List.getElem?_map, hx]; rfl, it.wt.1, it.wt.2⟩
    have kb : KptBut P h10 h11 := kb11
    have F11 := Fr_but F10 kb hPL gP0
    clear F10
    k_unmd
    k_steps
    · exact .inl rfl
    · have up : ∀ (b : Nat) o, b ≠ L' → b ≠ P → h7.get? b = some o → h11.get? b = some o := fun b o q1 q2 e => kb _ _ q2 (k810 _ _ (hb8 _ _ q1 e))
      refine ⟨h11, _, rfl, ⟨⟨_, F11, ?_, ?_, ?_⟩, ⟨_, _, g11, ?_⟩, ?_, ?_, ?_⟩, ?_⟩
      · show (if Str.ofString "plain" = Str.ofString "k" then _ else mL _) = _; rw [if_neg (by decide)]; exact e7
      · show (if Str.ofString "weights" = Str.ofString "k" then _ else mL _) = _; rw [if_neg (by decide)]; exact ew
      · show (if Str.ofString "limit" = Str.ofString "k" then _ else mL _) = _; rw [if_neg (by decide)]; exact el
      · rw [plainP_succ, List.length_map]
        exact All2.ins (x := (ws.getD i 0, [(i : Int)])) (a10.mono fun v x t => t.but kb) (new10.but kb)
      · obtain ⟨v, o, e, d⟩ := c1; exact ⟨v, o, up _ _ (by omega) (by omega) e, d⟩
      · obtain ⟨v, o, e, d⟩ := c2; exact ⟨v, o, up _ _ (by omega) (by omega) e, d⟩
      · obtain ⟨v, o, e, d⟩ := c3; exact ⟨v, o, up _ _ (by omega) (by omega) e, d⟩
      · exact up _ _ (by omega) (by omega) st7
  case fin =>
    rintro h12 tk12 ⟨⟨mL, F12, e12, ew, el⟩, ⟨n12, vs, g12, a12⟩, ⟨v1, c1⟩, c2, c3⟩
    clear F4 N4
    have lv := a12.length
    have lp := plainP_length ws ws.length
    have mk : InTurnL := trivial
    k_unmd
    k_steps
    refine Stop.out ?_
    refine copy_raw g12 (by rw [List.size_toArray, lv, lp, sizeLine_eq]; omega) fun h13 R c13 k13 s13 g13 => ?_
    have F13 := F12.keeps k13
    have c113 : h13.IsCell (L' + 1) v1 := by obtain ⟨o, e, d⟩ := c1; exact ⟨o, k13 _ _ e, d⟩
    k_unmd
    k_steps
    refine Stop.out ?_
    refine wpAny_storeName_cell (by rfl) (by rfl) (by rfl) c113 fun h14 c114 sb14 => ?_
    have hb14 : KptBut (L' + 1) h13 h14 := fun b o hb e => sb14.extBut b o hb e
    have F14 := Fr_but F13 hb14 (by show @Ne Nat (L' + 1) L'; omega) n4.2.2
    clear F12 F13
    k_unmd
    k_steps
    refine Stop.out ?_
    refine for_raw ?_
    k_unmd
    k_steps
    refine Stop.out ?_
    rw [show ((lim : Int) - 1) = ((lim - 1 : Nat) : Int) by omega]
    refine range1_raw fun h15 R15 tk15 t15 v15 k15 s15 s15' r15 => ?_
    rename InTurnL => mk3
    clear mk3
    k_unmd
    k_steps
    refine Stop.out ?_
    refine iter_range_raw r15 (range0 (by omega)).1 (range0 (by omega)).2 fun h16 I16 k16 s16 s16' st16 => ?_
    have kk16 : Kpt h14 h16 := fun b o e => k16 _ _ (k15 _ _ e)
    have ltI16 : ∀ (b : Nat) o, h14.get? b = some o → b < I16 := fun b o e => by rw [← s16]; exact Heap.lt_size (k15 _ _ e)
    have hgI16 : g.get? I16 = none := by
      cases q : g.get? I16 with
      | none => rfl
      | some o => exact absurd (ltI16 _ _ (F14.keep _ _ q)) (Nat.lt_irrefl _)
    have nS : ∀ {h h' : Heap} {c : Nat} {v : Option Value}, h.IsCell c v → KptBut c h h' → ∀ (b : Nat) o, SeqO o → h.get? b = some o → h'.get? b = some o := fun {h h' c v} hc hb b o so e => hb b o (fun q => by
      obtain ⟨o', e', d⟩ := hc
      rw [q, e'] at e; cases e
      obtain ⟨x, n, so⟩ := so
      rw [d] at so; cases so) e
    have gP14 : h14.get? P = some (listOf vs.toArray n12) := nS c113 hb14 _ _ ⟨_, _, rfl⟩ (k13 _ _ g12)
    have gR14 : h14.get? R = some (listOf vs.toArray c13) := nS c113 hb14 _ _ ⟨_, _, rfl⟩ g13
    have a14 : All2 (ItemN L' h14) vs (plainP ws ws.length) := a12.mono fun v x t => by
      obtain ⟨a, b, t, n, n', vs, e, ha, hb, ga, gb, iv⟩ := (t.keep k13).seq (nS c113 hb14)
      obtain ⟨oL, es, ep, hL, hLd, -⟩ := F14.ns
      refine ⟨a, b, t, n, n', vs, e, fun q => ?_, fun q => ?_, ga, gb, iv⟩
      · rw [q, hL] at ga; cases ga; cases hLd
      · rw [q, hL] at gb; cases gb; cases hLd
    have i316 : @LT.lt Nat _ (L' + 3) I16 := by
      obtain ⟨v3, o, e, d⟩ := c3
      exact ltI16 _ o (hb14 _ _ (show @Ne Nat (L' + 3) (L' + 1) by omega) (k13 _ _ e))
    refine ⟨I16, [I16], lim - 1, _, _, Lev g L' l ws P, rfl, LCg.range_walks (by rfl) 0 (lim - 1), st16, ?j0, ?stab, ?turn, ?fin⟩
    case j0 =>
      refine ⟨⟨_, F14.keeps kk16, e12, ew⟩, ⟨_, _, kk16 _ _ gP14, a14.mono fun v x t => t.keep kk16⟩, ⟨R, _, vs, ?_, kk16 _ _ gR14, a14.mono fun v x t => t.keep kk16⟩, ?_, ?_⟩
      · obtain ⟨o, e, d⟩ := c114; exact ⟨o, kk16 _ _ e, d⟩
      · obtain ⟨v, o, e, d⟩ := c2; exact ⟨v, o, kk16 _ _ (hb14 _ _ (show @Ne Nat (L' + 2) (L' + 1) by omega) (k13 _ _ e)), d⟩
      · obtain ⟨v, o, e, d⟩ := c3; exact ⟨v, o, kk16 _ _ (hb14 _ _ (show @Ne Nat (L' + 3) (L' + 1) by omega) (k13 _ _ e)), d⟩
    case stab => exact fun i h h' st hb x => x.but (range_notSeq st) hb hgI16 i316
    case turn =>
      clear F14 lv
      rintro j v h17 tk17 hj17 ⟨t17, rfl⟩ ⟨⟨mL, F17, e17, ew17⟩, ⟨nP, vs, gP, aP⟩, ⟨R, nR, rs, cR, gR, aR⟩, c2, c3⟩ st17
      refine wpAny_assign_Name (storeC_L F17 (fun h18 tk18 F18 hb18 => ?_) (by rfl) (by rfl))
      have nL : ∀ (b : Nat) o, SeqO o → h17.get? b = some o → h18.get? b = some o := fun b o so e => hb18 b o (fun q => by
        obtain ⟨oL, es, ep, hL, hLd, -⟩ := F17.ns
        rw [q, hL] at e; cases e
        obtain ⟨x, n, so⟩ := so
        rw [hLd] at so; cases so) e
      have cR18 : h18.IsCell (L' + 1) (some (.ref R)) := by obtain ⟨o, e, d⟩ := cR; exact ⟨o, hb18 _ _ (show @Ne Nat (L' + 1) L' by omega) e, d⟩
      have gR18 := nL _ _ ⟨_, _, rfl⟩ gR
      have gP18 := nL _ _ ⟨_, _, rfl⟩ gP
      have aR18 : All2 (ItemN L' h18) rs (rowP ws j) := aR.mono fun v x t => t.seq nL
      have aP18 : All2 (ItemN L' h18) vs (plainP ws ws.length) := aP.mono fun v x t => t.seq nL
      have lR := aR18.length
      have lR2 := rowP_length ws j
      have sR := rowP_short ws j
      have lRs : rs.toArray.size = (rowP ws j).length := by rw [List.size_toArray, lR]
      clear F17
      k_unmd
      k_steps
      refine Stop.out ?_
      refine comp1_asg (α := Int × List Int) (Elt := EltI) EltI.late (cl := [(Str.ofString "row", L' + 1)]) (by with_unfolding_all rfl) (by rfl) (by with_unfolding_all rfl) (by decide) (by rfl) (by decide) (by intro _; rfl) (by rfl) (by rfl) F18.ns ?_
      k_unmd
      k_steps
      refine Stop.out ?_
      refine len_list (items := rs.toArray) ⟨_, gR18, rfl, _, rfl⟩ (by rw [lRs]; omega) ?_
      k_unmd
      k_steps
      refine Stop.out ?_
      rw [lRs]
      have dvp : Builtin.divisionGoesByPylong (((rowP ws j).length : Int) - 1 - 0) 2 = false := PyProof.noPylong_small (by omega)
      refine range3_raw (by decide) dvp fun h19 R19 k19 s19 s19' r19 => ?_
      k_unmd
      k_steps
      refine Stop.out ?_
      have r2 := range2_row (rowP ws j).length (by omega) (by omega)
      refine iter_range3_raw r19 r2.1 r2.2 fun h20 I20 k20 s20 s20' st20 => ?_
      have kk20 : Kpt h18 h20 := fun b o e => k20 _ _ (k19 _ _ e)
      have ltI20 : ∀ (b : Nat) o, h18.get? b = some o → b < I20 := fun b o e => by rw [← s20]; exact Heap.lt_size (k19 _ _ e)
      refine ⟨I20, [I20], (rowP ws j).length / 2, _, _, fun q => [pairP (rowP ws j) q], h20, _, rfl, rfl, Walks.range (by rfl) I20 0 2 _, st20, ?fp20, kk20, ?i20, by rw [s20']; exact Nat.lt_succ_self _, by rw [sizeLine_eq]; omega, fun _ _ _ _ _ s' Q' _ hq => wpAny_pure hq, ?turn20, ?fin20⟩
      case fp20 =>
        intro b hb
        rw [List.mem_singleton.mp hb, s20']; exact Nat.lt_succ_self _
      case i20 =>
        cases q : h18.get? I20 with
        | none => rfl
        | some o => exact absurd (ltI20 _ _ q) (Nat.lt_irrefl _)
      case turn20 =>
        rintro q v h21 tk21 C m21 hq21 ⟨t21, rfl⟩ k21 n21 c210
        refine assign_one (by rfl) (by rfl) n21 fun h22 tk22 hb22 n22 => ?_
        have n22' : h22.Ns C _ := n22
        have kk22 : KptBut C h21 h22 := hb22
        have k22 : Kpt h18 h22 := fun q o e => kk22 q o (fun q' => by rw [q', c210] at e; cases e) (k21 q o e)
        have cR22 : h22.IsCell (L' + 1) (some (.ref R)) := by obtain ⟨o, e, d⟩ := cR18; exact ⟨o, k22 _ _ e, d⟩
        have gR22 : h22.IsList R rs.toArray := ⟨_, k22 _ _ gR18, rfl, _, rfl⟩
        refine tests_nil ?_
        rw [if_pos rfl]
        have mk : InTurnL := trivial
        clear n22
        k_unmd
        k_steps
        have hq2 : 2 * q + 1 < (rowP ws j).length := by omega
        have tx : ∀ r, r < (rowP ws j).length → ItemN L' h22 (rs.getD r .none) ((rowP ws j).getD r I0) ∧ rs.toArray[r]? = some (rs.getD r .none) := fun r hr => by
          have hr' : r < rs.length := by omega
          have e : rs[r]? = some (rs.getD r .none) := by simp [List.getD_eq_getElem?_getD, hr']
          exact ⟨(aR18.at I0 r _ e).1.keep k22, by simpa using e⟩
        obtain ⟨⟨A1, B1, t1, n1', m1, us1, e1, -, -, gA1, gB1, iv1⟩, x1⟩ := tx (2 * q) (by omega)
        obtain ⟨⟨A2, B2, t2, n2', m2, us2, e2, -, -, gA2, gB2, iv2⟩, x2⟩ := tx (2 * q + 1) (by omega)
        rw [e1] at x1
        rw [e2] at x2
        have lu1 : us1.length ≤ 2 ^ j := by rw [iv1.length]; exact getD_short sR _
        have lu2 : us2.length ≤ 2 ^ j := by rw [iv2.length]; exact getD_short sR _
        have j4 : (2 : Nat) ^ j ≤ 2 ^ 4 := Nat.pow_le_pow_right (by decide) (by omega)
        refine Stop.out ?_
        refine item_raw (v := .ref A1) gR22 (by omega) (by omega) (by rw [show (0 + (q : Int) * 2).toNat = 2 * q by omega]; exact x1) ?_
        k_unmd
        k_steps
        refine Stop.out ?_
        refine item_raw (v := .int ((rowP ws j).getD (2 * q) I0).1 t1) ⟨_, gA1, rfl, _, rfl⟩ (by decide) (by decide) rfl ?_
        k_unmd
        k_steps
        refine Stop.out ?_
        refine item_raw (v := .ref A2) gR22 (by omega) (by omega) (by rw [show (0 + (q : Int) * 2 + 1).toNat = 2 * q + 1 by omega]; exact x2) ?_
        k_unmd
        k_steps
        refine Stop.out ?_
        refine item_raw (v := .int ((rowP ws j).getD (2 * q + 1) I0).1 t2) ⟨_, gA2, rfl, _, rfl⟩ (by decide) (by decide) rfl ?_
        k_unmd
        k_steps
        refine Stop.out ?_
        refine item_raw (v := .ref A1) gR22 (by omega) (by omega) (by rw [show (0 + (q : Int) * 2).toNat = 2 * q by omega]; exact x1) ?_
        k_unmd
        k_steps
        refine Stop.out ?_
        refine item_raw (v := .ref B1) ⟨_, gA1, rfl, _, rfl⟩ (by decide) (by decide) rfl ?_
        k_unmd
        k_steps
        refine Stop.out ?_
        refine item_raw (v := .ref A2) gR22 (by omega) (by omega) (by rw [show (0 + (q : Int) * 2 + 1).toNat = 2 * q + 1 by omega]; exact x2) ?_
        k_unmd
        k_steps
        refine Stop.out ?_
        refine item_raw (v := .ref B2) ⟨_, gA2, rfl, _, rfl⟩ (by decide) (by decide) rfl ?_
        k_unmd
        k_steps
        refine Stop.out ?_
        refine add_raw gB1 gB2 (Nat.le_trans (Nat.add_le_add (Nat.le_trans lu1 j4) (Nat.le_trans lu2 j4)) (by rw [sizeLine_eq]; decide)) fun h23 D23 k23 s23 s23' g23 => ?_
        k_unmd
        k_steps
        refine Stop.out ?_
        refine list_raw (by show 2 ≤ sizeLine; rw [sizeLine_eq]; decide) fun h24 D24 k24 s24 s24' g24 => ?_
        k_unmd
        k_steps
        have hC22 : @LT.lt Nat _ C h22.objs.size := n22'.lt
        have e23 : @Eq Nat h22.objs.size D23 := s23
        have e24 : @Eq Nat h23.objs.size D24 := s24
        have d23 : C + 1 ≤ D23 := e23 ▸ hC22
        have d24 : C + 1 ≤ D24 := Nat.le_trans d23 (by rw [← e24, s23']; exact Nat.le_succ _)
        exact ⟨h24, _, _, rfl, fun b o hb e => k24 _ _ (k23 _ _ (kk22 b o hb e)), n22'.at' fun o e => k24 _ _ (k23 _ _ e), pairP (rowP ws j) q, rfl, D24, D23, _, _, _, us1 ++ us2, rfl, d24, d23, g24, k24 _ _ g23, IntsAre_app iv1 iv2⟩
      case fin20 =>
        rintro DM ms h25 tk25 ⟨kb25, n25⟩ gM aM DM0
        have kb : KptBut L' h18 h25 := kb25
        have n25' : h25.Ns L' _ := n25
        have F25 : Fr g L' h25 _ := ⟨n25', fun b o e => kb b o (by have q1 : @LT.lt Nat _ b g.objs.size := Heap.lt_size e; rw [eL]; exact Nat.ne_of_lt q1) (F18.keep b o e), F18.above⟩
        have nL25 : ∀ (b : Nat) o, SeqO o → h18.get? b = some o → h25.get? b = some o := fun b o so e => kb b o (fun q => by
          obtain ⟨oL, es, ep, hL, hLd, -⟩ := F18.ns
          rw [q, hL] at e; cases e
          obtain ⟨x, n, so⟩ := so
          rw [hLd] at so; cases so) e
        have gP25 := nL25 _ _ ⟨_, _, rfl⟩ gP18
        have aP25 : All2 (ItemN L' h25) vs (plainP ws ws.length) := aP18.mono fun v x t => t.seq nL25
        have cR25 : h25.IsCell (L' + 1) (some (.ref R)) := by obtain ⟨o, e, d⟩ := cR18; exact ⟨o, kb _ _ (show @Ne Nat (L' + 1) L' by omega) e, d⟩
        have eM : (List.range ((rowP ws j).length / 2)).flatMap (fun q => [pairP (rowP ws j) q]) = pairsP (rowP ws j) := flat_one _ _
        rw [eM] at aM
        have lP := aP25.length
        have lPl := plainP_length ws ws.length
        have DL : @Ne Nat DM L' := fun q => by
          obtain ⟨oL, es, ep, hL, hLd, -⟩ := F18.ns
          have e : h18.get? L' = none := q ▸ DM0
          rw [hL] at e; cases e
        have aM25 : All2 (ItemN L' h25) ms (pairsP (rowP ws j)) := aM.mono fun v x t => by
          obtain ⟨a, b, t, n, n', vs, e, ha, hb, ga, gb, iv⟩ := t
          obtain ⟨oL, es, ep, hL, hLd, -⟩ := F25.ns
          refine ⟨a, b, t, n, n', vs, e, fun q => ?_, fun q => ?_, ga, gb, iv⟩
          · rw [q, hL] at ga; cases ga; cases hLd
          · rw [q, hL] at gb; cases gb; cases hLd
        have mk : InTurnL := trivial
        clear F18
        k_unmd
        k_steps
        refine Stop.out ?_
        refine copy_raw gP25 (by rw [List.size_toArray, lP, lPl, sizeLine_eq]; omega) fun h26 R' c26 k26 s26 g26 => ?_
        have F26 := F25.keeps k26
        have cR26 : h26.IsCell (L' + 1) (some (.ref R)) := by obtain ⟨o, e, d⟩ := cR25; exact ⟨o, k26 _ _ e, d⟩
        k_unmd
        k_steps
        refine Stop.out ?_
        refine wpAny_storeName_cell (by rfl) (by rfl) (by rfl) cR26 fun h27 cR27 sb27 => ?_
        have hb27 : KptBut (L' + 1) h26 h27 := fun b o hb e => sb27.extBut b o hb e
        have F27 := Fr_but F26 hb27 (by show @Ne Nat (L' + 1) L'; omega) n4.2.2
        have hgR : g.get? R' = none := by
          cases q : g.get? R' with
          | none => rfl
          | some o => exact absurd (Heap.lt_size (F25.keep _ _ q)) (by rw [s26]; exact Nat.lt_irrefl _)
        clear F25 F26
        k_unmd
        k_steps
        refine Stop.out ?_
        rename InTurnL => mk3
        clear mk3
        have s26' : @Eq Nat h25.objs.size R' := s26
        have hR0 : h25.get? R' = none := by
          cases q : h25.get? R' with
          | none => rfl
          | some o => exact absurd (Heap.lt_size q) (by rw [s26]; exact Nat.lt_irrefl _)
        have nS27 := nS cR26 hb27
        have up25 : ∀ (b : Nat) o, b ≠ L' → h17.get? b = some o → b < R' := fun b o q1 e => by
          have e2 := kb b o q1 (hb18 b o q1 e)
          have := Heap.lt_size e2
          rw [s26] at this; exact this
        have hR3 : @LT.lt Nat _ (L' + 3) R' := by obtain ⟨v, o, e, d⟩ := c3; exact up25 _ _ (show @Ne Nat (L' + 3) L' by omega) e
        have hIR : @LT.lt Nat _ I16 R' := up25 _ _ (show @Ne Nat I16 L' by omega) st17
        have tr : ∀ {v : Value} {x : Int × List Int}, ItemN L' h25 v x → ItemN R' h27 v x := fun t => ((t.fresh hR0).keep k26).seq nS27
        have gM27 : h27.IsList DM ms.toArray := ⟨_, nS27 _ _ ⟨_, _, rfl⟩ (k26 _ _ gM), rfl, _, rfl⟩
        have gP27 := nS27 _ _ ⟨_, _, rfl⟩ (k26 _ _ gP25)
        have gR27 := nS27 _ _ ⟨_, _, rfl⟩ g26
        have aP27 : All2 (ItemN R' h27) vs (plainP ws ws.length) := aP25.mono fun v x t => tr t
        have aM27 : All2 (ItemN R' h27) ms (pairsP (rowP ws j)) := aM25.mono fun v x t => tr t
        have hPR : @Ne Nat P R' := fun q => by rw [q, hR0] at gP25; cases gP25
        have hMR : @Ne Nat DM R' := fun q => by rw [q, hR0] at gM; cases gM
        have up27 : ∀ (b : Nat) o, b ≠ L' → b ≠ L' + 1 → h17.get? b = some o → h27.get? b = some o := fun b o q1 q2 e => hb27 b o q2 (k26 _ _ (kb b o q1 (hb18 b o q1 e)))
        have st27 : IsRangeIter h27 I16 (0 + ((j + 1 : Nat) : Int) * 1) (((lim - 1 : Nat) : Int) - ((j + 1 : Nat) : Int)) 1 := up27 _ _ (show @Ne Nat I16 L' by omega) (show @Ne Nat I16 (L' + 1) by omega) st17
        have c227 : ∃ v, h27.IsCell (L' + 2) v := by obtain ⟨v, o, e, d⟩ := c2; exact ⟨v, o, up27 _ _ (show @Ne Nat (L' + 2) L' by omega) (show @Ne Nat (L' + 2) (L' + 1) by omega) e, d⟩
        have c327 : ∃ v, h27.IsCell (L' + 3) v := by obtain ⟨v, o, e, d⟩ := c3; exact ⟨v, o, up27 _ _ (show @Ne Nat (L' + 3) L' by omega) (show @Ne Nat (L' + 3) (L' + 1) by omega) e, d⟩
        refine for_raw ?_
        k_unmd
        k_steps
        refine Stop.out ?_
        refine iter_list_raw gM27 fun h28 I28 k28 s28 s28' it28 => ?_
        have lt28 : ∀ (b : Nat) o, h27.get? b = some o → b < I28 := fun b o e => s28 ▸ Heap.lt_size e
        have hgI28 : g.get? I28 = none := by
          cases q : g.get? I28 with
          | none => rfl
          | some o => exact absurd (lt28 _ _ (F27.keep _ _ q)) (Nat.lt_irrefl _)
        have nMI : DM ≠ I28 := Nat.ne_of_lt (lt28 _ _ (nS27 _ _ ⟨_, _, rfl⟩ (k26 _ _ gM)))
        have i328 : @LT.lt Nat _ (L' + 3) I28 := by obtain ⟨v, o, e, d⟩ := c327; exact lt28 _ _ e
        have i1628 : @LT.lt Nat _ I16 I28 := lt28 _ _ st27
        have lM := aM27.length
        refine ⟨I28, [I28, DM], ms.toArray.size, _, _, Inn g L' l P R' (plainP ws ws.length) ms (pairsP (rowP ws j)) I16 (0 + ((j + 1 : Nat) : Int) * 1) (((lim - 1 : Nat) : Int) - ((j + 1 : Nat) : Int)), rfl, Walks.list (by rfl) I28 DM nMI ms.toArray, ⟨it28, gM27.at fun o e => k28 _ _ e⟩, ?j28, ?stab28, ?turn28, ?fin28⟩
        case j28 =>
          refine ⟨⟨_, F27.keeps k28, ?_, ?_⟩, ⟨_, _, k28 _ _ gP27, aP27.mono fun v x t => t.keep k28⟩, ?_, ⟨_, _, k28 _ _ gR27, aP27.mono fun v x t => t.keep k28⟩, aM27.mono fun v x t => t.keep k28, ?_, ?_, k28 _ _ st27⟩
          · show (if Str.ofString "plain" = Str.ofString "made" then _ else if Str.ofString "plain" = Str.ofString "level" then _ else mL _) = _; rw [if_neg (by decide), if_neg (by decide)]; exact e17
          · show (if Str.ofString "weights" = Str.ofString "made" then _ else if Str.ofString "weights" = Str.ofString "level" then _ else mL _) = _; rw [if_neg (by decide), if_neg (by decide)]; exact ew17
          · obtain ⟨o, e, d⟩ := cR27; exact ⟨o, k28 _ _ e, d⟩
          · obtain ⟨v, o, e, d⟩ := c227; exact ⟨v, o, k28 _ _ e, d⟩
          · obtain ⟨v, o, e, d⟩ := c327; exact ⟨v, o, k28 _ _ e, d⟩
        case stab28 => exact fun i h h' st hb x => x.but (list_notSeq st.1) hb hgI28 i328 i1628
        case turn28 =>
          clear F27
          rintro q v h29 tk29 hq29 hv29 ⟨⟨mI, F29, e29, ew29⟩, ⟨nP29, vs29, gP29, aP29⟩, cR29, ⟨nR29, rs29, gR29, aR29⟩, aM29, ⟨v2, c29⟩, c39, st29⟩ stl29
          obtain ⟨pk, hpk, ipk⟩ := aM29.at' q v (by simpa using hv29)
          obtain ⟨A, Bp, tp, np, np', usp, rfl, hA1, hB1, gA, gB, iu⟩ := id ipk
          refine wpAny_assign_Name (wpAny_storeName_cell rfl rfl rfl c29 fun h30 c30 sb30 => ?_)
          have hb30 : KptBut (L' + 2) h29 h30 := fun b o hb e => sb30.extBut b o hb e
          have nS30 := nS c29 hb30
          have F30 := Fr_but F29 hb30 (by show @Ne Nat (L' + 2) L'; omega) n3.2.2
          have cR30 : h30.IsCell (L' + 1) (some (.ref R')) := by obtain ⟨o, e, d⟩ := cR29; exact ⟨o, hb30 _ _ (show @Ne Nat (L' + 1) (L' + 2) by omega) e, d⟩
          have c30' : h30.IsCell (L' + 1 + 1) (some (.ref A)) := c30
          have gR30 := nS30 _ _ ⟨_, _, rfl⟩ gR29
          have aR30 : All2 (ItemN R' h30) rs29 (((pairsP (rowP ws j)).take q).foldl insP (plainP ws ws.length)) := aR29.mono fun v x t => t.seq nS30
          have gA30 := nS30 _ _ ⟨_, _, rfl⟩ gA
          have lR30 := aR30.length
          have hq' : q < (pairsP (rowP ws j)).length := by rw [← lM]; simpa using hq29
          have lp2 := pairsP_length (rowP ws j)
          have lrow : (((pairsP (rowP ws j)).take q).foldl insP (plainP ws ws.length)).length = ws.length + q := by
            rw [foldl_insP_length, plainP_length, List.length_take, Nat.min_eq_left (Nat.le_of_lt hq')]
          have srow : SortedP (((pairsP (rowP ws j)).take q).foldl insP (plainP ws ws.length)) := (plainP_sorted ws _).fold
          generalize hrow : ((pairsP (rowP ws j)).take q).foldl insP (plainP ws ws.length) = row at aR30 lR30 lrow srow
          have hz2 : ws.length + q ≤ 30 := by omega
          clear F29 lp2
          have mk : InTurnL := trivial
          k_unmd
          k_steps
          refine Stop.out ?_
          refine item_raw (v := .int pk.1 tp) ⟨_, gA30, rfl, _, rfl⟩ (by decide) (by decide) rfl ?_
          k_unmd
          k_steps
          refine Stop.out ?_
          refine bisect_key B' F30 X' T' (by rfl) (ks := row.map (·.1)) ⟨rs29.toArray, _, gR30, by rw [List.size_toArray, List.length_map, lR30], fun i v hv => ?kd⟩ (by rw [List.length_map, lrow]; omega) (by show dp + 1 + 2 < recursionLimit; omega) (by show un + 3 + 16 < cLine; omega) fun t31 h31 tk31 k31 => ?_
          case kd =>
            obtain ⟨x, hx, it⟩ := aR30.at' i v (by simpa using hv)
            exact ⟨x.1, by rw [List.getElem?_map, hx]; rfl, it.wt.1⟩
          rw [List.length_map]
          have k31' : Kpt h30 h31 := k31
          have F31 := F30.keeps k31
          clear F30
          k_unmd
          k_steps
          refine Stop.out ?_
          refine storeC_L F31 (fun h32 tk32 F32 hb32 => ?_) (by rfl) (by rfl)
          have nL32 : ∀ (b : Nat) o, SeqO o → h31.get? b = some o → h32.get? b = some o := fun b o so e => hb32 b o (fun q => by
            obtain ⟨oL, es, ep, hL, hLd, -⟩ := F31.ns
            rw [q, hL] at e; cases e
            obtain ⟨x, n, so⟩ := so
            rw [hLd] at so; cases so) e
          have cR32 : h32.IsCell (L' + 1) (some (.ref R')) := by obtain ⟨o, e, d⟩ := cR30; exact ⟨o, hb32 _ _ (show @Ne Nat (L' + 1) L' by omega) (k31 _ _ e), d⟩
          have c32 : h32.IsCell (L' + 1 + 1) (some (.ref A)) := by obtain ⟨o, e, d⟩ := c30'; exact ⟨o, hb32 _ _ (show @Ne Nat (L' + 1 + 1) L' by omega) (k31 _ _ e), d⟩
          have gR32 := nL32 _ _ ⟨_, _, rfl⟩ (k31 _ _ gR30)
          have gA32 := nL32 _ _ ⟨_, _, rfl⟩ (k31 _ _ gA30)
          have aR32 : All2 (ItemN R' h32) rs29 row := aR30.mono fun v x t => (t.keep k31').seq nL32
          have lR32 : h32.IsList R' rs29.toArray := ⟨_, gR32, rfl, _, rfl⟩
          rename InTurnL => mk3
          clear mk3 F31
          k_unmd
          k_steps
          refine Stop.out ?_
          refine comp1 (α := Value) (Elt := fun _ _ v x => v = x) (fun _ _ _ _ _ _ e => e) (cl := [(Str.ofString "package", L' + 1 + 1)]) (by with_unfolding_all rfl) (by decide) (by rfl) (by decide) (by intro _; rfl) ?_
          k_unmd
          k_steps
          refine Stop.out ?_
          refine iter_list_raw lR32 fun h33 I33 k33 s33 s33' it33 => ?_
          have lt33 : ∀ (b : Nat) o, h32.get? b = some o → b < I33 := fun b o e => s33 ▸ Heap.lt_size e
          have nR33 : R' ≠ I33 := Nat.ne_of_lt (lt33 _ _ gR32)
          refine ⟨I33, [I33, R'], rs29.toArray.size, _, _, cntF row rs29 pk.1, h33, _, rfl, rfl, Walks.list (by rfl) I33 R' nR33 rs29.toArray, ⟨it33, lR32.at fun o e => k33 _ _ e⟩, ?fp33, k33, ?i33, by rw [s33']; exact Nat.lt_succ_self _, by rw [List.size_toArray, lR30, lrow, sizeLine_eq]; omega, fun _ _ _ _ _ s' Q' _ hq => wpAny_pure hq, ?turn33, ?fin33⟩
          case fp33 =>
            intro b hb
            rw [s33']
            rcases List.mem_cons.mp hb with rfl | hb
            · exact Nat.lt_succ_self _
            · rw [List.mem_singleton.mp hb]; exact Nat.lt_succ_of_lt (lt33 _ _ gR32)
          case i33 =>
            cases q : h32.get? I33 with
            | none => rfl
            | some o => exact absurd (lt33 _ _ q) (Nat.lt_irrefl _)
          case turn33 =>
            intro r v h34 tk34 C m34 hr34 hv34 k34 n34 c340
            obtain ⟨xr, hxr, ir⟩ := aR32.at' r v (by simpa using hv34)
            have gr : row.getD r I0 = xr := by rw [List.getD_eq_getElem?_getD, hxr]; rfl
            have gv : rs29.getD r .none = v := by rw [List.getD_eq_getElem?_getD, (show rs29[r]? = some v by simpa using hv34)]; rfl
            obtain ⟨A2, B2, t2, n2, n2', us2, rfl, -, -, gA2, gB2, iu2⟩ := ir
            refine assign_one (by rfl) (by rfl) n34 fun h35 tk35 hb35 n35 => ?_
            have n35' : h35.Ns C _ := n35
            have kk35 : KptBut C h34 h35 := hb35
            have k35 : Kpt h32 h35 := fun q o e => kk35 q o (fun q' => by rw [q', c340] at e; cases e) (k34 q o e)
            have c35 : h35.IsCell (L' + 1 + 1) (some (.ref A)) := by obtain ⟨o, e, d⟩ := c32; exact ⟨o, k35 _ _ e, d⟩
            have gA235 := k35 _ _ gA2
            have gA35 := k35 _ _ gA32
            refine tests_one ?_
            clear n35
            k_unmd
            k_steps
            refine Stop.out ?_
            refine item_raw (v := .int xr.1 t2) ⟨_, gA235, rfl, _, rfl⟩ (by decide) (by decide) rfl ?_
            k_unmd
            k_steps
            refine Stop.out ?_
            refine item_raw (v := .int pk.1 tp) ⟨_, gA35, rfl, _, rfl⟩ (by decide) (by decide) rfl ?_
            k_unmd
            k_steps
            · exact ⟨h35, _, _, rfl, kk35, n35', .ref A2, by unfold cntF; rw [gr, gv, if_pos (by assumption)], rfl⟩
            · exact ⟨h35, _, _, rfl, kk35, n35', by unfold cntF; rw [gr, if_neg (by first | assumption | omega)]⟩
          case fin33 =>
            intro DC ys h36 tk36 k36 gC aC DC0
            have lC := aC.length
            have esz : rs29.toArray.size = row.length := by rw [List.size_toArray, lR30]
            rw [esz, cntF_length, count_le srow] at lC
            have k36' : Kpt h32 h36 := k36
            have F36 := F32.keeps k36'
            have cR36 : h36.IsCell (L' + 1) (some (.ref R')) := by obtain ⟨o, e, d⟩ := cR32; exact ⟨o, k36 _ _ e, d⟩
            have c36 : h36.IsCell (L' + 1 + 1) (some (.ref A)) := by obtain ⟨o, e, d⟩ := c32; exact ⟨o, k36 _ _ e, d⟩
            have lb := bisR_le' row pk.1
            clear F32
            k_unmd
            k_steps
            refine Stop.out ?_
            refine len_list (items := ys.toArray) ⟨_, gC, rfl, _, rfl⟩ (by rw [List.size_toArray, lC]; omega) ?_
            rw [List.size_toArray, lC]
            k_unmd
            k_steps
            · contradiction
            · have gR36 := k36 _ _ gR32
              have aR36 : All2 (ItemN R' h36) rs29 row := aR32.mono fun v x t => t.keep k36'
              refine Stop.out ?_
              refine getMethod_builtin ⟨_, gR36, rfl⟩ PySem.F.plainAttrs_list PySem.F.slot_list_insert PySem.F.type_list_insert (fun a e => by cases e; exact ⟨_, gR36, rfl⟩) ?_
              k_unmd
              k_steps
              refine Stop.out ?_
              refine insert_raw gR36 (Int.natCast_nonneg _) (by rw [esz]; omega) (by rw [esz, sizeLine_eq]; omega) fun h37 sb37 g37 => ?_
              have hb37 : KptBut R' h36 h37 := fun b o hb e => sb37.extBut b o hb e
              k_unmd
              k_steps
              · exact .inl rfl
              · have seqUp : ∀ (b : Nat) o, b ≠ R' → SeqO o → h29.get? b = some o → h37.get? b = some o := fun b o hb so e => hb37 b o hb (k36 _ _ (nL32 b o so (k31 _ _ (nS30 b o so e))))
                have itUp : ∀ {v : Value} {x : Int × List Int}, ItemN R' h29 v x → ItemN R' h37 v x := fun t => ((((t.seq nS30).keep k31').seq nL32).keep k36').but hb37
                have up : ∀ (b : Nat) o, b ≠ R' → b ≠ L' → b ≠ L' + 2 → h29.get? b = some o → h37.get? b = some o := fun b o q1 q2 q3 e => hb37 b o q1 (k36 _ _ (hb32 b o q2 (k31 _ _ (hb30 b o q3 e))))
                have hRI : @LT.lt Nat _ R' I28 := lt28 _ _ gR27
                refine ⟨h37, _, rfl, ⟨⟨_, Fr_but F36 hb37 (show @Ne Nat R' L' by omega) hgR, ?_, ?_⟩, ⟨_, _, seqUp _ _ hPR ⟨_, _, rfl⟩ gP29, aP29.mono fun v x t => itUp t⟩, ?_, ⟨_, _, g37, ?_⟩, aM29.mono fun v x t => itUp t, ?_, ?_, up _ _ (show @Ne Nat I16 R' by omega) (show @Ne Nat I16 L' by omega) (show @Ne Nat I16 (L' + 2) by omega) st29⟩, ?_, ?_⟩
                · show (if Str.ofString "plain" = Str.ofString "spot" then _ else mI _) = _; rw [if_neg (by decide)]; exact e29
                · show (if Str.ofString "weights" = Str.ofString "spot" then _ else mI _) = _; rw [if_neg (by decide)]; exact ew29
                · obtain ⟨o, e, d⟩ := cR36; exact ⟨o, hb37 _ _ (show @Ne Nat (L' + 1) R' by omega) e, d⟩
                · rw [List.take_add_one, hpk, Option.toList_some, List.foldl_append, hrow]
                  exact All2.ins (x := pk) (aR36.mono fun v x t => t.but hb37) (itUp ipk)
                · obtain ⟨o, e, d⟩ := c36; exact ⟨_, o, hb37 _ _ (show @Ne Nat (L' + 1 + 1) R' by omega) e, d⟩
                · obtain ⟨v, o, e, d⟩ := c39; exact ⟨v, o, up _ _ (show @Ne Nat (L' + 3) R' by omega) (show @Ne Nat (L' + 3) L' by omega) (show @Ne Nat (L' + 3) (L' + 2) by omega) e, d⟩
                · obtain ⟨o, e, d⟩ := stl29.1; exact ⟨o, up _ _ (show @Ne Nat I28 R' by omega) (show @Ne Nat I28 L' by omega) (show @Ne Nat I28 (L' + 2) by omega) e, d⟩
                · obtain ⟨o, e, c, n, d⟩ := stl29.2; exact ⟨o, seqUp _ _ hMR ⟨_, _, d⟩ e, c, n, d⟩
        case fin28 =>
          rintro h38 tk38 ⟨⟨mI, F38, e38, ew38⟩, ⟨nP38, vs38, gP38, aP38⟩, cR38, ⟨nR38, rs38, gR38, aR38⟩, aM38, c28, c38, st38⟩
          refine wpAny_execs_nil ?_
          have toL : ∀ {v : Value} {x : Int × List Int}, ItemN R' h38 v x → ItemN L' h38 v x := fun t => by
            obtain ⟨a, b, t, n, n', vs, e, ha, hb, ga, gb, iv⟩ := t
            obtain ⟨oL, es, ep, hL, hLd, -⟩ := F38.ns
            refine ⟨a, b, t, n, n', vs, e, fun q => ?_, fun q => ?_, ga, gb, iv⟩
            · rw [q, hL] at ga; cases ga; cases hLd
            · rw [q, hL] at gb; cases gb; cases hLd
          refine ⟨.inl rfl, h38, _, rfl, ⟨⟨_, F38, e38, ew38⟩, ⟨_, _, gP38, aP38.mono fun v x t => toL t⟩, ⟨R', _, _, cR38, gR38, ?_⟩, c28, c38⟩, st38⟩
          have e1 : ms.toArray.size = (pairsP (rowP ws j)).length := by rw [List.size_toArray, lM]
          rw [e1, List.take_length] at aR38
          exact aR38.mono fun v x t => toL t
    case fin =>
      clear F14 lv
      rintro h39 tk39 ⟨⟨mL, F39, e39, ew39⟩, ⟨nP, vs, gP, aP⟩, ⟨R, nR, rs, cR, gR, aR⟩, c2, ⟨v3, c3⟩⟩
      have lRs : rs.toArray.size = (rowP ws (lim - 1)).length := by rw [List.size_toArray, aR.length]
      have lR2 := rowP_length ws (lim - 1)
      have sR := rowP_short ws (lim - 1)
      have mk : InTurnL := trivial
      k_unmd
      k_steps
      refine Stop.out ?_
      refine len_list (hg.at fun o e => F39.keep _ _ e) (by rw [esz]; omega) ?_
      rw [esz]
      k_unmd
      k_steps
      refine Stop.out ?_
      refine slice_raw (items := rs.toArray) ⟨_, gR, rfl, _, rfl⟩ IsPart.none (IsPart.int _ _) (fun h40 Tk k40 s40 g40 => ?_) (by with_unfolding_all rfl) (by intro _; with_unfolding_all rfl) (by rw [lRs, sizeLine_eq]; omega)
      have k40' : Kpt h39 h40 := k40
      have F40 := F39.keeps k40'
      have c340 : h40.IsCell (L' + 3) v3 := by obtain ⟨o, e, d⟩ := c3; exact ⟨o, k40 _ _ e, d⟩
      have a40 : All2 (ItemN L' h40) rs (rowP ws (lim - 1)) := aR.mono fun v x t => t.keep k40'
      have e40 : slicePick rs.toArray none (some (2 * (ws.length : Int) - 2)) none = (rs.take (2 * ws.length - 2)).toArray := by
        rw [kms_pick_eq]
        simp [kms_pick, kms_lo, kms_hi]
        rw [if_neg (by omega), show (2 * (ws.length : Int) - 2).toNat = 2 * ws.length - 2 by omega]
        omega
      rw [e40] at g40
      clear F39
      k_unmd
      k_steps
      refine Stop.out ?_
      refine wpAny_storeName_cell (by rfl) (by rfl) (by rfl) c340 fun h41 c41 sb41 => ?_
      have hb41 : KptBut (L' + 3) h40 h41 := fun b o hb e => sb41.extBut b o hb e
      have nS41 := nS c340 hb41
      have F41 := Fr_but F40 hb41 (by show @Ne Nat (L' + 3) L'; omega) n2.2.2
      have g41 := nS41 _ _ ⟨_, _, rfl⟩ g40
      have a41 : All2 (ItemN L' h41) (rs.take (2 * ws.length - 2)) ((rowP ws (lim - 1)).take (2 * ws.length - 2)) := (a40.mono fun v x t => t.seq nS41).take _
      generalize htk : (rowP ws (lim - 1)).take (2 * ws.length - 2) = tkn at a41
      have sT : Short (2 ^ (lim - 1)) tkn := fun x hx => sR x (List.mem_of_mem_take (htk ▸ hx))
      have lT : tkn.length ≤ 10 := by rw [← htk, List.length_take]; omega
      generalize rs.take (2 * ws.length - 2) = ts at a41 g41
      have lts := a41.length
      clear F40
      rename InTurnL => mk3
      clear mk3
      k_unmd
      k_steps
      refine Stop.out ?_
      refine compC (cl := [(Str.ofString "taken", L' + 1 + 1 + 1)]) (by with_unfolding_all rfl) (by rfl) (by decide) (by intro _; rfl) (by intro _; rfl) (by intro _ _; rfl) (by intro _; rfl) ?_
      k_unmd
      k_steps
      refine Stop.out ?_
      refine len_list (hg.at fun o e => F41.keep _ _ e) (by rw [esz]; omega) ?_
      rw [esz]
      k_unmd
      k_steps
      refine Stop.out ?_
      refine range1_raw fun h42 R42 tk42 t42 v42 k42 s42 s42' r42 => ?_
      k_unmd
      k_steps
      refine Stop.out ?_
      refine iter_range_raw r42 (range0 (by omega)).1 (range0 (by omega)).2 fun h43 I43 k43 s43 s43' st43 => ?_
      have kk43 : Kpt h41 h43 := fun b o e => k43 _ _ (k42 _ _ e)
      have ltI43 : ∀ (b : Nat) o, h41.get? b = some o → b < I43 := fun b o e => by rw [← s43]; exact Heap.lt_size (k42 _ _ e)
      refine ⟨I43, [I43], ws.length, _, _, lensP tkn, h43, _, rfl, rfl, LCg.range_walks (by rfl) 0 ws.length, st43, ?fp43, kk43, ?i43, by rw [s43']; exact Nat.lt_succ_self _, by rw [sizeLine_eq]; omega, ?turn43, ?fin43⟩
      case fp43 =>
        intro b hb
        rw [List.mem_singleton.mp hb, s43']; exact Nat.lt_succ_self _
      case i43 =>
        cases q : h41.get? I43 with
        | none => rfl
        | some o => exact absurd (ltI43 _ _ q) (Nat.lt_irrefl _)
      case turn43 =>
        rintro q v h44 tk44 C hq44 ⟨t44, rfl⟩ k44 c44
        have c344 : h44.IsCell (L' + 1 + 1 + 1) (some (.ref Tk)) := by obtain ⟨o, e, d⟩ := c41; exact ⟨o, k44 _ _ e, d⟩
        have F44 := F41.keeps k44
        k_unmd
        k_steps
        refine Stop.out ?_
        have a44 : All2 (ItemN L' h44) ts tkn := a41.mono fun v x t => t.keep k44
        have g44 := k44 _ _ g41
        have l44 : h44.IsList Tk ts.toArray := ⟨_, g44, rfl, _, rfl⟩
        refine comp2 (α := Int) (Elt := fun _ _ _ _ => True) (fun _ _ _ _ _ _ e => e) (cl := [(Str.ofString "place", C + 1)]) (by with_unfolding_all rfl) (by decide) (by rfl) (by decide) (by intro _; rfl) (by intro _ _; rfl) ?_
        k_unmd
        k_steps
        refine Stop.out ?_
        refine iter_list_raw l44 fun h45 I45 k45 s45 s45' it45 => ?_
        have lt45 : ∀ (b : Nat) o, h44.get? b = some o → b < I45 := fun b o e => s45 ▸ Heap.lt_size e
        have nT45 : Tk ≠ I45 := Nat.ne_of_lt (lt45 _ _ g44)
        refine ⟨I45, [I45, Tk], ts.toArray.size, 8, _, _, fun i => (tkn.getD i I0).2.flatMap fun k => if k = (q : Int) then [k] else [], h45, _, rfl, rfl, Walks.list (by rfl) I45 Tk nT45 ts.toArray, ⟨it45, l44.at fun o e => k45 _ _ e⟩, ?fp45, k45, ?i45, by rw [s45']; exact Nat.lt_succ_self _, by rw [List.size_toArray, lts, sizeLine_eq]; omega, fun _ _ _ _ _ s' Q' _ hq => wpAny_pure hq, ?turn45, ?fin45⟩
        case fp45 =>
          intro b hb
          rw [s45']
          rcases List.mem_cons.mp hb with rfl | hb
          · exact Nat.lt_succ_self _
          · rw [List.mem_singleton.mp hb]; exact Nat.lt_succ_of_lt (lt45 _ _ g44)
        case i45 =>
          cases q : h44.get? I45 with
          | none => rfl
          | some o => exact absurd (lt45 _ _ q) (Nat.lt_irrefl _)
        case turn45 =>
          intro r v h46 tk46 C2 m46 hr46 hv46 k46 n46 c460 c461
          obtain ⟨xr, hxr, ir⟩ := a44.at' r v (by simpa using hv46)
          have gr : tkn.getD r I0 = xr := by rw [List.getD_eq_getElem?_getD, hxr]; rfl
          have hsx : xr.2.length ≤ 8 := Nat.le_trans (sT xr (List.mem_of_getElem? hxr)) (show 2 ^ (lim - 1) ≤ 2 ^ 3 from Nat.pow_le_pow_right (by decide) (by omega))
          obtain ⟨A2, B2, t2, n2, n2', us2, rfl, -, -, gA2, gB2, iu2⟩ := ir
          refine assign_one (by rfl) (by rfl) n46 fun h47 tk47 hb47 n47 => ?_
          have n47' : h47.Ns C2 _ := n47
          have kk47 : KptBut C2 h46 h47 := hb47
          have k47 : Kpt h44 h47 := fun q o e => kk47 q o (fun q' => by rw [q', c460] at e; cases e) (k46 q o e)
          have gA47 := k47 _ _ gA2
          have gB47 := k47 _ _ gB2
          refine tests_nil ?_
          rw [if_pos rfl]
          clear n47
          k_unmd
          k_steps
          refine Stop.out ?_
          refine item_raw (v := .ref B2) ⟨_, gA47, rfl, _, rfl⟩ (by decide) (by decide) rfl ?_
          k_unmd
          k_steps
          refine Stop.out ?_
          have lB47 : h47.IsList B2 us2.toArray := ⟨_, gB47, rfl, _, rfl⟩
          refine iter_list_raw lB47 fun h48 I48 k48 s48 s48' it48 => ?_
          have s48e : @Eq Nat h47.objs.size I48 := s48
          have hC247 : @LT.lt Nat _ C2 h47.objs.size := n47'.lt
          have nB48 : B2 ≠ I48 := Nat.ne_of_lt (by rw [← s48]; exact Heap.lt_size gB47)
          have nBC : B2 ≠ C2 := fun q => by rw [q, c460] at gB2; cases gB2
          have nBD : ¬ B2 + 1 = C2 := fun q => by rw [c461 B2 q] at gB2; cases gB2
          refine ⟨I48, [I48, B2], us2.toArray.size, _, _, fun p => if xr.2.getD p 0 = (q : Int) then [xr.2.getD p 0] else [], h48, _, _, fun m => m (Str.ofString "one") = some (.ref A2), rfl, rfl, Walks.list (by rfl) I48 B2 nB48 us2.toArray, ⟨it48, lB47.at fun o e => k48 _ _ e⟩, ?fp48, fun b o hb e => k48 _ _ (kk47 b o hb e), n47'.at' fun o e => k48 _ _ e, ?m48, (by omega), fun i h st => list_notSeq st.1, ?n48, ?fi48, fun _ _ _ _ _ s' Q' _ hq => wpAny_pure hq, ?turn48⟩
          case fp48 =>
            intro b hb
            rcases List.mem_cons.mp hb with rfl | hb
            · exact ⟨show @Ne Nat _ C2 by omega, show @Ne Nat _ C2 by omega⟩
            · rw [List.mem_singleton.mp hb]; exact ⟨nBC, nBD⟩
          case m48 => exact if_pos rfl
          case n48 => rw [List.size_toArray, iu2.length]; exact hsx
          case fi48 =>
            show (tkn.getD r I0).2.flatMap _ = _
            rw [gr, List.size_toArray, iu2.length]
            exact (flat_getD 0 (fun k => if k = (q : Int) then [k] else []) xr.2).symm
          case turn48 =>
            intro p v h49 tk49 m49 hp49 hv49 k49 n49 hm49
            obtain ⟨kv, tv, hkv, rfl⟩ := IntsAre_at iu2 p v (by simpa using hv49)
            have gk : xr.2.getD p 0 = kv := by rw [List.getD_eq_getElem?_getD, hkv]; rfl
            refine assign_one (by rfl) (by rfl) n49 fun h50 tk50 hb50 n50 => ?_
            have n50' : h50.Ns C2 _ := n50
            have kk50 : KptBut C2 h49 h50 := hb50
            have k50 : Kpt h44 h50 := fun q o e => kk50 q o (fun q' => by rw [q', c460] at e; cases e) (k49 q o e)
            have c50 : h50.IsCell (C + 1) (some (.int (0 + (q : Int)) t44)) := by obtain ⟨o, e, d⟩ := c44; exact ⟨o, k50 _ _ e, d⟩
            refine tests_one ?_
            clear n50
            k_unmd
            k_steps
            · refine ⟨h50, _, _, rfl, kk50, n50', ?_, kv, ?_, trivial⟩
              · show (if Str.ofString "one" = Str.ofString "k" then _ else m49 _) = _; rw [if_neg (by decide)]; exact hm49
              · show (if xr.2.getD p 0 = (q : Int) then _ else _) = _
                rw [gk, if_pos (by omega)]
            · refine ⟨h50, _, _, rfl, kk50, n50', ?_, ?_⟩
              · show (if Str.ofString "one" = Str.ofString "k" then _ else m49 _) = _; rw [if_neg (by decide)]; exact hm49
              · show (if xr.2.getD p 0 = (q : Int) then _ else _) = _
                rw [gk, if_neg (by omega)]
        case fin45 =>
          intro DC ys h51 tk51 k51 gC aC DC0
          have lC := aC.length
          rw [List.size_toArray, lts, flat_getD I0 (fun x => x.2.flatMap fun k => if k = (q : Int) then [k] else []) tkn] at lC
          have F51 := F44.keeps k51
          clear F44
          k_unmd
          k_steps
          refine Stop.out ?_
          refine len_list (items := ys.toArray) ⟨_, gC, rfl, _, rfl⟩ (by rw [List.size_toArray, lC]; have := cnt_len (q : Int) sT; have p8 : (2 : Nat) ^ (lim - 1) ≤ 2 ^ 3 := Nat.pow_le_pow_right (by decide) (by omega); have p9 := Nat.mul_le_mul lT p8; omega) ?_
          rw [List.size_toArray, lC]
          exact ⟨h51, _, rfl, k51, _, rfl⟩
      case fin43 =>
        intro DF ys h52 tk52 k52 gF aF DF0
        k_unmd
        k_steps
        rw [← htk] at aF
        refine hret DF ys _ h52 _ (fun b o e => k52 _ _ (F41.keep _ _ (hgk b o e))) gF (All2.intsL aF) ?_
        cases q : s.heap.get? DF with
        | none => rfl
        | some o =>
          have e : h41.get? DF = none := DF0
          rw [F41.keep _ _ (hgk _ _ q)] at e; cases e
end Mine
/-! part R12 -/
namespace Mine
open PySem PySem.W PyProof.Rows PySem.Calls PySem.Spec
section
variable {prog : Program} {w : World} {A : Around} {E : Value → Shared → Prop} {R : Result → Shared → Prop} {s : Shared}
theorem intsM {ys : List Value} {xs : List Int} : All2 IntE ys xs → IntsAre ys xs := by
  intro h
  induction h with
  | nil => exact .nil
  | cons a r ih => obtain ⟨t, rfl⟩ := a; exact .cons _ t ih
theorem ints_get {vs : List Value} {ns : List Int} (hi : IntsAre vs ns) {i : Nat} {v : Value} (h : vs[i]? = some v) : i < ns.length ∧ ∃ t, v = .int (ns.getD i 0) t := by
  obtain ⟨k, t, e, hv⟩ := IntsAre_at hi i v h
  exact ⟨(List.getElem?_eq_some_iff.mp e).1, t, by rw [List.getD_eq_getElem?_getD, e]; exact hv⟩
theorem getD_mem {ns : List Int} {i : Nat} (h : i < ns.length) : ns.getD i 0 ∈ ns := by
  rw [List.getD_eq_getElem?_getD, List.getElem?_eq_getElem h]; exact List.getElem_mem h
/-- one clause over a list of ints, no condition, ints out -/
theorem mapc {elt iter : Expr} {x : Str} {px : Pos} {scope : Scope} {pos : Pos} {env : Env} {cl : List (Str × Addr)} {Q : Value → Shared → Prop} {Dn n : Nat} {vs : List Value} {ns : List Int} {g : Int → Int}
    (hA : A.handled = none) (hclos : closureFor scope env = pure cl) (hcell : ∀ y ∈ scope.names, y.2 ≠ .cell) (hkind : scope.kind = .function) (hnames : ∀ y ∈ scope.names, y.2 = .local → scope.names.lookup y.1 = some .local)
    (hs : ∀ x, foldedSetIterable iter env x = pure x) (hx : ∀ C, (compEnvC scope cl C env).kindOf x = some .local) (hp : ∀ C, ((compEnvC scope cl C env).scope.kind == .class || ((compEnvC scope cl C env).scope.kind == .module && (compEnvC scope cl C env).locals != (compEnvC scope cl C env).globals)) = false)
    (hN : s.heap.get? Dn = some (listOf vs.toArray n)) (hi : IntsAre vs ns) (hz : ns.length ≤ sizeLine)
    (hit : ∀ Q' : Value → Shared → Prop, (∀ tk, Q' (.ref Dn) {s with toks := tk}) → wpAny (model prog w) A (eval iter env) Q' E s)
    (hel : ∀ (k : Int) t h tk (C : Nat) m (Q' : Value → Shared → Prop), k ∈ ns → Kpt s.heap h → h.Ns C m → m x = some (.int k t) → (∀ t tk, Q' (.int (g k) t) {s with heap := h, toks := tk}) → wpAny (model prog w) A (eval elt (compEnvC scope cl C env)) Q' NoE {s with heap := h, toks := tk})
    (hret : ∀ (D : Nat) ys h' tk, Kpt s.heap h' → h'.get? D = some (LCg.lst ys) → IntsAre ys (ns.map g) → s.heap.get? D = none → Q (.ref D) {s with heap := h', toks := tk}) :
    wpAny (model prog w) A (eval (.ListComp elt [⟨.Name x px, iter, [], 0⟩] scope pos) env) Q E s := by
  refine comp1 (α := Int) (Elt := fun _ _ v x => IntE v x) (fun _ _ _ _ _ _ e => e) hclos hcell hkind hnames hs ?_
  refine hit _ fun tk => ?_
  have lN : s.heap.IsList Dn vs.toArray := ⟨_, hN, rfl, _, rfl⟩
  refine iter_list_raw (s := {s with toks := tk}) lN fun h2 I k2 s2 s2' it2 => ?_
  have lt2 : ∀ (b : Nat) o, s.heap.get? b = some o → b < I := fun b o e => s2 ▸ Heap.lt_size e
  have nD2 : Dn ≠ I := Nat.ne_of_lt (lt2 _ _ hN)
  have hl := hi.length
  refine ⟨I, [I, Dn], vs.toArray.size, _, _, fun i => [g (ns.getD i 0)], h2, tk, rfl, rfl, Walks.list hA I Dn nD2 vs.toArray, ⟨it2, lN.at fun o e => k2 _ _ e⟩, ?fp, k2, ?i0, by rw [s2']; exact Nat.lt_succ_self _, by rw [List.size_toArray, hl]; exact hz, ?ht, ?turn2, ?fin2⟩
  case fp =>
    intro b hb
    rw [s2']
    rcases List.mem_cons.mp hb with rfl | hb
    · exact Nat.lt_succ_self _
    · rw [List.mem_singleton.mp hb]; exact Nat.lt_succ_of_lt (lt2 _ _ hN)
  case i0 =>
    cases q : s.heap.get? I with
    | none => rfl
    | some o => exact absurd (lt2 _ _ q) (Nat.lt_irrefl _)
  case ht =>
    rintro j v h7 hv7 st7 s' Q' rfl hq
    obtain ⟨hj, t, rfl⟩ := ints_get hi (by simpa using hv7)
    exact wpAny_pure hq
  case turn2 =>
    intro j v h7 tk7 C m7 hj7 hv7 k7 n7 c70
    obtain ⟨hj, t, rfl⟩ := ints_get hi (by simpa using hv7)
    refine assign_one (hx C) (hp C) n7 fun h8 tk8 hb8 n8 => ?_
    refine tests_nil ?_
    rw [if_pos rfl]
    have kk8 : KptBut C h7 h8 := hb8
    have k8 : Kpt s.heap h8 := fun q o e => kk8 q o (fun q' => by rw [q', c70] at e; cases e) (k7 q o e)
    refine hel _ t h8 tk8 C _ _ (getD_mem hj) k8 n8 (if_pos rfl) fun t' tk' => ?_
    exact ⟨h8, _, _, rfl, kk8, n8, _, rfl, t', rfl⟩
  case fin2 =>
    intro D ys h14 tk14 k14 gG aG DG0
    have eps : (List.range vs.toArray.size).flatMap (fun i => [g (ns.getD i 0)]) = ns.map g := by
      rw [List.size_toArray, hl, flat_getD 0 (fun p => [g p]) ns]
      exact flat_one _ _
    rw [eps] at aG
    exact hret D ys h14 tk14 k14 gG (intsM aG) DG0
/-- one clause over a list of ints, one condition that never holds: an empty list -/
theorem filtc {elt iter c : Expr} {x : Str} {px : Pos} {scope : Scope} {pos : Pos} {env : Env} {cl : List (Str × Addr)} {Q : Value → Shared → Prop} {Dn n : Nat} {vs : List Value} {ns : List Int}
    (hA : A.handled = none) (hclos : closureFor scope env = pure cl) (hcell : ∀ y ∈ scope.names, y.2 ≠ .cell) (hkind : scope.kind = .function) (hnames : ∀ y ∈ scope.names, y.2 = .local → scope.names.lookup y.1 = some .local)
    (hs : ∀ x, foldedSetIterable iter env x = pure x) (hx : ∀ C, (compEnvC scope cl C env).kindOf x = some .local) (hp : ∀ C, ((compEnvC scope cl C env).scope.kind == .class || ((compEnvC scope cl C env).scope.kind == .module && (compEnvC scope cl C env).locals != (compEnvC scope cl C env).globals)) = false)
    (hN : s.heap.get? Dn = some (listOf vs.toArray n)) (hi : IntsAre vs ns) (hz : ns.length ≤ sizeLine)
    (hit : ∀ Q' : Value → Shared → Prop, (∀ tk, Q' (.ref Dn) {s with toks := tk}) → wpAny (model prog w) A (eval iter env) Q' E s)
    (hel : ∀ (k : Int) t h tk (C : Nat) m (Q' : Bool → Shared → Prop), k ∈ ns → Kpt s.heap h → h.Ns C m → m x = some (.int k t) → (∀ tk, Q' false {s with heap := h, toks := tk}) → wpAny (model prog w) A (isTrue c (compEnvC scope cl C env) (eval c (compEnvC scope cl C env))) Q' NoE {s with heap := h, toks := tk})
    (hret : ∀ (D : Nat) h' tk, Kpt s.heap h' → h'.get? D = some (LCg.lst []) → s.heap.get? D = none → Q (.ref D) {s with heap := h', toks := tk}) :
    wpAny (model prog w) A (eval (.ListComp elt [⟨.Name x px, iter, [c], 0⟩] scope pos) env) Q E s := by
  refine comp1 (α := Int) (Elt := fun _ _ v x => IntE v x) (fun _ _ _ _ _ _ e => e) hclos hcell hkind hnames hs ?_
  refine hit _ fun tk => ?_
  have lN : s.heap.IsList Dn vs.toArray := ⟨_, hN, rfl, _, rfl⟩
  refine iter_list_raw (s := {s with toks := tk}) lN fun h2 I k2 s2 s2' it2 => ?_
  have lt2 : ∀ (b : Nat) o, s.heap.get? b = some o → b < I := fun b o e => s2 ▸ Heap.lt_size e
  have nD2 : Dn ≠ I := Nat.ne_of_lt (lt2 _ _ hN)
  have hl := hi.length
  refine ⟨I, [I, Dn], vs.toArray.size, _, _, fun i => [], h2, tk, rfl, rfl, Walks.list hA I Dn nD2 vs.toArray, ⟨it2, lN.at fun o e => k2 _ _ e⟩, ?fp, k2, ?i0, by rw [s2']; exact Nat.lt_succ_self _, by rw [List.size_toArray, hl]; exact hz, ?ht, ?turn2, ?fin2⟩
  case fp =>
    intro b hb
    rw [s2']
    rcases List.mem_cons.mp hb with rfl | hb
    · exact Nat.lt_succ_self _
    · rw [List.mem_singleton.mp hb]; exact Nat.lt_succ_of_lt (lt2 _ _ hN)
  case i0 =>
    cases q : s.heap.get? I with
    | none => rfl
    | some o => exact absurd (lt2 _ _ q) (Nat.lt_irrefl _)
  case ht =>
    rintro j v h7 hv7 st7 s' Q' rfl hq
    obtain ⟨hj, t, rfl⟩ := ints_get hi (by simpa using hv7)
    exact wpAny_pure hq
  case turn2 =>
    intro j v h7 tk7 C m7 hj7 hv7 k7 n7 c70
    obtain ⟨hj, t, rfl⟩ := ints_get hi (by simpa using hv7)
    refine assign_one (hx C) (hp C) n7 fun h8 tk8 hb8 n8 => ?_
    have kk8 : KptBut C h7 h8 := hb8
    have k8 : Kpt s.heap h8 := fun q o e => kk8 q o (fun q' => by rw [q', c70] at e; cases e) (k7 q o e)
    refine tests_one ?_
    refine hel _ t h8 tk8 C _ _ (getD_mem hj) k8 n8 (if_pos rfl) fun tk' => ?_
    rw [if_neg (by decide)]
    exact ⟨h8, _, _, rfl, kk8, n8, rfl⟩
  case fin2 =>
    intro D ys h14 tk14 k14 gG aG DG0
    have eps : ∀ n, (List.range n).flatMap (fun i => ([] : List Int)) = [] := fun n => by simp
    rw [eps] at aG
    cases aG
    exact hret D h14 tk14 k14 gG DG0
/-- one clause over range(k), no condition, ints out -/
theorem rangec {elt iter : Expr} {x : Str} {px : Pos} {scope : Scope} {pos : Pos} {env : Env} {cl : List (Str × Addr)} {Q : Value → Shared → Prop} {n : Nat} {g : Nat → Int}
    (hA : A.handled = none) (hclos : closureFor scope env = pure cl) (hcell : ∀ y ∈ scope.names, y.2 ≠ .cell) (hkind : scope.kind = .function) (hnames : ∀ y ∈ scope.names, y.2 = .local → scope.names.lookup y.1 = some .local)
    (hs : ∀ x, foldedSetIterable iter env x = pure x) (hx : ∀ C, (compEnvC scope cl C env).kindOf x = some .local) (hp : ∀ C, ((compEnvC scope cl C env).scope.kind == .class || ((compEnvC scope cl C env).scope.kind == .module && (compEnvC scope cl C env).locals != (compEnvC scope cl C env).globals)) = false)
    (hz : n ≤ 1000)
    (hit : ∀ Q' : Value → Shared → Prop, (∀ (h' : Heap) (R tk : Nat) t v u, Kpt s.heap h' → s.heap.objs.size = R → h'.objs.size = R + 1 → IsRange h' R 0 n 1 t v u → Q' (.ref R) {s with heap := h', toks := tk}) → wpAny (model prog w) A (eval iter env) Q' E s)
    (hel : ∀ (k : Nat) t h tk (C : Nat) m (Q' : Value → Shared → Prop), k < n → Kpt s.heap h → h.Ns C m → m x = some (.int k t) → (∀ t tk, Q' (.int (g k) t) {s with heap := h, toks := tk}) → wpAny (model prog w) A (eval elt (compEnvC scope cl C env)) Q' NoE {s with heap := h, toks := tk})
    (hret : ∀ (D : Nat) ys h' tk, Kpt s.heap h' → h'.get? D = some (LCg.lst ys) → IntsAre ys ((List.range n).map g) → s.heap.get? D = none → Q (.ref D) {s with heap := h', toks := tk}) :
    wpAny (model prog w) A (eval (.ListComp elt [⟨.Name x px, iter, [], 0⟩] scope pos) env) Q E s := by
  refine comp1 (α := Int) (Elt := fun _ _ v x => IntE v x) (fun _ _ _ _ _ _ e => e) hclos hcell hkind hnames hs ?_
  refine hit _ fun h17 R17 tk17 t17 v17 u17 k17 s17 s17' r17 => ?_
  refine iter_range_raw (s := {s with heap := h17, toks := tk17}) r17 (range0 (by omega)).1 (range0 (by omega)).2 fun h18 I18 k18 s18 s18' st18 => ?_
  have kk18 : Kpt s.heap h18 := fun b o e => k18 _ _ (k17 _ _ e)
  have ltI18 : ∀ (b : Nat) o, s.heap.get? b = some o → b < I18 := fun b o e => by rw [← s18]; exact Heap.lt_size (k17 _ _ e)
  refine ⟨I18, [I18], n, _, _, fun i => [g i], h18, _, rfl, rfl, LCg.range_walks hA 0 n, st18, ?fp18, kk18, ?i18, by rw [s18']; exact Nat.lt_succ_self _, by rw [sizeLine_eq]; omega, fun _ _ _ _ _ s' Q' _ hq => wpAny_pure hq, ?turn18, ?fin18⟩
  case fp18 =>
    intro b hb
    rw [List.mem_singleton.mp hb, s18']; exact Nat.lt_succ_self _
  case i18 =>
    cases q : s.heap.get? I18 with
    | none => rfl
    | some o => exact absurd (ltI18 _ _ q) (Nat.lt_irrefl _)
  case turn18 =>
    rintro q v h19 tk19 C m19 hq19 ⟨t19, rfl⟩ k19 n19 c190
    rw [show (0 : Int) + (q : Int) = (q : Int) by omega]
    refine assign_one (hx C) (hp C) n19 fun h20 tk20 hb20 n20 => ?_
    refine tests_nil ?_
    rw [if_pos rfl]
    have kk20 : KptBut C h19 h20 := hb20
    have k20 : Kpt s.heap h20 := fun q o e => kk20 q o (fun q' => by rw [q', c190] at e; cases e) (k19 q o e)
    refine hel q t19 h20 tk20 C _ _ hq19 k20 n20 (if_pos rfl) fun t' tk' => ?_
    exact ⟨h20, _, _, rfl, kk20, n20, _, rfl, t', rfl⟩
  case fin18 =>
    intro D ys h14 tk14 k14 gG aG DG0
    rw [flat_one] at aG
    exact hret D ys h14 tk14 k14 gG (intsM aG) DG0
def WStep (s : Shared) (J : Nat → Heap → Prop) (n : Nat) (f : Flow) (s' : Shared) : Prop := f = .next ∧ ∃ n' h' tk', s' = {s with heap := h', toks := tk'} ∧ n' < n ∧ J n' h'
theorem while_raw {env : Env} {test : Expr} {body : List Stmt} {pos : Pos} {Q : Flow → Shared → Prop} (J : Nat → Heap → Prop) {n₀ : Nat} (hJ : J n₀ s.heap)
    (turn : ∀ n h tk, J n h → wpAny (model prog w) A (isTrue test env (eval test env)) (fun b s₂ =>
        if b = true then wpAny (model prog w) A (execs body env) (WStep s J n) E s₂ else Q .next s₂) E { s with heap := h, toks := tk })
    (hE : PassesOwn (model prog w) A env E := by passes_own) :
    wpAny (model prog w) A (exec (.While test body [] pos) env) Q E s := by
  refine wpAny_While (codeAny_whileLoop (fun n s' => ∃ h₁ tk₁, s' = { s with heap := h₁, toks := tk₁ } ∧ J n h₁) ?_ n₀ ⟨s.heap, s.toks, rfl, hJ⟩)
  rintro n s' ⟨h₁, tk₁, rfl, J₁⟩
  refine wpAny_mono (turn n h₁ tk₁ J₁) (fun b s₂ h₂ => ?_) hE
  cases b with
  | false =>
    simp only [Bool.false_eq_true, if_false] at h₂ ⊢
    exact wpAny_execs_nil h₂
  | true =>
    simp only [if_true] at h₂ ⊢
    refine wpAny_mono h₂ (fun f s₃ h₃ => ?_) hE
    obtain ⟨rfl, n', h', tk, rfl, hn, J₂⟩ := h₃
    exact ⟨n', hn, h', tk, rfl, J₂⟩
theorem sum_raw {l : Addr} {vs : List Value} {ns : List Int} {Q : Value → Shared → Prop} (hh : A.handled = none) (hl : s.heap.IsList l vs.toArray) (hi : IntsAre vs ns)
    (h : ∀ h' tk t', Kpt s.heap h' → Q (.int ns.sum t') { s with heap := h', toks := tk }) : wpAny (model prog w) A (call (.builtin "sum") [.ref l]) Q E s := by
  obtain ⟨xs, hx⟩ := hi.allInts.items
  have hl' : s.heap.IsList l (intItems xs) := hx ▸ hl
  refine sum_intListG hh hl' fun h' tk t' hk => ?_
  have e1 : ns = xs.toList.map (·.1) := by
    rw [← nums_intItems, ← hx]
    exact (show numsOf vs.toArray.toList = ns from hi.numsOf).symm
  have e2 : preSum (numAt xs) xs.size = ns.sum := by
    rw [preSum_eq, List.take_of_length_le (by simp), e1]
  rw [e2]
  exact h h' tk t' hk
theorem ne_nils {a b : Nat} {n m : Nat} {Q : Value → Shared → Prop} (ha : s.heap.get? a = some (listOf ([] : List Value).toArray n)) (hb : s.heap.get? b = some (listOf ([] : List Value).toArray m)) (hu : A.units + 8 < cLine) (h : Q (.bool false) s) : wpAny (model prog w) A (compareOp .NotEq (.ref a) (.ref b)) Q E s := by
  refine SeqAt.compareNe_reads (reads_list_at ha rfl rfl .nil) (reads_list_at hb rfl rfl .nil) (by simp [PyData.canLay0, PyData.canLayAll0]) (by simp [PyData.canLay0, PyData.canLayAll0]) ?_ ?_
  · have : min (PyData.list []).depth (PyData.list []).depth ≤ 2 := Nat.le_trans (Nat.min_le_left _ _) (by simp [PyData.depth, PyData.depthAll])
    omega
  · exact h
end
end Mine
/-! part D1 -/
namespace Mine
open PySem PySem.W PyProof.Rows PySem.Calls PySem.Spec
/-- the room that a list of lengths takes, in units of 2^-lim -/
def kr (lim : Nat) : List Nat → Int
  | [] => 0
  | l :: ls => 2 ^ (lim - l) + kr lim ls
def co : List Int → List Nat → Int
  | w :: ws, l :: ls => w * (l : Int) + co ws ls
  | _, _ => 0
theorem pow2_pos (k : Nat) : (0 : Int) < 2 ^ k := Int.pow_pos (by decide)
theorem kr_nonneg (lim : Nat) : ∀ ls, 0 ≤ kr lim ls
  | [] => Int.le_refl _
  | l :: ls => by have := kr_nonneg lim ls; have := pow2_pos (lim - l); unfold kr; omega
theorem fold_iff (lim : Nat) : ∀ (ws : List Int) (S : Int × Int → Prop), (∀ p, S p → 0 ≤ p.2) → ∀ q, ws.foldl (stepS lim) S q ↔
    ∃ p, S p ∧ ∃ ls : List Nat, ls.length = ws.length ∧ (∀ l ∈ ls, 1 ≤ l ∧ l ≤ lim) ∧ kr lim ls ≤ p.2 ∧ q = (p.1 + co ws ls, p.2 - kr lim ls)
  | [], S, hS, q => by
    constructor
    · intro h
      exact ⟨q, h, [], rfl, by simp, hS q h, by simp [co, kr]⟩
    · rintro ⟨p, hp, ls, hl, -, -, rfl⟩
      have : ls = [] := by simpa using hl
      subst this
      simpa [co, kr] using hp
  | w :: ws, S, hS, q => by
    have hS' : ∀ p, stepS lim S w p → 0 ≤ p.2 := by
      rintro p ⟨p0, h0, j, hj, hle, rfl⟩
      show 0 ≤ p0.2 - _
      omega
    rw [List.foldl_cons, fold_iff lim ws (stepS lim S w) hS' q]
    constructor
    · rintro ⟨p, ⟨p0, h0, j, hj, hle, rfl⟩, ls, hl, hr, hk, rfl⟩
      have e : ((lim : Int) - (1 + (j : Int))).toNat = lim - (1 + j) := by omega
      rw [e] at hle hk ⊢
      refine ⟨p0, h0, (1 + j) :: ls, by simp [hl], ?_, ?_, ?_⟩
      · intro l hl'
        rcases List.mem_cons.mp hl' with rfl | hl'
        · omega
        · exact hr l hl'
      · show 2 ^ (lim - (1 + j)) + kr lim ls ≤ p0.2
        have hk' : kr lim ls ≤ p0.2 - 2 ^ (lim - (1 + j)) := hk
        omega
      · show (p0.1 + w * (1 + (j : Int)) + co ws ls, p0.2 - 2 ^ (lim - (1 + j)) - kr lim ls) = (p0.1 + (w * ((1 + j : Nat) : Int) + co ws ls), p0.2 - (2 ^ (lim - (1 + j)) + kr lim ls))
        rw [show ((1 + j : Nat) : Int) = 1 + (j : Int) by simp]
        refine Prod.ext ?_ ?_
        · show p0.1 + w * (1 + (j : Int)) + co ws ls = p0.1 + (w * (1 + (j : Int)) + co ws ls)
          omega
        · show p0.2 - 2 ^ (lim - (1 + j)) - kr lim ls = p0.2 - (2 ^ (lim - (1 + j)) + kr lim ls)
          omega
    · rintro ⟨p0, h0, ls, hl, hr, hk, rfl⟩
      cases ls with
      | nil => simp at hl
      | cons l ls =>
        have hl1 := hr l (.head _)
        have hk' : 2 ^ (lim - l) + kr lim ls ≤ p0.2 := hk
        have hn := kr_nonneg lim ls
        have e : ((lim : Int) - (1 + ((l - 1 : Nat) : Int))).toNat = lim - l := by omega
        have e2 : (1 + ((l - 1 : Nat) : Int)) = (l : Int) := by omega
        refine ⟨_, ⟨p0, h0, l - 1, by omega, by rw [e]; omega, rfl⟩, ls, by simpa using hl, fun x hx => hr x (.tail _ hx), ?_, ?_⟩
        · rw [e]; show kr lim ls ≤ p0.2 - 2 ^ (lim - l); omega
        · rw [e, e2]
          refine Prod.ext ?_ ?_
          · show p0.1 + (w * (l : Int) + co ws ls) = p0.1 + w * (l : Int) + co ws ls
            omega
          · show p0.2 - (2 ^ (lim - l) + kr lim ls) = p0.2 - 2 ^ (lim - l) - kr lim ls
            omega
/-- what the second state machine reaches: the lengths that fit -/
def Fits (lim n : Nat) (ls : List Nat) : Prop := ls.length = n ∧ (∀ l ∈ ls, 1 ≤ l ∧ l ≤ lim) ∧ kr lim ls ≤ 2 ^ lim
theorem SS_iff (lim : Nat) (ws : List Int) (q : Int × Int) : SS lim ws q ↔ ∃ ls, Fits lim ws.length ls ∧ q = (co ws ls, 2 ^ lim - kr lim ls) := by
  unfold SS
  rw [fold_iff lim ws _ (by rintro p rfl; exact Int.le_of_lt (pow2_pos lim)) q]
  constructor
  · rintro ⟨p, rfl, ls, h1, h2, h3, rfl⟩
    exact ⟨ls, ⟨h1, h2, h3⟩, by simp⟩
  · rintro ⟨ls, ⟨h1, h2, h3⟩, rfl⟩
    exact ⟨_, rfl, ls, h1, h2, h3, by simp⟩
theorem best_iff {lim : Nat} {ws : List Int} {M : Int} (h1 : ∃ q, SS lim ws q ∧ q.1 = M) (h2 : ∀ q, SS lim ws q → M ≤ q.1) {C : Int}
    (hC : ∃ ls, Fits lim ws.length ls ∧ C = co ws ls) (hmin : ∀ ls, Fits lim ws.length ls → C ≤ co ws ls) : C = M := by
  obtain ⟨q, hq, rfl⟩ := h1
  obtain ⟨ls, hf, rfl⟩ := hC
  obtain ⟨ls', hf', rfl⟩ := (SS_iff lim ws q).mp hq
  have a := hmin ls' hf'
  have b := h2 _ ((SS_iff lim ws _).mpr ⟨ls, hf, rfl⟩)
  have b' : co ws ls' ≤ co ws ls := b
  show co ws ls = co ws ls'
  omega
end Mine
/-! part D2 -/
namespace Mine
open PySem PySem.W PyProof.Rows PySem.Calls PySem.Spec
abbrev It : Type := Int × List Int
/-- r is p and q mixed, the order of each kept -/
inductive Mix : List It → List It → List It → Prop
  | nil : Mix [] [] []
  | left {x : It} {p q r : List It} : Mix p q r → Mix (x :: p) q (x :: r)
  | right {x : It} {p q r : List It} : Mix p q r → Mix p (x :: q) (x :: r)
theorem Mix.len {p q r : List It} (h : Mix p q r) : r.length = p.length + q.length := by
  induction h with
  | nil => rfl
  | left _ ih => simp only [List.length_cons, ih]; omega
  | right _ ih => simp only [List.length_cons, ih]; omega
theorem Mix.perm {p q r : List It} (h : Mix p q r) : r.Perm (p ++ q) := by
  induction h with
  | nil => exact .refl _
  | left _ ih => exact ih.cons _
  | right _ ih => exact (ih.cons _).trans List.perm_middle.symm
theorem Mix.append {p q r p' q' r' : List It} (h : Mix p q r) (h' : Mix p' q' r') : Mix (p ++ p') (q ++ q') (r ++ r') := by
  induction h with
  | nil => exact h'
  | left _ ih => exact ih.left
  | right _ ih => exact ih.right
theorem Mix.idl : ∀ (p : List It), Mix p [] p
  | [] => .nil
  | x :: p => (Mix.idl p).left
theorem Mix.split {p q r : List It} (h : Mix p q r) : ∀ m, m ≤ r.length → ∃ a b, a + b = m ∧ a ≤ p.length ∧ b ≤ q.length ∧ Mix (p.take a) (q.take b) (r.take m) ∧ Mix (p.drop a) (q.drop b) (r.drop m) := by
  induction h with
  | nil =>
    intro m hm
    have : m = 0 := by simpa using hm
    subst this
    exact ⟨0, 0, rfl, Nat.le_refl _, Nat.le_refl _, .nil, .nil⟩
  | @left x p q r h ih =>
    intro m hm
    cases m with
    | zero => exact ⟨0, 0, rfl, Nat.zero_le _, Nat.zero_le _, .nil, h.left⟩
    | succ m =>
      obtain ⟨a, b, e, ha, hb, h1, h2⟩ := ih m (by simpa using hm)
      exact ⟨a + 1, b, by omega, by simpa using ha, hb, h1.left, h2⟩
  | @right x p q r h ih =>
    intro m hm
    cases m with
    | zero => exact ⟨0, 0, rfl, Nat.zero_le _, Nat.zero_le _, .nil, h.right⟩
    | succ m =>
      obtain ⟨a, b, e, ha, hb, h1, h2⟩ := ih m (by simpa using hm)
      exact ⟨a, b + 1, by omega, ha, by simpa using hb, h1.right, h2⟩
theorem Mix.ins {p q r : List It} {x : It} (h : Mix p q r) (hs : SortedP r) (hq : ∀ y ∈ q, y.1 ≤ x.1) : Mix p (q ++ [x]) (insP r x) := by
  obtain ⟨_, hd⟩ := bisP hs x.1
  obtain ⟨a, b, e, ha, hb, h1, h2⟩ := h.split _ (bisR_le' r x.1)
  have hz : q.drop b = [] := by
    cases hq' : q.drop b with
    | nil => rfl
    | cons y t =>
      exfalso
      have hy : y ∈ q.drop b := by rw [hq']; exact .head _
      have h3 := hd y (h2.perm.mem_iff.mpr (List.mem_append_right _ hy))
      have h4 := hq y (List.mem_of_mem_drop hy)
      omega
  have hzt : q.take b = q := by have := List.take_append_drop b q; rw [hz, List.append_nil] at this; exact this
  rw [hz] at h2
  rw [hzt] at h1
  have h5 := h1.append (h2.right (x := x))
  rw [List.take_append_drop] at h5
  exact h5
theorem Mix.fold : ∀ {xs p q r : List It}, Mix p q r → SortedP r → SortedP xs → (∀ y ∈ q, ∀ x ∈ xs, y.1 ≤ x.1) → Mix p (q ++ xs) (xs.foldl insP r)
  | [], p, q, r, h, _, _, _ => by simpa using h
  | x :: xs, p, q, r, h, hs, hx, hq => by
    have h1 := h.ins hs (fun y hy => hq y hy x (.head _))
    have hx' := List.pairwise_cons.mp hx
    have := Mix.fold (xs := xs) h1 (hs.ins x) hx'.2 (by
      intro y hy z hz
      rcases List.mem_append.mp hy with hy | hy
      · exact hq y hy z (.tail _ hz)
      · rw [List.mem_singleton.mp hy]; exact hx'.1 z hz)
    simpa using this
theorem sorted_getD {row : List It} (hs : SortedP row) {i j : Nat} (hij : i ≤ j) (hj : j < row.length) : (row.getD i I0).1 ≤ (row.getD j I0).1 := by
  have := hs.at i j hij (by simpa using hj)
  rwa [keys_getD, keys_getD] at this
theorem pairsP_sorted {row : List It} (hs : SortedP row) : SortedP (pairsP row) := by
  unfold SortedP pairsP
  rw [List.pairwise_map]
  refine List.Pairwise.imp_of_mem ?_ (List.pairwise_lt_range (n := row.length / 2))
  intro i j hi hj hij
  have hj' := List.mem_range.mp hj
  show (row.getD (2 * i) I0).1 + (row.getD (2 * i + 1) I0).1 ≤ (row.getD (2 * j) I0).1 + (row.getD (2 * j + 1) I0).1
  have h1 := sorted_getD hs (i := 2 * i) (j := 2 * j) (by omega) (by omega)
  have h2 := sorted_getD hs (i := 2 * i + 1) (j := 2 * j + 1) (by omega) (by omega)
  omega
theorem row_mix (ws : List Int) (j : Nat) : Mix (plainP ws ws.length) (pairsP (rowP ws j)) (rowP ws (j + 1)) := by
  have := Mix.fold (Mix.idl (plainP ws ws.length)) (plainP_sorted ws _) (pairsP_sorted (rowP_sorted ws j)) (by intro y hy; cases hy)
  simpa [rowP] using this
theorem row_len (ws : List Int) (j : Nat) : (rowP ws (j + 1)).length = ws.length + (rowP ws j).length / 2 := by
  rw [(row_mix ws j).len, plainP_length, pairsP_length]
/-- a sum over items -/
def sm (φ : It → Int) : List It → Int
  | [] => 0
  | x :: r => φ x + sm φ r
theorem sm_append (φ : It → Int) : ∀ (p q : List It), sm φ (p ++ q) = sm φ p + sm φ q
  | [], q => by simp [sm]
  | x :: p, q => by simp only [List.cons_append, sm, sm_append φ p q]; omega
theorem sm_perm (φ : It → Int) {p q : List It} (h : p.Perm q) : sm φ p = sm φ q := by
  induction h with
  | nil => rfl
  | cons x _ ih => simp only [sm, ih]
  | swap x y l => simp only [sm]; omega
  | trans _ _ h1 h2 => exact h1.trans h2
/-- a measure that adds up over a pair -/
def Adds (φ : It → Int) : Prop := ∀ x y : It, φ (x.1 + y.1, x.2 ++ y.2) = φ x + φ y
theorem sm_take_succ (φ : It → Int) (row : List It) (i : Nat) (hi : i < row.length) : sm φ (row.take (i + 1)) = sm φ (row.take i) + φ (row.getD i I0) := by
  rw [List.take_add_one, sm_append, List.getElem?_eq_getElem hi, List.getD_eq_getElem?_getD, List.getElem?_eq_getElem hi]
  simp [sm]
theorem sm_pairs {φ : It → Int} (hφ : Adds φ) (row : List It) : ∀ b, b ≤ row.length / 2 → sm φ ((pairsP row).take b) = sm φ (row.take (2 * b))
  | 0, _ => rfl
  | b + 1, h => by
    have hb : b < (pairsP row).length := by rw [pairsP_length]; omega
    rw [sm_take_succ φ _ b hb, sm_pairs hφ row b (by omega), show 2 * (b + 1) = 2 * b + 1 + 1 by omega, sm_take_succ φ row (2 * b + 1) (by omega), sm_take_succ φ row (2 * b) (by omega)]
    have e : (pairsP row).getD b I0 = pairP row b := by
      rw [List.getD_eq_getElem?_getD, List.getElem?_eq_getElem hb]; simp [pairsP]
    rw [e]
    have := hφ (row.getD (2 * b) I0) (row.getD (2 * b + 1) I0)
    unfold pairP
    omega
/-- the key adds up -/
def key (x : It) : Int := x.1
theorem key_adds : Adds key := fun _ _ => rfl
end Mine
/-! part D3 -/
namespace Mine
open PySem PySem.W PyProof.Rows PySem.Calls PySem.Spec
/-- the first items of a sorted list are the least -/
theorem take_least : ∀ (K M R : List It), SortedP K → (M ++ R).Perm K → sm key (K.take M.length) ≤ sm key M
  | [], M, R, _, h => by
    have := h.length_eq
    have h0 : M = [] := by
      cases M with
      | nil => rfl
      | cons a t => simp at this
    subst h0; exact Int.le_refl _
  | k :: K, [], R, _, _ => by simp [sm]
  | k :: K, y :: M, R, hs, h => by
    have hs' := List.pairwise_cons.mp hs
    have hk : k ∈ (y :: M) ++ R := h.symm.mem_iff.mp (.head _)
    rcases List.mem_append.mp hk with hk | hk
    · have h1 := List.perm_cons_erase hk
      have h2 : ((y :: M).erase k ++ R).Perm K := ((h1.append_right R).symm.trans h).cons_inv
      have ih := take_least K ((y :: M).erase k) R hs'.2 h2
      rw [sm_perm key h1]
      have hl : (y :: M).length = ((y :: M).erase k).length + 1 := by rw [h1.length_eq, List.length_cons]
      rw [hl, List.take_succ_cons]
      simp only [sm]
      omega
    · have h1 := List.perm_cons_erase hk
      have h2 : (M ++ (y :: R.erase k)).Perm K := by
        refine List.Perm.cons_inv (a := k) (List.Perm.trans ?_ h)
        refine List.Perm.trans ?_ (h1.symm.append_left (y :: M))
        refine (List.Perm.cons k List.perm_middle).trans ?_
        refine (List.Perm.swap y k _).trans ?_
        exact (List.perm_middle.symm).cons y
      have ih := take_least K M (y :: R.erase k) hs'.2 h2
      have hy : k.1 ≤ y.1 := by
        rcases List.mem_cons.mp (h.mem_iff.mp (List.mem_append_left _ (.head _))) with e | e
        · rw [e]; exact Int.le_refl _
        · exact hs'.1 y e
      rw [List.length_cons, List.take_succ_cons]
      simp only [sm]
      have : key k ≤ key y := hy
      omega
theorem insP_mem {p : List It} {x y : It} : y ∈ insP p x ↔ y = x ∨ y ∈ p := by
  unfold insP
  rw [List.perm_middle.mem_iff, List.mem_cons, List.take_append_drop]
theorem plainP_pos {ws : List Int} (h : ∀ w ∈ ws, 1 ≤ w) : ∀ i, i ≤ ws.length → ∀ x ∈ plainP ws i, 1 ≤ x.1
  | 0, _, x, hx => by cases hx
  | i + 1, hi, x, hx => by
    rw [plainP_succ, insP_mem] at hx
    rcases hx with rfl | hx
    · show 1 ≤ ws.getD i 0
      rw [List.getD_eq_getElem?_getD, List.getElem?_eq_getElem (by omega)]
      exact h _ (List.getElem_mem _)
    · exact plainP_pos h i (by omega) x hx
theorem getD_pos {row : List It} (h : ∀ x ∈ row, 1 ≤ x.1) {i : Nat} (hi : i < row.length) : 1 ≤ (row.getD i I0).1 := by
  rw [List.getD_eq_getElem?_getD, List.getElem?_eq_getElem hi]
  exact h _ (List.getElem_mem hi)
theorem pairsP_pos {row : List It} (h : ∀ x ∈ row, 1 ≤ x.1) : ∀ x ∈ pairsP row, 1 ≤ x.1 := by
  intro x hx
  obtain ⟨i, hi, rfl⟩ := List.mem_map.mp hx
  have hi' := List.mem_range.mp hi
  have h1 := getD_pos h (i := 2 * i) (by omega)
  have h2 := getD_pos h (i := 2 * i + 1) (by omega)
  show 1 ≤ (row.getD (2 * i) I0).1 + (row.getD (2 * i + 1) I0).1
  omega
theorem rowP_pos {ws : List Int} (h : ∀ w ∈ ws, 1 ≤ w) : ∀ j, ∀ x ∈ rowP ws j, 1 ≤ x.1
  | 0 => plainP_pos h _ (Nat.le_refl _)
  | j + 1 => by
    intro x hx
    rcases List.mem_append.mp ((row_mix ws j).perm.mem_iff.mp hx) with hx | hx
    · exact plainP_pos h _ (Nat.le_refl _) x hx
    · exact pairsP_pos (rowP_pos h j) x hx
theorem sm_take_mono {row : List It} (h : ∀ x ∈ row, 1 ≤ x.1) {a b : Nat} (hab : a ≤ b) : sm key (row.take a) ≤ sm key (row.take b) := by
  have e : row.take b = row.take a ++ (row.drop a).take (b - a) := by
    conv => lhs; rw [show b = a + (b - a) by omega, List.take_add]
  have hn : ∀ (p : List It), (∀ x ∈ p, 1 ≤ x.1) → 0 ≤ sm key p := by
    intro p
    induction p with
    | nil => intro _; exact Int.le_refl _
    | cons x p ih =>
      intro hp
      have h1 : 1 ≤ key x := hp x (.head _)
      have h2 := ih fun y hy => hp y (.tail _ hy)
      simp only [sm]; omega
  rw [e, sm_append]
  have := hn ((row.drop a).take (b - a)) fun x hx => h x (List.mem_of_mem_drop (List.mem_of_mem_take hx))
  omega
/-- how many items of row j the coins X 0 .. X j make -/
def cnt (X : Nat → List It) : Nat → Nat
  | 0 => (X 0).length
  | j + 1 => (X (j + 1)).length + cnt X j / 2
def sumw (X : Nat → List It) : Nat → Int
  | 0 => sm key (X 0)
  | j + 1 => sm key (X (j + 1)) + sumw X j
theorem cnt_le {ws : List Int} {X R : Nat → List It} (hX : ∀ t, (X t ++ R t).Perm (plainP ws ws.length)) : ∀ j, cnt X j ≤ (rowP ws j).length
  | 0 => by
    have := (hX 0).length_eq
    rw [List.length_append] at this
    show (X 0).length ≤ (plainP ws ws.length).length
    omega
  | j + 1 => by
    have := (hX (j + 1)).length_eq
    rw [List.length_append, plainP_length] at this
    have ih := cnt_le hX j
    rw [row_len]
    show (X (j + 1)).length + cnt X j / 2 ≤ _
    have := Nat.div_le_div_right (c := 2) ih
    omega
theorem low {ws : List Int} (hp : ∀ w ∈ ws, 1 ≤ w) {X R : Nat → List It} (hX : ∀ t, (X t ++ R t).Perm (plainP ws ws.length)) : ∀ j, sm key ((rowP ws j).take (cnt X j)) ≤ sumw X j
  | 0 => take_least _ _ (R 0) (plainP_sorted ws _) (hX 0)
  | j + 1 => by
    have ih := low hp hX j
    have hc := cnt_le hX j
    have h1 := sm_take_mono (rowP_pos hp j) (a := 2 * (cnt X j / 2)) (b := cnt X j) (by omega)
    have h2 := sm_pairs key_adds (rowP ws j) (cnt X j / 2) (Nat.div_le_div_right hc)
    have hpl : cnt X j / 2 ≤ (pairsP (rowP ws j)).length := by rw [pairsP_length]; exact Nat.div_le_div_right hc
    have h3 : ((X (j + 1) ++ (pairsP (rowP ws j)).take (cnt X j / 2)) ++ (R (j + 1) ++ (pairsP (rowP ws j)).drop (cnt X j / 2))).Perm (rowP ws (j + 1)) := by
      refine List.Perm.trans ?_ (row_mix ws j).perm.symm
      refine List.Perm.trans ?_ ((hX (j + 1)).append_right _)
      conv => rhs; rw [← List.take_append_drop (cnt X j / 2) (pairsP (rowP ws j))]
      simp only [List.append_assoc]
      refine List.Perm.append_left _ ?_
      rw [← List.append_assoc, ← List.append_assoc]
      exact (List.perm_append_comm).append_right _
    have h4 := take_least _ _ _ (rowP_sorted ws (j + 1)) h3
    rw [List.length_append, List.length_take, Nat.min_eq_left hpl, sm_append] at h4
    show sm key ((rowP ws (j + 1)).take ((X (j + 1)).length + cnt X j / 2)) ≤ sm key (X (j + 1)) + sumw X j
    omega
end Mine
/-! part D4 -/
namespace Mine
open PySem PySem.W PyProof.Rows PySem.Calls PySem.Spec
def itm (ws : List Int) (k : Nat) : It := (ws.getD k 0, [(k : Int)])
theorem plain_idx (ws : List Int) : ∀ i, ∃ I : List Nat, I.Perm (List.range i) ∧ plainP ws i = I.map (itm ws)
  | 0 => ⟨[], .refl _, rfl⟩
  | i + 1 => by
    obtain ⟨I, hI, e⟩ := plain_idx ws i
    rw [plainP_succ, e]
    generalize hb : bisR ((I.map (itm ws)).map (·.1)) (ws.getD i 0) 0 (I.map (itm ws)).length = b
    refine ⟨I.take b ++ i :: I.drop b, ?_, ?_⟩
    · refine List.perm_middle.trans ?_
      rw [List.take_append_drop, List.range_succ]
      exact (hI.cons i).trans (List.perm_append_comm (l₁ := [i]))
    · show (I.map (itm ws)).take (bisR ((I.map (itm ws)).map (·.1)) (ws.getD i 0) 0 (I.map (itm ws)).length) ++ itm ws i :: (I.map (itm ws)).drop (bisR ((I.map (itm ws)).map (·.1)) (ws.getD i 0) 0 (I.map (itm ws)).length) = _
      rw [hb, List.map_append, List.map_cons, List.map_take, List.map_drop]
/-- a sum over a list of numbers -/
def suI {α : Type} (f : α → Int) : List α → Int
  | [] => 0
  | k :: r => f k + suI f r
theorem suI_perm {α : Type} (f : α → Int) {p q : List α} (h : p.Perm q) : suI f p = suI f q := by
  induction h with
  | nil => rfl
  | cons x _ ih => simp only [suI, ih]
  | swap x y l => simp only [suI]; omega
  | trans _ _ h1 h2 => exact h1.trans h2
theorem suI_map {α β : Type} (g : β → α) (f : α → Int) : ∀ (l : List β), suI f (l.map g) = suI (fun k => f (g k)) l
  | [] => rfl
  | x :: r => by simp only [List.map_cons, suI, suI_map g f r]
theorem suI_congr {α : Type} {f g : α → Int} : ∀ {l : List α}, (∀ k ∈ l, f k = g k) → suI f l = suI g l
  | [], _ => rfl
  | x :: r, h => by simp only [suI]; rw [h x (.head _), suI_congr fun k hk => h k (.tail _ hk)]
theorem suI_getD (f : Nat → Int) : ∀ (ls : List Nat), suI (fun k => f (ls.getD k 0)) (List.range ls.length) = suI f ls
  | [] => rfl
  | l :: ls => by
    rw [List.length_cons, List.range_succ_eq_map]
    simp only [suI]
    rw [suI_map, ← suI_getD f ls]
    rfl
theorem kr_suI (lim : Nat) : ∀ ls, kr lim ls = suI (fun l => (2 : Int) ^ (lim - l)) ls
  | [] => rfl
  | l :: ls => by simp only [kr, suI, kr_suI lim ls]
theorem co_suI : ∀ (ws : List Int) (ls : List Nat), ls.length = ws.length → co ws ls = suI (fun k => ws.getD k 0 * (ls.getD k 0 : Int)) (List.range ws.length)
  | [], [], _ => rfl
  | [], _ :: _, h => by simp at h
  | _ :: _, [], h => by simp at h
  | w :: ws, l :: ls, h => by
    rw [List.length_cons, List.range_succ_eq_map]
    simp only [suI]
    rw [suI_map, co, co_suI ws ls (by simpa using h)]
    rfl
def sumM (f : Nat → Nat) : Nat → Nat
  | 0 => 0
  | j + 1 => f j + sumM f j
def sumN (f : Nat → Int) : Nat → Int
  | 0 => 0
  | j + 1 => f j + sumN f j
theorem sumN_add (f g : Nat → Int) : ∀ j, sumN (fun t => f t + g t) j = sumN f j + sumN g j
  | 0 => rfl
  | j + 1 => by simp only [sumN, sumN_add f g j]; omega
theorem sumN_congr {f g : Nat → Int} (h : ∀ t, f t = g t) (j : Nat) : sumN f j = sumN g j := by
  have : f = g := funext h
  rw [this]
theorem sumN_zero : ∀ j, sumN (fun _ => 0) j = 0
  | 0 => rfl
  | j + 1 => by simp only [sumN, sumN_zero j]; omega
theorem sumN_step (w : Int) (c : Nat) : ∀ m, sumN (fun t => if c ≤ t then w else 0) m = w * ((m - c : Nat) : Int)
  | 0 => by simp [sumN]
  | m + 1 => by
    simp only [sumN, sumN_step w c m]
    by_cases h : c ≤ m
    · rw [if_pos h, show m + 1 - c = (m - c) + 1 by omega]
      simp only [Int.natCast_add, Int.mul_add]
      simp
      omega
    · rw [if_neg h, show m + 1 - c = m - c by omega]; omega
theorem sumN_pow (c : Nat) : ∀ m, c ≤ m → sumN (fun t => if c ≤ t then (2 : Int) ^ t else 0) m = 2 ^ m - 2 ^ c
  | 0, h => by
    have : c = 0 := by omega
    subst this; rfl
  | m + 1, h => by
    rcases Nat.lt_or_ge m c with hc | hc
    · have : c = m + 1 := by omega
      subst this
      have hz : ∀ j, j ≤ m + 1 → sumN (fun t => if m + 1 ≤ t then (2 : Int) ^ t else 0) j = 0 := by
        intro j
        induction j with
        | zero => intro _; rfl
        | succ j ih => intro hj; simp only [sumN]; rw [if_neg (by omega), ih (by omega)]; rfl
      rw [hz _ (Nat.le_refl _)]; omega
    · simp only [sumN]
      rw [sumN_pow c m hc, if_pos hc, Int.pow_succ]
      omega
theorem cnt_eq (X : Nat → List It) : ∀ j, cnt X j = sumM (fun t => (X t).length * 2 ^ t) (j + 1) / 2 ^ j
  | 0 => by simp [cnt, sumM]
  | j + 1 => by
    show (X (j + 1)).length + cnt X j / 2 = ((X (j + 1)).length * 2 ^ (j + 1) + sumM (fun t => (X t).length * 2 ^ t) (j + 1)) / 2 ^ (j + 1)
    rw [cnt_eq X j, Nat.div_div_eq_div_mul, Nat.add_comm (_ * _), Nat.add_mul_div_right _ _ (Nat.two_pow_pos (j + 1)), ← Nat.pow_succ, Nat.add_comm]
theorem sumw_eq (X : Nat → List It) : ∀ j, sumw X j = sumN (fun t => sm key (X t)) (j + 1)
  | 0 => by simp [sumw, sumN]
  | j + 1 => by rw [sumw, sumw_eq X j]; rfl
theorem sumM_cast (f : Nat → Nat) : ∀ j, ((sumM f j : Nat) : Int) = sumN (fun t => (f t : Int)) j
  | 0 => rfl
  | j + 1 => by simp only [sumM, sumN, ← sumM_cast f j]; omega
/-- the coins of level t that lengths take -/
def XX (ws : List Int) (I : List Nat) (lim : Nat) (len : Nat → Nat) (t : Nat) : List It := (I.filter fun k => decide (lim - t ≤ len k)).map (itm ws)
theorem XX_w (ws : List Int) (lim : Nat) (len : Nat → Nat) : ∀ (I : List Nat), (∀ k ∈ I, 1 ≤ len k ∧ len k ≤ lim) → sumN (fun t => sm key (XX ws I lim len t)) lim = suI (fun k => ws.getD k 0 * (len k : Int)) I
  | [], _ => sumN_zero lim
  | k :: I, h => by
    have hk := h k (.head _)
    have e : ∀ t, sm key (XX ws (k :: I) lim len t) = (if lim - len k ≤ t then ws.getD k 0 else 0) + sm key (XX ws I lim len t) := by
      intro t
      unfold XX
      rw [List.filter_cons]
      by_cases hc : lim - t ≤ len k
      · rw [if_pos (decide_eq_true hc), if_pos (by omega)]; rfl
      · rw [if_neg (by simpa using hc), if_neg (by omega)]; omega
    rw [sumN_congr e, sumN_add, sumN_step, XX_w ws lim len I fun k hk => h k (.tail _ hk)]
    simp only [suI]
    rw [show lim - (lim - len k) = len k by omega]
theorem XX_c (ws : List Int) (lim : Nat) (len : Nat → Nat) : ∀ (I : List Nat), (∀ k ∈ I, 1 ≤ len k ∧ len k ≤ lim) → sumN (fun t => (((XX ws I lim len t).length * 2 ^ t : Nat) : Int)) lim + suI (fun k => (2 : Int) ^ (lim - len k)) I = (I.length : Int) * 2 ^ lim
  | [], _ => by
    have e : ∀ t, (((XX ws [] lim len t).length * 2 ^ t : Nat) : Int) = 0 := by intro t; simp [XX]
    rw [sumN_congr e, sumN_zero]; simp [suI]
  | k :: I, h => by
    have hk := h k (.head _)
    have e : ∀ t, (((XX ws (k :: I) lim len t).length * 2 ^ t : Nat) : Int) = (if lim - len k ≤ t then (2 : Int) ^ t else 0) + (((XX ws I lim len t).length * 2 ^ t : Nat) : Int) := by
      intro t
      unfold XX
      rw [List.filter_cons]
      by_cases hc : lim - t ≤ len k
      · rw [if_pos (decide_eq_true hc), if_pos (by omega)]
        simp only [List.map_cons, List.length_cons, Nat.add_mul, Nat.one_mul, Int.natCast_add]
        simp
        omega
      · rw [if_neg (by simpa using hc), if_neg (by omega)]; omega
    have ih := XX_c ws lim len I fun k hk => h k (.tail _ hk)
    rw [sumN_congr e, sumN_add, sumN_pow _ _ (by omega)]
    simp only [suI, List.length_cons, Int.natCast_add, Int.add_mul]
    simp only [Int.natCast_one, Int.one_mul]
    omega
theorem low_fits {ws : List Int} (hp : ∀ w ∈ ws, 1 ≤ w) {lim : Nat} (hl : 1 ≤ lim) (hn2 : 2 ≤ ws.length) {ls : List Nat} (h : Fits lim ws.length ls) : sm key ((rowP ws (lim - 1)).take (2 * ws.length - 2)) ≤ co ws ls := by
  obtain ⟨h1, h2, h3⟩ := h
  obtain ⟨I, hI, e⟩ := plain_idx ws ws.length
  have hmem : ∀ k ∈ I, 1 ≤ ls.getD k 0 ∧ ls.getD k 0 ≤ lim := by
    intro k hk
    have hk' := List.mem_range.mp (hI.mem_iff.mp hk)
    rw [List.getD_eq_getElem?_getD, List.getElem?_eq_getElem (by omega)]
    exact h2 _ (List.getElem_mem _)
  have hX : ∀ t, (XX ws I lim (fun k => ls.getD k 0) t ++ (I.filter fun k => !decide (lim - t ≤ ls.getD k 0)).map (itm ws)).Perm (plainP ws ws.length) := by
    intro t
    rw [e]
    unfold XX
    rw [← List.map_append]
    exact (List.filter_append_perm _ I).map _
  have hlow := low hp hX (lim - 1)
  have hw := sumw_eq (XX ws I lim fun k => ls.getD k 0) (lim - 1)
  have hc := cnt_eq (XX ws I lim fun k => ls.getD k 0) (lim - 1)
  rw [show lim - 1 + 1 = lim by omega] at hw hc
  rw [XX_w ws lim _ I hmem] at hw
  have hcc := XX_c ws lim (fun k => ls.getD k 0) I hmem
  rw [← sumM_cast] at hcc
  have ek : suI (fun k => (2 : Int) ^ (lim - ls.getD k 0)) I = kr lim ls := by
    rw [suI_perm _ hI, kr_suI, ← h1]
    exact suI_getD (fun l => (2 : Int) ^ (lim - l)) ls
  have ew : suI (fun k => ws.getD k 0 * (ls.getD k 0 : Int)) I = co ws ls := by
    rw [suI_perm _ hI, co_suI ws ls h1]
  have hlen : I.length = ws.length := by rw [hI.length_eq, List.length_range]
  rw [ek, hlen] at hcc
  have hge : 2 * ws.length - 2 ≤ cnt (XX ws I lim fun k => ls.getD k 0) (lim - 1) := by
    rw [hc, Nat.le_div_iff_mul_le (Nat.two_pow_pos _)]
    have e2 : (2 : Nat) ^ lim = 2 * 2 ^ (lim - 1) := by
      conv => lhs; rw [show lim = lim - 1 + 1 by omega, Nat.pow_succ]
      omega
    have e3 : (2 * ws.length - 2) * 2 ^ (lim - 1) = (ws.length - 1) * 2 ^ lim := by
      rw [e2, ← Nat.mul_assoc, show 2 * ws.length - 2 = (ws.length - 1) * 2 by omega]
    rw [e3]
    have e4 : (((ws.length - 1) * 2 ^ lim : Nat) : Int) ≤ ws.length * 2 ^ lim - 2 ^ lim := by
      cases hn : ws.length with
      | zero => omega
      | succ n =>
        simp only [Nat.add_sub_cancel, Int.natCast_mul, Int.natCast_add, Int.add_mul]
        simp
    omega
  have := sm_take_mono (rowP_pos hp (lim - 1)) hge
  omega
end Mine
/-! part D5 -/
namespace Mine
open PySem PySem.W PyProof.Rows PySem.Calls PySem.Spec
theorem sorted_td {r : List It} (h : SortedP r) (m : Nat) {x y : It} (hx : x ∈ r.take m) (hy : y ∈ r.drop m) : x.1 ≤ y.1 := by
  have h' : SortedP (r.take m ++ r.drop m) := by rw [List.take_append_drop]; exact h
  exact (List.pairwise_append.mp h').2.2 x hx y hy
theorem getD_take {r : List It} {i m : Nat} (hi : i < m) (hr : i < r.length) : r.getD i I0 ∈ r.take m := by
  rw [List.getD_eq_getElem?_getD, List.getElem?_eq_getElem hr]
  refine List.mem_of_getElem (i := i) (h := by rw [List.length_take]; omega) ?_
  rw [List.getElem_take]; rfl
theorem getD_drop {r : List It} {i m : Nat} (hi : m ≤ i) (hr : i < r.length) : r.getD i I0 ∈ r.drop m := by
  rw [List.getD_eq_getElem?_getD, List.getElem?_eq_getElem hr]
  refine List.mem_of_getElem (i := i - m) (h := by rw [List.length_drop]; omega) ?_
  rw [List.getElem_drop]
  simp [show m + (i - m) = i by omega]
def ev : List Nat → Nat
  | [] => 0
  | a :: r => a * 2 ^ r.length + ev r
/-- what a prefix of a row is made of: prefixes of the plain row -/
theorem row_prefix {ws : List Int} (hp : ∀ w ∈ ws, 1 ≤ w) : ∀ (j m : Nat), m ≤ (rowP ws j).length → ∃ (a : Nat) (r : List Nat), r.length = j ∧ (∀ b ∈ a :: r, b ≤ ws.length) ∧ (a :: r).Pairwise (· ≥ ·) ∧ ev (a :: r) = m * 2 ^ j ∧
    (∀ φ, Adds φ → sm φ ((rowP ws j).take m) = suI (fun b => sm φ ((plainP ws ws.length).take b)) (a :: r)) ∧ (0 < a → (plainP ws ws.length).getD (a - 1) I0 ∈ (rowP ws j).take m)
  | 0, m, hm => by
    have hm' : m ≤ (plainP ws ws.length).length := hm
    rw [plainP_length] at hm'
    refine ⟨m, [], rfl, ?_, List.pairwise_singleton _ _, by simp [ev], fun φ _ => ?_, fun h0 => ?_⟩
    · intro b hb; rw [List.mem_singleton.mp hb]; exact hm'
    · simp [suI, rowP]
    · exact getD_take (r := plainP ws ws.length) (by omega) (by rw [plainP_length]; omega)
  | j + 1, m, hm => by
    obtain ⟨a, b, e, ha, hb, M1, M2⟩ := (row_mix ws j).split m hm
    rw [plainP_length] at ha
    rw [pairsP_length] at hb
    obtain ⟨a', r, hr, h1, h2, h3, h4, h5⟩ := row_prefix hp j (2 * b) (by omega)
    have haa : a' ≤ a := by
      rcases Nat.lt_or_ge a a' with hlt | hge
      · exfalso
        have ha' : a' ≤ ws.length := h1 _ (.head _)
        have hu := h5 (by omega)
        have hb1 : 1 ≤ b := by
          rcases Nat.eq_zero_or_pos b with h0 | h0
          · subst h0; simp at hu
          · exact h0
        have hrow := rowP_sorted ws j
        have hu1 : ((plainP ws ws.length).getD (a' - 1) I0).1 ≤ ((rowP ws j).getD (2 * b - 1) I0).1 := by
          obtain ⟨i, hi, ei⟩ := List.getElem_of_mem hu
          rw [List.length_take] at hi
          have := sorted_getD hrow (i := i) (j := 2 * b - 1) (by omega) (by omega)
          rw [List.getD_eq_getElem?_getD, List.getElem?_eq_getElem (by omega)] at this
          rw [List.getElem_take] at ei
          rw [← ei]; exact this
        have hpos := getD_pos (rowP_pos hp j) (i := 2 * (b - 1)) (by omega)
        have hpr : (pairP (rowP ws j) (b - 1)).1 = ((rowP ws j).getD (2 * (b - 1)) I0).1 + ((rowP ws j).getD (2 * b - 1) I0).1 := by
          show _ + ((rowP ws j).getD (2 * (b - 1) + 1) I0).1 = _
          rw [show 2 * (b - 1) + 1 = 2 * b - 1 by omega]
        have hpm : pairP (rowP ws j) (b - 1) ∈ (rowP ws (j + 1)).take m := by
          refine M1.perm.mem_iff.mpr (List.mem_append_right _ ?_)
          have := getD_take (r := pairsP (rowP ws j)) (i := b - 1) (m := b) (by omega) (by rw [pairsP_length]; omega)
          rw [List.getD_eq_getElem?_getD, List.getElem?_eq_getElem (by rw [pairsP_length]; omega)] at this
          simpa [pairsP] using this
        have hdm : (plainP ws ws.length).getD a I0 ∈ (rowP ws (j + 1)).drop m :=
          M2.perm.mem_iff.mpr (List.mem_append_left _ (getD_drop (Nat.le_refl _) (by rw [plainP_length]; omega)))
        have hle := sorted_td (rowP_sorted ws (j + 1)) m hpm hdm
        have hle2 := sorted_getD (plainP_sorted ws ws.length) (i := a) (j := a' - 1) (by omega) (by rw [plainP_length]; omega)
        omega
      · exact hge
    refine ⟨a, a' :: r, by simp [hr], ?_, ?_, ?_, fun φ hφ => ?_, fun h0 => ?_⟩
    · intro c hc
      rcases List.mem_cons.mp hc with rfl | hc
      · exact ha
      · exact h1 c hc
    · refine List.pairwise_cons.mpr ⟨fun c hc => ?_, h2⟩
      rcases List.mem_cons.mp hc with rfl | hc
      · exact haa
      · exact Nat.le_trans ((List.pairwise_cons.mp h2).1 c hc) haa
    · show a * 2 ^ (a' :: r).length + ev (a' :: r) = _
      rw [h3, List.length_cons, hr, ← e, Nat.pow_succ]
      simp only [Nat.add_mul]
      rw [show 2 * b * 2 ^ j = b * (2 ^ j * 2) by rw [Nat.mul_comm 2 b, Nat.mul_assoc, Nat.mul_comm 2]]
    · rw [sm_perm φ M1.perm, sm_append, sm_pairs hφ _ b hb, h4 φ hφ]
      rfl
    · refine M1.perm.mem_iff.mpr (List.mem_append_left _ (getD_take (by omega) (by rw [plainP_length]; omega)))
/-- how many of the prefixes reach past r -/
def Nn : List Nat → Nat → Nat
  | [], _ => 0
  | a :: as, r => (if r < a then 1 else 0) + Nn as r
theorem Nn_le : ∀ (as : List Nat) (r : Nat), Nn as r ≤ as.length
  | [], _ => Nat.le_refl _
  | a :: as, r => by have := Nn_le as r; simp only [Nn, List.length_cons]; split <;> omega
theorem Nn_zero : ∀ (as : List Nat) (r : Nat), (∀ a ∈ as, a ≤ r) → Nn as r = 0
  | [], _, _ => rfl
  | a :: as, r, h => by
    have h1 := h a (.head _)
    simp only [Nn]
    rw [Nn_zero as r fun b hb => h b (.tail _ hb), if_neg (by omega)]
theorem Nn_pred : ∀ (as : List Nat) (r : Nat), Nn as (r + 1) = Nn (as.map (· - 1)) r
  | [], _ => rfl
  | a :: as, r => by
    simp only [Nn, List.map_cons, Nn_pred as r]
    by_cases h : r + 1 < a
    · rw [if_pos h, if_pos (by omega)]
    · rw [if_neg h, if_neg (by omega)]
theorem suI_append {α : Type} (f : α → Int) : ∀ (p q : List α), suI f (p ++ q) = suI f p + suI f q
  | [], q => by simp [suI]
  | x :: p, q => by simp only [List.cons_append, suI, suI_append f p q]; omega
theorem suI_range (f : Nat → Int) : ∀ n, suI f (List.range n) = sumN f n
  | 0 => rfl
  | n + 1 => by rw [List.range_succ, suI_append, suI_range f n]; simp only [suI, sumN]; omega
theorem suI_add {α : Type} (f g : α → Int) : ∀ (l : List α), suI (fun k => f k + g k) l = suI f l + suI g l
  | [] => rfl
  | x :: r => by simp only [suI, suI_add f g r]; omega
theorem suI_sub {α : Type} (c : Int) (g : α → Int) : ∀ (l : List α), suI (fun k => c - g k) l = l.length * c - suI g l
  | [] => by simp [suI]
  | x :: r => by simp only [suI, suI_sub c g r, List.length_cons, Int.natCast_add, Int.add_mul]; simp; omega
theorem sumN_lt (c : Int) (a : Nat) : ∀ n, a ≤ n → sumN (fun r => if r < a then c else 0) n = a * c
  | 0, h => by have : a = 0 := by omega
               subst this; simp [sumN]
  | n + 1, h => by
    simp only [sumN]
    by_cases hn : n < a
    · rw [if_pos hn]
      have : a = n + 1 := by omega
      subst this
      have : ∀ m, m ≤ n → sumN (fun r => if r < n + 1 then c else 0) m = m * c := by
        intro m
        induction m with
        | zero => intro _; simp [sumN]
        | succ m ih => intro hm; simp only [sumN]; rw [if_pos (by omega), ih (by omega)]; simp only [Int.natCast_add, Int.add_mul]; simp; omega
      rw [this n (Nat.le_refl _)]; simp only [Int.natCast_add, Int.add_mul]; simp; omega
    · rw [if_neg hn, sumN_lt c a n (by omega)]; omega
theorem kraft_as : ∀ (as : List Nat) (n : Nat), as.Pairwise (· ≥ ·) → (∀ a ∈ as, a ≤ n) → suI (fun r => (2 : Int) ^ as.length - 2 ^ (as.length - Nn as r)) (List.range n) = ev as
  | [], n, _, _ => by
    rw [suI_congr (g := fun _ => 0) (by intro k _; simp [Nn]), suI_range, sumN_zero]; rfl
  | a :: as, n, hs, hn => by
    have hs' := List.pairwise_cons.mp hs
    have e : ∀ r ∈ List.range n, (2 : Int) ^ (a :: as).length - 2 ^ ((a :: as).length - Nn (a :: as) r) = (if r < a then (2 : Int) ^ as.length else 0) + ((2 : Int) ^ as.length - 2 ^ (as.length - Nn as r)) := by
      intro r _
      have hle := Nn_le as r
      simp only [List.length_cons, Nn]
      by_cases h : r < a
      · rw [if_pos h, if_pos h, show as.length + 1 - (1 + Nn as r) = as.length - Nn as r by omega, Int.pow_succ]
        omega
      · rw [if_neg h, if_neg h, Nn_zero as r fun b hb => by have := hs'.1 b hb; omega]
        simp
    rw [suI_congr e, suI_add, kraft_as as n hs'.2 fun b hb => hn b (.tail _ hb), suI_range, sumN_lt _ _ _ (hn a (.head _))]
    simp [ev]
theorem ev_le (c : Nat) : ∀ (as : List Nat), (∀ a ∈ as, a ≤ c) → ev as + c ≤ c * 2 ^ as.length
  | [], _ => by simp [ev]
  | a :: as, h => by
    have ih := ev_le c as fun b hb => h b (.tail _ hb)
    have ha := h a (.head _)
    have h2 : a * 2 ^ as.length ≤ c * 2 ^ as.length := Nat.mul_le_mul_right _ ha
    simp only [ev, List.length_cons, Nat.pow_succ]
    have e : c * (2 ^ as.length * 2) = c * 2 ^ as.length + c * 2 ^ as.length := by rw [← Nat.mul_assoc]; omega
    omega
/-- how often k stands in the prefixes -/
def LnI (as I : List Nat) (k : Nat) : Int := suI (fun a => ((I.take a).count k : Int)) as
theorem Nn_suI : ∀ (as : List Nat) (r : Nat), suI (fun a => if r < a then (1 : Int) else 0) as = (Nn as r : Int)
  | [], _ => rfl
  | a :: as, r => by
    simp only [suI, Nn, Nn_suI as r]
    by_cases h : r < a
    · rw [if_pos h, if_pos h]; omega
    · rw [if_neg h, if_neg h]; omega
theorem LnI_tail (k0 k : Nat) (hk : k ≠ k0) (I : List Nat) (as : List Nat) : LnI as (k0 :: I) k = LnI (as.map (· - 1)) I k := by
  unfold LnI
  rw [suI_map]
  refine suI_congr fun a _ => ?_
  cases a with
  | zero => simp
  | succ a =>
    rw [List.take_succ_cons, List.count_cons_of_ne (Ne.symm hk)]
    simp
theorem LnI_head (k0 : Nat) (I : List Nat) (hk : k0 ∉ I) (as : List Nat) : LnI as (k0 :: I) k0 = (Nn as 0 : Int) := by
  rw [← Nn_suI]
  unfold LnI
  refine suI_congr fun a _ => ?_
  cases a with
  | zero => simp
  | succ a =>
    have : (I.take a).count k0 = 0 := List.count_eq_zero.mpr fun h => hk (List.mem_of_mem_take h)
    rw [List.take_succ_cons, List.count_cons_self, this, if_pos (by omega)]
    rfl
theorem map_Ln : ∀ (I as : List Nat), I.Nodup → I.map (LnI as I) = (List.range I.length).map (fun r => (Nn as r : Int))
  | [], _, _ => rfl
  | k0 :: I, as, h => by
    have h' := List.nodup_cons.mp h
    have ih := map_Ln I (as.map (· - 1)) h'.2
    rw [List.length_cons, List.range_succ_eq_map, List.map_cons, List.map_cons, List.map_map, LnI_head k0 I h'.1]
    congr 1
    rw [List.map_congr_left (g := LnI (as.map (· - 1)) I) fun k hk => LnI_tail k0 k (fun q => h'.1 (q ▸ hk)) I as, ih]
    refine List.map_congr_left fun r _ => ?_
    show _ = ((Nn as (r + 1) : Nat) : Int)
    rw [Nn_pred]
theorem dc (w : Nat → Int) : ∀ (I : List Nat) (a : Nat), I.Nodup → suI (fun k => w k * ((I.take a).count k : Int)) I = suI w (I.take a)
  | [], a, _ => by simp [suI]
  | k0 :: I, 0, _ => by
    rw [suI_congr (g := fun _ => 0) (by intro k _; simp), List.take_zero]
    have : ∀ l : List Nat, suI (fun _ => (0 : Int)) l = 0 := by intro l; induction l with
      | nil => rfl
      | cons x r ih => simp only [suI, ih]; rfl
    exact this _
  | k0 :: I, a + 1, h => by
    have h' := List.nodup_cons.mp h
    rw [List.take_succ_cons]
    simp only [suI]
    have h0 : (I.take a).count k0 = 0 := List.count_eq_zero.mpr fun h => h'.1 (List.mem_of_mem_take h)
    rw [List.count_cons_self, h0, suI_congr (g := fun k => w k * ((I.take a).count k : Int)) fun k hk => by
      have hne : k0 ≠ k := fun q => h'.1 (by rw [q]; exact hk)
      rw [List.count_cons_of_ne hne], dc w I a h'.2]
    simp
theorem dc2 (w : Nat → Int) (I : List Nat) (h : I.Nodup) : ∀ (as : List Nat), suI (fun k => w k * LnI as I k) I = suI (fun a => suI w (I.take a)) as
  | [] => by
    rw [suI_congr (g := fun _ => 0) (by intro k _; simp [LnI, suI])]
    have : ∀ l : List Nat, suI (fun _ => (0 : Int)) l = 0 := by intro l; induction l with
      | nil => rfl
      | cons x r ih => simp only [suI, ih]; rfl
    exact this _
  | a :: as => by
    have e : ∀ k ∈ I, w k * LnI (a :: as) I k = w k * ((I.take a).count k : Int) + w k * LnI as I k := by
      intro k _
      show w k * (((I.take a).count k : Int) + LnI as I k) = _
      rw [Int.mul_add]
    rw [suI_congr e, suI_add, dc w I a h, dc2 w I h as]
    rfl
end Mine
/-! part D6 -/
namespace Mine
open PySem PySem.W PyProof.Rows PySem.Calls PySem.Spec
def lensL (ws : List Int) (lim : Nat) : List Int := (List.range ws.length).map (lensP ((rowP ws (lim - 1)).take (2 * ws.length - 2)))
def costL (ws ls : List Int) : Int := ((List.range ws.length).map fun k => ws.getD k 0 * ls.getD k 0).sum
/-- what the statement leans on -/
structure LawIn (ws : List Int) (lim : Nat) : Prop where
  n2 : 2 ≤ ws.length
  n5 : ws.length ≤ 5
  l1 : 1 ≤ lim
  l4 : lim ≤ 4
  fit : ws.length ≤ 2 ^ lim
  pos : ∀ w ∈ ws, 1 ≤ w
def fk (k : Nat) (x : It) : Int := (x.2.count (k : Int) : Int)
theorem fk_adds (k : Nat) : Adds (fk k) := fun x y => by
  show ((x.2 ++ y.2).count (k : Int) : Int) = (x.2.count (k : Int) : Int) + (y.2.count (k : Int) : Int)
  rw [List.count_append]; omega
theorem count_flat (p : Int) : ∀ (l : List Int), (l.flatMap fun k => if k = p then [k] else []).length = l.count p
  | [] => rfl
  | x :: r => by
    rw [List.flatMap_cons, List.length_append, count_flat p r, List.count_cons]
    by_cases h : x = p
    · simp [h]; omega
    · simp [h]
theorem lensP_fk (k : Nat) : ∀ (t : List It), lensP t k = sm (fk k) t
  | [] => rfl
  | x :: t => by
    have ih := lensP_fk k t
    unfold lensP at ih ⊢
    rw [List.flatMap_cons, List.length_append, count_flat]
    simp only [sm]
    rw [← ih]
    show _ = (x.2.count (k : Int) : Int) + _
    omega
theorem sm_fk (ws : List Int) (k : Nat) : ∀ (I : List Nat), sm (fk k) (I.map (itm ws)) = (I.count k : Int)
  | [] => rfl
  | i :: I => by
    rw [List.map_cons, List.count_cons]
    simp only [sm]
    rw [sm_fk ws k I]
    have : fk k (itm ws i) = (if (i == k) = true then 1 else 0 : Nat) := by
      show (([(i : Int)] : List Int).count (k : Int) : Int) = _
      rw [List.count_cons, List.count_nil]
      by_cases h : i = k
      · subst h; simp
      · have h' : ¬ (i : Int) = k := by omega
        simp [h, h']
    rw [this]; omega
theorem sm_key (ws : List Int) : ∀ (I : List Nat), sm key (I.map (itm ws)) = suI (fun k => ws.getD k 0) I
  | [] => rfl
  | i :: I => by
    rw [List.map_cons]
    simp only [sm, suI]
    rw [sm_key ws I]; rfl
theorem row_long {ws : List Int} {lim : Nat} (h : LawIn ws lim) : 2 * ws.length - 2 ≤ (rowP ws (lim - 1)).length := by
  have r0 : (rowP ws 0).length = ws.length := plainP_length ws _
  have r1 := row_len ws 0
  have r2 := row_len ws 1
  have r3 := row_len ws 2
  obtain ⟨h2, h5, l1, l4, fit, -⟩ := h
  simp only [Nat.zero_add, Nat.reduceAdd] at r1 r2 r3
  have : lim = 1 ∨ lim = 2 ∨ lim = 3 ∨ lim = 4 := by omega
  rcases this with rfl | rfl | rfl | rfl
  · simp only [Nat.sub_self, Nat.reducePow] at fit ⊢; omega
  · simp only [Nat.reduceSub, Nat.reducePow] at fit ⊢; omega
  · simp only [Nat.reduceSub, Nat.reducePow] at fit ⊢; omega
  · simp only [Nat.reduceSub, Nat.reducePow] at fit ⊢; omega
theorem getD_map_range (f : Nat → Nat) {n k : Nat} (hk : k < n) : ((List.range n).map f).getD k 0 = f k := by
  rw [List.getD_eq_getElem?_getD, List.getElem?_map, List.getElem?_range hk]; rfl
theorem pm {ws : List Int} {lim : Nat} (h : LawIn ws lim) : ∃ ls : List Nat, Fits lim ws.length ls ∧ kr lim ls = 2 ^ lim ∧ lensL ws lim = ls.map (fun l : Nat => (l : Int)) ∧ co ws ls = sm key ((rowP ws (lim - 1)).take (2 * ws.length - 2)) := by
  obtain ⟨a, r, hr, h1, h2, h3, h4, -⟩ := row_prefix h.pos (lim - 1) _ (row_long h)
  obtain ⟨I, hI, eI⟩ := plain_idx ws ws.length
  have hl1 := h.l1
  have hn2 := h.n2
  have hnd : I.Nodup := hI.nodup_iff.mpr List.nodup_range
  have hlen : I.length = ws.length := by rw [hI.length_eq, List.length_range]
  have has : (a :: r).length = lim := by rw [List.length_cons, hr]; omega
  have hpow : (2 : Nat) ^ lim = 2 * 2 ^ (lim - 1) := by
    conv => lhs; rw [show lim = lim - 1 + 1 by omega, Nat.pow_succ]
    omega
  have hev : ev (a :: r) = (ws.length - 1) * 2 ^ lim := by
    rw [h3, hpow, ← Nat.mul_assoc, show 2 * ws.length - 2 = (ws.length - 1) * 2 by omega]
  have han : a = ws.length := by
    rcases Nat.lt_or_ge a ws.length with hlt | hge
    · exfalso
      have hle := ev_le (ws.length - 1) (a :: r) (fun b hb => by
        rcases List.mem_cons.mp hb with rfl | hb
        · omega
        · have := (List.pairwise_cons.mp h2).1 b hb; omega)
      rw [has, hev] at hle
      omega
    · exact Nat.le_antisymm (h1 a (.head _)) hge
  have hL : ∀ k, lensP ((rowP ws (lim - 1)).take (2 * ws.length - 2)) k = LnI (a :: r) I k := by
    intro k
    rw [lensP_fk, h4 _ (fk_adds k)]
    unfold LnI
    refine suI_congr fun b _ => ?_
    rw [eI, ← List.map_take, sm_fk]
  have hmap := map_Ln I (a :: r) hnd
  rw [hlen] at hmap
  have hval : ∀ k, k < ws.length → 1 ≤ LnI (a :: r) I k ∧ LnI (a :: r) I k ≤ lim := by
    intro k hk
    have hk' : LnI (a :: r) I k ∈ I.map (LnI (a :: r) I) := List.mem_map.mpr ⟨k, hI.mem_iff.mpr (List.mem_range.mpr hk), rfl⟩
    rw [hmap] at hk'
    obtain ⟨q, hq, e⟩ := List.mem_map.mp hk'
    have hq' := List.mem_range.mp hq
    have hle := Nn_le (a :: r) q
    have hge : 1 ≤ Nn (a :: r) q := by simp only [Nn]; rw [if_pos (by omega)]; omega
    rw [has] at hle
    omega
  refine ⟨(List.range ws.length).map fun k => (LnI (a :: r) I k).toNat, ⟨by simp, ?rng, ?kle⟩, ?keq, ?lens, ?cost⟩
  case rng =>
    intro l hl
    obtain ⟨k, hk, rfl⟩ := List.mem_map.mp hl
    have := hval k (List.mem_range.mp hk)
    omega
  case lens =>
    unfold lensL
    rw [List.map_map]
    refine List.map_congr_left fun k hk => ?_
    rw [hL k]
    have := hval k (List.mem_range.mp hk)
    show _ = (((LnI (a :: r) I k).toNat : Nat) : Int)
    omega
  case cost =>
    rw [co_suI _ _ (by simp), suI_congr (g := fun k => ws.getD k 0 * LnI (a :: r) I k) fun k hk => by
      have hk' := List.mem_range.mp hk
      have := hval k hk'
      rw [getD_map_range _ hk', show (((LnI (a :: r) I k).toNat : Nat) : Int) = LnI (a :: r) I k by omega]]
    rw [← suI_perm _ hI, dc2 _ I hnd, h4 key key_adds]
    refine suI_congr fun b _ => ?_
    rw [eI, ← List.map_take, sm_key]
  all_goals
    have hkr : kr lim ((List.range ws.length).map fun k => (LnI (a :: r) I k).toNat) = 2 ^ lim := by
      rw [kr_suI, suI_map, ← suI_perm _ hI]
      have e1 : suI (fun k => (2 : Int) ^ (lim - (LnI (a :: r) I k).toNat)) I = suI (fun z : Int => (2 : Int) ^ (lim - z.toNat)) (I.map (LnI (a :: r) I)) := (suI_map (LnI (a :: r) I) (fun z : Int => (2 : Int) ^ (lim - z.toNat)) I).symm
      rw [e1, hmap, suI_map]
      have hk := kraft_as (a :: r) ws.length h2 h1
      rw [suI_sub, has, hev, List.length_range] at hk
      have e2 : suI (fun k => (2 : Int) ^ (lim - ((Nn (a :: r) k : Nat) : Int).toNat)) (List.range ws.length) = suI (fun k => (2 : Int) ^ (lim - Nn (a :: r) k)) (List.range ws.length) := suI_congr fun k _ => by rw [Int.toNat_natCast]
      rw [e2]
      have e3 : (((ws.length - 1) * 2 ^ lim : Nat) : Int) = ws.length * 2 ^ lim - 2 ^ lim := by
        cases hn : ws.length with
        | zero => omega
        | succ n =>
          simp only [Nat.add_sub_cancel, Int.natCast_mul, Int.natCast_add, Int.add_mul]
          simp
      omega
  · exact Int.le_of_eq hkr
  · exact hkr
theorem sum_suI {α : Type} (f : α → Int) : ∀ (l : List α), (l.map f).sum = suI f l
  | [] => rfl
  | x :: r => by rw [List.map_cons, List.sum_cons, sum_suI f r]; rfl
theorem costL_co {ws : List Int} {ls : List Nat} (h : ls.length = ws.length) : costL ws (ls.map fun l : Nat => (l : Int)) = co ws ls := by
  unfold costL
  rw [sum_suI, co_suI ws ls h]
  refine suI_congr fun k _ => ?_
  congr 1
  rw [List.getD_eq_getElem?_getD, List.getElem?_map, List.getD_eq_getElem?_getD]
  cases ls[k]? <;> rfl
theorem p_range {ws : List Int} {lim : Nat} (h : LawIn ws lim) : ∀ l ∈ lensL ws lim, 1 ≤ l ∧ l ≤ (lim : Int) := by
  obtain ⟨ls, hf, -, e, -⟩ := pm h
  intro l hl
  rw [e] at hl
  obtain ⟨x, hx, rfl⟩ := List.mem_map.mp hl
  have := hf.2.1 x hx
  omega
theorem p_kraft {ws : List Int} {lim : Nat} (h : LawIn ws lim) : ((lensL ws lim).map fun l => (2 : Int) ^ ((lim : Int) - l).toNat).sum = 2 ^ lim := by
  obtain ⟨ls, hf, hk, e, -⟩ := pm h
  rw [e, sum_suI, suI_map, ← hk, kr_suI]
  refine suI_congr fun k _ => ?_
  rw [show ((lim : Int) - (k : Int)).toNat = lim - k by omega]
theorem p_ne {ws : List Int} {lim : Nat} (h : LawIn ws lim) : ∃ q, SS lim ws q := by
  obtain ⟨ls, hf, -⟩ := pm h
  exact ⟨_, (SS_iff lim ws _).mpr ⟨ls, hf, rfl⟩⟩
theorem p_best {ws : List Int} {lim : Nat} (h : LawIn ws lim) {M : Int} (h1 : ∃ q, SS lim ws q ∧ q.1 = M) (h2 : ∀ q, SS lim ws q → M ≤ q.1) : costL ws (lensL ws lim) = M := by
  obtain ⟨ls, hf, -, e, ec⟩ := pm h
  rw [e, costL_co hf.1]
  exact best_iff h1 h2 ⟨ls, hf, rfl⟩ fun ls' hf' => ec ▸ low_fits h.pos h.l1 h.n2 hf'
end Mine
/-! part D7 -/
namespace Mine
open PySem PySem.W PyProof.Rows PySem.Calls PySem.Spec
def insR (x : Int) : List Int → List Int
  | [] => [x]
  | k :: ks => if x < k then x :: k :: ks else k :: insR x ks
theorem insR_td (x : Int) : ∀ (ks : List Int) (m : Nat), (∀ y ∈ ks.take m, y ≤ x) → (∀ y ∈ ks.drop m, x < y) → ks.take m ++ x :: ks.drop m = insR x ks
  | [], m, _, _ => by simp [insR]
  | k :: ks, 0, _, h2 => by
    have := h2 k (by simp)
    simp [insR, this]
  | k :: ks, m + 1, h1, h2 => by
    have hk := h1 k (by simp)
    rw [List.take_succ_cons, List.drop_succ_cons, List.cons_append, insR_td x ks m (fun y hy => h1 y (by rw [List.take_succ_cons]; exact .tail _ hy)) (fun y hy => h2 y hy)]
    simp only [insR]
    rw [if_neg (by omega)]
abbrev SortI (ks : List Int) : Prop := ks.Pairwise (· ≤ ·)
theorem insI_R {ks : List Int} (h : SortI ks) (x : Int) : insI ks x = insR x ks := by
  have hp : SortedP (ks.map fun k => ((k, []) : It)) := by
    unfold SortedP
    rw [List.pairwise_map]; exact h
  obtain ⟨h1, h2⟩ := bisP hp x
  have e : (ks.map fun k => ((k, []) : It)).map (·.1) = ks := by
    rw [List.map_map]
    exact List.map_id _
  rw [e, List.length_map] at h1 h2
  unfold insI
  refine insR_td x ks _ (fun y hy => ?_) fun y hy => ?_
  · refine h1 (y, []) ?_
    rw [← List.map_take]; exact List.mem_map.mpr ⟨y, hy, rfl⟩
  · refine h2 (y, []) ?_
    rw [← List.map_drop]; exact List.mem_map.mpr ⟨y, hy, rfl⟩
theorem insR_perm (x : Int) : ∀ (ks : List Int), (insR x ks).Perm (x :: ks)
  | [] => .refl _
  | k :: ks => by
    simp only [insR]
    split
    · exact .refl _
    · exact ((insR_perm x ks).cons k).trans (.swap x k ks)
theorem insR_sort {x : Int} : ∀ {ks : List Int}, SortI ks → SortI (insR x ks)
  | [], _ => List.pairwise_singleton _ _
  | k :: ks, h => by
    have h' := List.pairwise_cons.mp h
    simp only [insR]
    split
    · refine List.pairwise_cons.mpr ⟨fun y hy => ?_, h⟩
      rcases List.mem_cons.mp hy with rfl | hy
      · omega
      · have := h'.1 y hy; omega
    · refine List.pairwise_cons.mpr ⟨fun y hy => ?_, insR_sort h'.2⟩
      rcases List.mem_cons.mp ((insR_perm x ks).mem_iff.mp hy) with rfl | hy
      · omega
      · exact h'.1 y hy
theorem fold_sort : ∀ (ws ks : List Int), SortI ks → SortI (ws.foldl insI ks) ∧ (ws.foldl insI ks).Perm (ws ++ ks)
  | [], ks, h => ⟨h, .refl _⟩
  | w :: ws, ks, h => by
    rw [List.foldl_cons, insI_R h]
    obtain ⟨h1, h2⟩ := fold_sort ws (insR w ks) (insR_sort h)
    exact ⟨h1, h2.trans (((insR_perm w ks).append_left ws).trans List.perm_middle)⟩
def huffR : Nat → List Int → Int
  | f + 1, a :: b :: r => (a + b) + huffR f (insR (a + b) r)
  | _, _ => 0
theorem huffGo_R : ∀ (f : Nat) (ks : List Int), SortI ks → huffGo f ks = huffR f ks
  | 0, _, _ => by simp [huffGo, huffR]
  | f + 1, [], _ => by simp [huffGo, huffR]
  | f + 1, [_], _ => by simp [huffGo, huffR]
  | f + 1, a :: b :: r, h => by
    have h' := (List.pairwise_cons.mp (List.pairwise_cons.mp h).2).2
    simp only [huffGo, huffR]
    rw [insI_R h', huffGo_R f _ (insR_sort h')]
/-- the shapes of a tree with n leaves, the deepest leaf first -/
def shapes : Nat → List (List Nat)
  | 2 => [[1, 1]]
  | 3 => [[2, 2, 1]]
  | 4 => [[3, 3, 2, 1], [2, 2, 2, 2]]
  | 5 => [[4, 4, 3, 2, 1], [3, 3, 3, 3, 1], [3, 3, 2, 2, 2]]
  | _ => []
theorem huff2 (a b : Int) : huffR 2 [a, b] = co [a, b] [1, 1] := by
  simp only [huffR, insR, co]; omega
theorem huff3 (a b c : Int) : huffR 3 [a, b, c] = co [a, b, c] [2, 2, 1] := by
  have h : ∀ h, huffR 3 [a, b, c] = h → h = co [a, b, c] [2, 2, 1] := by
    intro h hh
    simp only [huffR, insR] at hh
    simp only [co]
    split at hh <;> simp only [huffR, insR] at hh <;> omega
  exact h _ rfl
theorem huff4 {a b c d : Int} (h1 : a ≤ b) (h2 : b ≤ c) (h3 : c ≤ d) : ∀ h, huffR 4 [a, b, c, d] = h → (h = co [a, b, c, d] [3, 3, 2, 1] ∨ h = co [a, b, c, d] [2, 2, 2, 2]) ∧ h ≤ co [a, b, c, d] [3, 3, 2, 1] ∧ h ≤ co [a, b, c, d] [2, 2, 2, 2] := by
  intro h hh
  simp only [huffR, insR] at hh
  simp only [co]
  repeat' (first | omega | (split at hh <;> try simp only [huffR, insR] at hh))
theorem huff5 {a b c d e : Int} (h0 : 0 ≤ a) (h1 : a ≤ b) (h2 : b ≤ c) (h3 : c ≤ d) (h4 : d ≤ e) : ∀ h, huffR 5 [a, b, c, d, e] = h → (h = co [a, b, c, d, e] [4, 4, 3, 2, 1] ∨ h = co [a, b, c, d, e] [3, 3, 3, 3, 1] ∨ h = co [a, b, c, d, e] [3, 3, 2, 2, 2]) ∧ h ≤ co [a, b, c, d, e] [4, 4, 3, 2, 1] ∧ h ≤ co [a, b, c, d, e] [3, 3, 3, 3, 1] ∧ h ≤ co [a, b, c, d, e] [3, 3, 2, 2, 2] := by
  intro h hh
  simp only [huffR, insR] at hh
  simp only [co]
  repeat' (first | omega | (split at hh <;> try simp only [huffR, insR] at hh))
end Mine
/-! part D8 -/
namespace Mine
open PySem PySem.W PyProof.Rows PySem.Calls PySem.Spec
def tot : List Nat → Nat
  | [] => 0
  | l :: ls => l + tot ls
/-- every tail of the first adds up to no more than that of the second -/
def sufOK : List Nat → List Nat → Bool
  | [], [] => true
  | s :: ss, l :: ls => decide (tot (s :: ss) ≤ tot (l :: ls)) && sufOK ss ls
  | _, _ => false
theorem sufOK_tot : ∀ {ss ls : List Nat}, sufOK ss ls = true → tot ss ≤ tot ls
  | [], [], _ => Nat.le_refl _
  | s :: ss, l :: ls, h => by
    simp only [sufOK, Bool.and_eq_true, decide_eq_true_eq] at h; exact h.1
  | [], _ :: _, h => by simp [sufOK] at h
  | _ :: _, [], h => by simp [sufOK] at h
theorem dom : ∀ (ws : List Int) (ss ls : List Nat) (v : Int), SortI ws → (∀ w ∈ ws, v ≤ w) → 0 ≤ v → ws.length = ls.length → sufOK ss ls = true → v * ((tot ls : Int) - tot ss) ≤ co ws ls - co ws ss
  | [], [], [], v, _, _, _, _, _ => by simp [tot, co]
  | [], _, _ :: _, _, _, _, _, h, _ => by simp at h
  | _ :: _, _, [], _, _, _, _, h, _ => by simp at h
  | _, [], _ :: _, _, _, _, _, _, h => by simp [sufOK] at h
  | [], _ :: _, [], _, _, _, _, _, h => by simp [sufOK] at h
  | w :: ws, s :: ss, l :: ls, v, hs, hv, h0, hl, hok => by
    have hs' := List.pairwise_cons.mp hs
    have hw := hv w (.head _)
    have ht := sufOK_tot hok
    simp only [sufOK, Bool.and_eq_true, decide_eq_true_eq] at hok
    have ih := dom ws ss ls w hs'.2 hs'.1 (by omega) (by simpa using hl) hok.2
    have e : (tot (l :: ls) : Int) - tot (s :: ss) = ((l : Int) - s) + ((tot ls : Int) - tot ss) := by
      simp only [tot, Int.natCast_add]; omega
    have g0 : 0 ≤ (tot (l :: ls) : Int) - tot (s :: ss) := by omega
    have h1 : v * ((tot (l :: ls) : Int) - tot (s :: ss)) ≤ w * ((tot (l :: ls) : Int) - tot (s :: ss)) := Int.mul_le_mul_of_nonneg_right hw g0
    have h2 : w * ((tot (l :: ls) : Int) - tot (s :: ss)) = (w * l - w * s) + w * ((tot ls : Int) - tot ss) := by
      rw [e, Int.mul_add, Int.mul_sub]
    simp only [co]
    omega
def krN : List Nat → Nat
  | [] => 0
  | l :: ls => 2 ^ (4 - l) + krN ls
theorem kr_krN : ∀ ls, kr 4 ls = (krN ls : Int)
  | [] => rfl
  | l :: ls => by simp only [kr, krN, kr_krN ls, Int.natCast_add]; simp
def vecs : Nat → List (List Nat)
  | 0 => [[]]
  | n + 1 => [1, 2, 3, 4].flatMap fun l => (vecs n).map (l :: ·)
theorem mem_vecs : ∀ (ls : List Nat), (∀ l ∈ ls, 1 ≤ l ∧ l ≤ 4) → ls ∈ vecs ls.length
  | [], _ => .head _
  | l :: ls, h => by
    have ih := mem_vecs ls fun x hx => h x (.tail _ hx)
    have hl := h l (.head _)
    refine List.mem_flatMap.mpr ⟨l, ?_, List.mem_map.mpr ⟨ls, ih, rfl⟩⟩
    have : l = 1 ∨ l = 2 ∨ l = 3 ∨ l = 4 := by omega
    rcases this with rfl | rfl | rfl | rfl <;> simp
def domAll (n : Nat) : Bool := (vecs n).all fun ls => decide (16 < krN ls) || (shapes n).any fun ss => sufOK ss ls
theorem dom2 : domAll 2 = true := by decide +kernel
theorem dom3 : domAll 3 = true := by decide +kernel
theorem dom4 : domAll 4 = true := by decide +kernel
theorem dom5 : domAll 5 = true := by decide +kernel
theorem dom_ex {n : Nat} (h2 : 2 ≤ n) (h5 : n ≤ 5) {ls : List Nat} (hl : ls.length = n) (hr : ∀ l ∈ ls, 1 ≤ l ∧ l ≤ 4) (hk : kr 4 ls ≤ 16) : ∃ ss ∈ shapes n, sufOK ss ls = true := by
  have hd : domAll n = true := by
    have : n = 2 ∨ n = 3 ∨ n = 4 ∨ n = 5 := by omega
    rcases this with rfl | rfl | rfl | rfl
    · exact dom2
    · exact dom3
    · exact dom4
    · exact dom5
  have := List.all_eq_true.mp hd ls (hl ▸ mem_vecs ls hr)
  rw [Bool.or_eq_true, decide_eq_true_eq, List.any_eq_true] at this
  rw [kr_krN] at hk
  rcases this with h | ⟨ss, h1, h2⟩
  · omega
  · exact ⟨ss, h1, h2⟩
/-- the tree's cost over the sorted weights -/
theorem huff_S {S : List Int} (h2 : 2 ≤ S.length) (h5 : S.length ≤ 5) (hs : SortI S) (hp : ∀ w ∈ S, 1 ≤ w) : (∃ ss ∈ shapes S.length, huffR S.length S = co S ss) ∧ ∀ ss ∈ shapes S.length, huffR S.length S ≤ co S ss := by
  match S, h2, h5, hs, hp with
  | [a, b], _, _, _, _ =>
    have e := huff2 a b
    refine ⟨⟨_, .head _, e⟩, fun ss hss => ?_⟩
    rcases List.mem_singleton.mp hss with rfl
    exact Int.le_of_eq e
  | [a, b, c], _, _, _, _ =>
    have e := huff3 a b c
    refine ⟨⟨_, .head _, e⟩, fun ss hss => ?_⟩
    rcases List.mem_singleton.mp hss with rfl
    exact Int.le_of_eq e
  | [a, b, c, d], _, _, hs, hp =>
    have s1 := List.pairwise_cons.mp hs
    have s2 := List.pairwise_cons.mp s1.2
    have s3 := List.pairwise_cons.mp s2.2
    obtain ⟨h1, h2, h3⟩ := huff4 (s1.1 b (by simp)) (s2.1 c (by simp)) (s3.1 d (by simp)) _ rfl
    refine ⟨?_, fun ss hss => ?_⟩
    · rcases h1 with h | h
      · exact ⟨_, .head _, h⟩
      · exact ⟨_, .tail _ (.head _), h⟩
    · rcases List.mem_cons.mp hss with rfl | hss
      · exact h2
      · rcases List.mem_singleton.mp hss with rfl
        exact h3
  | [a, b, c, d, e], _, _, hs, hp =>
    have s1 := List.pairwise_cons.mp hs
    have s2 := List.pairwise_cons.mp s1.2
    have s3 := List.pairwise_cons.mp s2.2
    have s4 := List.pairwise_cons.mp s3.2
    have ha := hp a (.head _)
    obtain ⟨h1, h2, h3, h4⟩ := huff5 (by omega : 0 ≤ a) (s1.1 b (by simp)) (s2.1 c (by simp)) (s3.1 d (by simp)) (s4.1 e (by simp)) _ rfl
    refine ⟨?_, fun ss hss => ?_⟩
    · rcases h1 with h | h | h
      · exact ⟨_, .head _, h⟩
      · exact ⟨_, .tail _ (.head _), h⟩
      · exact ⟨_, .tail _ (.tail _ (.head _)), h⟩
    · rcases List.mem_cons.mp hss with rfl | hss
      · exact h2
      · rcases List.mem_cons.mp hss with rfl | hss
        · exact h3
        · rcases List.mem_singleton.mp hss with rfl
          exact h4
  | [], h2, _, _, _ => simp at h2
  | [_], h2, _, _, _ => simp at h2
  | _ :: _ :: _ :: _ :: _ :: _ :: _, _, h5, _, _ => simp at h5
/-- lengths follow their weights -/
theorem perm_co {ws S : List Int} (h : ws.Perm S) : ∀ (ls : List Nat), ls.length = ws.length → ∃ ls' : List Nat, ls'.Perm ls ∧ co S ls' = co ws ls := by
  induction h with
  | nil => intro ls _; exact ⟨ls, .refl _, rfl⟩
  | @cons w l1 l2 _ ih =>
    intro ls hl
    match ls, hl with
    | l :: ls, hl =>
      obtain ⟨ls', h1, h2⟩ := ih ls (by simpa using hl)
      exact ⟨l :: ls', h1.cons l, by simp only [co]; rw [h2]⟩
  | swap x y l =>
    intro ls hl
    match ls, hl with
    | l1 :: l2 :: ls, _ => exact ⟨l2 :: l1 :: ls, .swap _ _ _, by simp only [co]; omega⟩
    | [_], hl => simp at hl
    | [], hl => simp at hl
  | @trans l1 l2 l3 p1 p2 ih1 ih2 =>
    intro ls hl
    obtain ⟨ls1, h1, h2⟩ := ih1 ls hl
    obtain ⟨ls2, h3, h4⟩ := ih2 ls1 (by rw [h1.length_eq, hl, p1.length_eq])
    exact ⟨ls2, h3.trans h1, h4.trans h2⟩
theorem kr_perm (lim : Nat) {p q : List Nat} (h : p.Perm q) : kr lim p = kr lim q := by
  rw [kr_suI, kr_suI, suI_perm _ h]
theorem huff_low {ws : List Int} (h2 : 2 ≤ ws.length) (h5 : ws.length ≤ 5) (hp : ∀ w ∈ ws, 1 ≤ w) {ls : List Nat} (hl : ls.length = ws.length) (hr : ∀ l ∈ ls, 1 ≤ l ∧ l ≤ 4) (hk : kr 4 ls ≤ 16) : huff ws ≤ co ws ls := by
  obtain ⟨hs, hperm⟩ := fold_sort ws [] .nil
  rw [List.append_nil] at hperm
  have hlen := hperm.length_eq
  unfold huff
  rw [huffGo_R _ _ hs, ← hlen]
  obtain ⟨ls', p1, e1⟩ := perm_co hperm.symm ls hl
  have hp' : ∀ w ∈ ws.foldl insI [], 1 ≤ w := fun w hw => hp w (hperm.mem_iff.mp hw)
  obtain ⟨ss, hss, hok⟩ := dom_ex h2 h5 (ls := ls') (by rw [p1.length_eq, hl]) (fun l hl => hr l (p1.mem_iff.mp hl)) (by rw [kr_perm 4 p1]; exact hk)
  have hd := dom (ws.foldl insI []) ss ls' 0 hs (fun w hw => by have := hp' w hw; omega) (Int.le_refl _) (by rw [hlen, p1.length_eq, hl]) hok
  have hu := (huff_S (by omega) (by omega) hs hp').2 ss (by rw [hlen]; exact hss)
  rw [Int.zero_mul] at hd
  omega
theorem shape_fits {n : Nat} (h2 : 2 ≤ n) (h5 : n ≤ 5) {ss : List Nat} (h : ss ∈ shapes n) : Fits (n - 1) n ss := by
  have : n = 2 ∨ n = 3 ∨ n = 4 ∨ n = 5 := by omega
  unfold Fits
  rcases this with rfl | rfl | rfl | rfl
  · rcases List.mem_singleton.mp h with rfl; decide
  · rcases List.mem_singleton.mp h with rfl; decide
  · rcases List.mem_cons.mp h with rfl | h
    · decide
    · rcases List.mem_singleton.mp h with rfl; decide
  · rcases List.mem_cons.mp h with rfl | h
    · decide
    · rcases List.mem_cons.mp h with rfl | h
      · decide
      · rcases List.mem_singleton.mp h with rfl; decide
theorem huff_up {ws : List Int} (h2 : 2 ≤ ws.length) (h5 : ws.length ≤ 5) (hp : ∀ w ∈ ws, 1 ≤ w) : ∃ ls, Fits (ws.length - 1) ws.length ls ∧ huff ws = co ws ls := by
  obtain ⟨hs, hperm⟩ := fold_sort ws [] .nil
  rw [List.append_nil] at hperm
  have hlen := hperm.length_eq
  have hp' : ∀ w ∈ ws.foldl insI [], 1 ≤ w := fun w hw => hp w (hperm.mem_iff.mp hw)
  obtain ⟨ss, hss, e⟩ := (huff_S (by omega) (by omega) hs hp').1
  rw [hlen] at hss
  obtain ⟨f1, f2, f3⟩ := shape_fits h2 h5 hss
  obtain ⟨ls, p1, e1⟩ := perm_co hperm ss (by rw [f1, hlen])
  refine ⟨ls, ⟨by rw [p1.length_eq, f1], fun l hl => f2 l (p1.mem_iff.mp hl), by rw [kr_perm _ p1]; exact f3⟩, ?_⟩
  unfold huff
  rw [huffGo_R _ _ hs, ← hlen, e, e1]
theorem kr_up {lim : Nat} (hl : lim ≤ 4) : ∀ (ls : List Nat), (∀ l ∈ ls, 1 ≤ l ∧ l ≤ lim) → kr 4 ls = 2 ^ (4 - lim) * kr lim ls
  | [], _ => by simp [kr]
  | l :: ls, h => by
    have h1 := h l (.head _)
    simp only [kr]
    rw [kr_up hl ls fun x hx => h x (.tail _ hx), Int.mul_add, ← Int.pow_add, show 4 - lim + (lim - l) = 4 - l by omega]
theorem fits_four {lim n : Nat} (hl : lim ≤ 4) {ls : List Nat} (h : Fits lim n ls) : kr 4 ls ≤ 16 := by
  rw [kr_up hl ls h.2.1]
  have h1 := Int.mul_le_mul_of_nonneg_left h.2.2 (Int.le_of_lt (pow2_pos (4 - lim)))
  rw [← Int.pow_add, show 4 - lim + lim = 4 by omega] at h1
  exact h1
theorem huff_fits {ws : List Int} {lim : Nat} (h2 : 2 ≤ ws.length) (h5 : ws.length ≤ 5) (hp : ∀ w ∈ ws, 1 ≤ w) (hl : lim ≤ 4) {ls : List Nat} (h : Fits lim ws.length ls) : huff ws ≤ co ws ls :=
  huff_low h2 h5 hp h.1 (fun l hl' => by have := h.2.1 l hl'; omega) (fits_four hl h)
theorem p_ne2 {ws : List Int} {lim : Nat} (h : LawIn ws lim) : ∃ q, SS (ws.length - 1) ws q := by
  obtain ⟨ls, hf, -⟩ := huff_up h.n2 h.n5 h.pos
  exact ⟨_, (SS_iff _ ws _).mpr ⟨ls, hf, rfl⟩⟩
theorem p_best2 {ws : List Int} {lim : Nat} (h : LawIn ws lim) {M : Int} (h1 : ∃ q, SS (ws.length - 1) ws q ∧ q.1 = M) (h2 : ∀ q, SS (ws.length - 1) ws q → M ≤ q.1) : huff ws = M :=
  best_iff h1 h2 (huff_up h.n2 h.n5 h.pos) fun ls hf => huff_fits h.n2 h.n5 h.pos (by have := h.n5; omega) hf
theorem p_le {ws : List Int} {lim : Nat} (h : LawIn ws lim) : huff ws ≤ costL ws (lensL ws lim) := by
  obtain ⟨ls, hf, -, e, -⟩ := pm h
  rw [e, costL_co hf.1]
  exact huff_fits h.n2 h.n5 h.pos h.l4 hf
end Mine
/-! part W4 -/
namespace Mine
open PySem PySem.W PyProof.Rows PySem.Calls PySem.Spec
local macro_rules | `(tactic| walk_at "call ref") => `(tactic| (refine stop_in ?_))
local macro_rules | `(tactic| walk_at "eval ListComp") => `(tactic| (refine stop_in ?_))
local macro_rules | `(tactic| walk_at "pyIter ref") => `(tactic| (refine stop_in ?_))
local macro_rules | `(tactic| walk_at "call builtin:min") => `(tactic| (refine stop_in ?_))
local macro_rules | `(tactic| walk_at "call builtin:sum") => `(tactic| (refine stop_in ?_))
local macro_rules | `(tactic| walk_at "compareOp NotEq ref ref") => `(tactic| (refine stop_in ?_))
local macro_rules | `(tactic| walk_at "subscriptTail Name Name ref int") => `(tactic| (refine stop_in ?_))
local macro_rules | `(tactic| walk_at "call type:range") => `(tactic| (refine stop_in ?_))
def GoE : Prop := True
local macro_rules | `(tactic| walk_at "exec Assign cons IfExp") => `(tactic| ((rename GoE => hMk); clear hMk; refine stop_in ?_))
local macro_rules | `(tactic| walk_at "exec If Compare cons nil") => `(tactic| ((rename GoE => hMk); clear hMk; refine stop_in ?_))
local macro_rules | `(tactic| walk_at "exec While Compare cons nil") => `(tactic| ((rename GoE => hMk); clear hMk; refine stop_in ?_))
local macro_rules | `(tactic| walk_at "eval Name") => `(tactic| ((with_reducible refine' fnameC_C ?hc ?hv ?_ ?hk ?hx ?hd); (case hk => k_dflt rfl); (case hx => k_dflt rfl); (case hd => k_dflt decide); (case hc => k_dflt rfl); (case hv => k_dflt assumption)))
def InTurnW : Prop := True
local macro_rules | `(tactic| walk_at "newList") => `(tactic| ((rename InTurnW => hMk); (have hMk2 : InTurnW := hMk); refine stop_in ?_))
local macro_rules | `(tactic| walk_at "storeName") => `(tactic| ((rename InTurnW => hMk); (have hMk2 : InTurnW := hMk); refine stop_in ?_))
local macro_rules | `(tactic| walk_at "newTuple") => `(tactic| ((rename InTurnW => hMk); (have hMk2 : InTurnW := hMk); refine stop_in ?_))
local macro_rules | `(tactic| walk_at "eval Name") => `(tactic| ((with_reducible refine' fnameC_L ?kF ?hv ?_ ?hk ?hx ?hd); (case hk => k_dflt rfl); (case hx => k_dflt rfl); (case hd => k_dflt decide); (case kF => with_reducible assumption); (case hv => first | k_dflt exact rfl | with_reducible assumption | (k_dflt (simp (decide := true) only [↓reduceIte]); with_reducible assumption))))
local macro_rules | `(tactic| walk_at "eval Name") => `(tactic| ((with_reducible refine' cname_C ?hc ?hv ?_ ?hk ?hf ?hx ?he ?hd); (case hk => k_dflt rfl); (case hf => k_dflt rfl); (case hx => k_dflt rfl); (case he => k_dflt rfl); (case hd => k_dflt decide); (case hc => k_dflt rfl); (case hv => k_dflt assumption)))
local macro_rules | `(tactic| walk_at "eval Name") => `(tactic| ((with_reducible refine' cname_L ?hn ?hv ?_ ?hk ?hx ?hd); (case hk => k_dflt rfl); (case hx => k_dflt rfl); (case hd => k_dflt decide); (case hn => with_reducible assumption); (case hv => first | k_dflt exact rfl | with_reducible assumption | (k_dflt (simp (decide := true) only [↓reduceIte]); with_reducible assumption))))

/-- after the first statement -/
def J1 (g : Heap) (L la : Nat) (o1 o2 o3 : Obj) (s : Shared) (fl : Flow) (s' : Shared) : Prop :=
  fl = .next ∧ ∃ (f : Int) (tf : Tok) (h : Heap) (tk : Nat) (mL : Str → Option Value), s' = {s with heap := h, toks := tk} ∧ 0 ≤ f ∧ Fr g L h mL ∧ mL (Str.ofString "first") = some (.int f tf) ∧ mL (Str.ofString "script") = some (.ref la) ∧ News g L h [(L + 1 + 1 + 1, o3), (L + 1 + 1, o2), (L + 1, o1)]
/-- the state around the weights -/
structure JW (g : Heap) (L : Nat) (f : Int) (n : Nat) (md : Int) (s : Shared) (fl : Flow) (s' : Shared) : Prop where
  fl : fl = .next
  st : ∃ (h : Heap) (tk : Nat) (mL : Str → Option Value) (tf tc tm : Tok) (Dn : Nat) (vn : List Value) (nn : Nat) (ns : List Int) (D : Nat) (vs : List Value) (nD : Nat) (ws : List Int) (v2 v3 : Option Value), s' = {s with heap := h, toks := tk} ∧ Fr g L h mL ∧ mL (Str.ofString "first") = some (.int f tf) ∧ mL (Str.ofString "count") = some (.int n tc) ∧ mL (Str.ofString "mode") = some (.int md tm) ∧
    mL (Str.ofString "numbers") = some (.ref Dn) ∧ h.get? Dn = some (listOf vn.toArray nn) ∧ IntsAre vn ns ∧ ns.length = n ∧ h.IsCell (L + 1) (some (.ref D)) ∧ h.get? D = some (listOf vs.toArray nD) ∧ IntsAre vs ws ∧ ws.length = n ∧ (∀ w ∈ ws, 1 ≤ w) ∧ h.IsCell (L + 1 + 1) v2 ∧ h.IsCell (L + 1 + 1 + 1) v3
def WSt (g : Heap) (L : Nat) (f : Int) (n : Nat) (h : Heap) (mL : Str → Option Value) : Prop :=
  ∃ (tf tc : Tok) (D : Nat) (vs : List Value) (nD : Nat) (ws : List Int) (v2 v3 : Option Value), Fr g L h mL ∧ mL (Str.ofString "first") = some (.int f tf) ∧ mL (Str.ofString "count") = some (.int n tc) ∧
    h.IsCell (L + 1) (some (.ref D)) ∧ h.get? D = some (listOf vs.toArray nD) ∧ IntsAre vs ws ∧ ws.length = n ∧ (∀ w ∈ ws, 1 ≤ w) ∧ h.IsCell (L + 1 + 1) v2 ∧ h.IsCell (L + 1 + 1 + 1) v3
structure JL (g : Heap) (L : Nat) (f : Int) (n : Nat) (k : Nat) (h : Heap) : Prop where
  st : ∃ (mL : Str → Option Value) (q : Nat) (tl : Tok), WSt g L f n h mL ∧ mL (Str.ofString "least") = some (.int q tl) ∧ 1 ≤ q ∧ q + k = 3
structure JX (g : Heap) (L : Nat) (f : Int) (n : Nat) (s : Shared) (fl : Flow) (s' : Shared) : Prop where
  fl : fl = .next
  st : ∃ (h : Heap) (tk : Nat) (mL : Str → Option Value) (q : Nat) (tl : Tok), s' = {s with heap := h, toks := tk} ∧ WSt g L f n h mL ∧ mL (Str.ofString "least") = some (.int q tl) ∧ 1 ≤ q ∧ q ≤ 3 ∧ n ≤ 2 ^ q
theorem fm4 (f : Int) : 0 ≤ f.fmod 4 ∧ f.fmod 4 < 4 := ⟨Int.fmod_nonneg_of_pos f (by decide), Int.fmod_lt_of_pos f (by decide)⟩
theorem fr_gen {g h : Heap} {L : Addr} {m : Str → Option Value} (F : Fr g L h m) : ∃ m', m' = m ∧ Fr g L h m' := ⟨m, rfl, F⟩
def absI (x : Int) : Int := if x < 0 then -x else x
theorem absI_nonneg (x : Int) : 0 ≤ absI x := by unfold absI; omega
theorem fr_nseq {g h : Heap} {L : Addr} {m : Str → Option Value} (F : Fr g L h m) {b : Nat} {o : Obj} (e : h.get? b = some o) (so : SeqO o) : @Ne Nat b L := fun q => by
  obtain ⟨oL, es, ep, hL, hLd, -⟩ := F.ns
  rw [q, hL] at e; cases e
  obtain ⟨x, n, so⟩ := so
  rw [hLd] at so; cases so
theorem cell_but {h h' : Heap} {a c : Nat} {v : Option Value} (x : h.IsCell a v) (hb : KptBut c h h') (hn : a ≠ c) : h'.IsCell a v := by
  obtain ⟨o, e, d⟩ := x; exact ⟨o, hb _ _ hn e, d⟩
theorem WSt.but {g : Heap} {L : Nat} {f : Int} {n : Nat} {h h' : Heap} {m m' : Str → Option Value} (W : WSt g L f n h m) (hb : KptBut L h h') (F' : Fr g L h' m') (e1 : m' (Str.ofString "first") = m (Str.ofString "first")) (e2 : m' (Str.ofString "count") = m (Str.ofString "count")) : WSt g L f n h' m' := by
  obtain ⟨tf, tc, D, vs, nD, ws, v2, v3, F, f1, f2, c1, gW, iW, lw, pos, c2, c3⟩ := W
  exact ⟨tf, tc, D, vs, nD, ws, v2, v3, F', e1.trans f1, e2.trans f2, cell_but c1 hb (by omega), hb _ _ (fr_nseq F gW ⟨_, _, rfl⟩) gW, iW, lw, pos, cell_but c2 hb (by omega), cell_but c3 hb (by omega)⟩
theorem lnC_L {M : Model} {A : Around} {E : Value → Shared → Prop} {s : Shared} {h₀ : Heap} {L a : Addr} {m : Str → Option Value} {cn : Str} {cs : Scope} {ccd : Value} {x : Str} {v : Value} {Q : Value → Shared → Prop} (F : Fr h₀ L s.heap m) (hv : m x = some v) (h : Q v s)
    (hk : cs.kind = .function) (hx : (envOfC cn cs L a ccd).kindOf x = some .local) : wpAny M A (loadName (envOfC cn cs L a ccd) x) Q E s := wpAny_loadName_local hk hx F.ns hv h
theorem min_lim {prog : Program} {w : World} {A : Around} {E : Value → Shared → Prop} {s : Shared} {q n : Nat} {r : Int} {t u : Tok} {Q : Value → Shared → Prop} (hh : A.handled = none) (r0 : 0 ≤ r) (hq : 1 ≤ q) (hn5 : n ≤ 5) (hge : n ≤ 2 ^ q)
    (h : ∀ (lim : Nat) t' h' tk, Kpt s.heap h' → 1 ≤ lim → lim ≤ 4 → n ≤ 2 ^ lim → Q (.int lim t') { s with heap := h', toks := tk }) :
    wpAny (model prog w) A (call (.builtin "min") [.int ((q : Int) + r) t, .int 4 u]) Q E s := by
  refine min_two_ints hh fun h8 tk8 k8 => ?_
  by_cases hc : (4 : Int) < (q : Int) + r
  · rw [if_pos hc]
    exact h 4 u h8 tk8 k8 (by decide) (by decide) (by omega)
  · rw [if_neg hc]
    obtain ⟨r, rfl⟩ : ∃ k : Nat, r = k := ⟨r.toNat, by omega⟩
    exact h (q + r) t h8 tk8 k8 (by omega) (by omega) (Nat.le_trans hge (Nat.pow_le_pow_right (by decide) (by omega)))
theorem cell_nseq {h : Heap} {a : Nat} {v : Option Value} (x : h.IsCell a v) {b : Nat} {o : Obj} (e : h.get? b = some o) (so : SeqO o) : @Ne Nat b a := fun q => by
  obtain ⟨oc, ec, dc⟩ := x
  rw [q] at e
  have e' : h.get? a = some oc := ec
  rw [e'] at e; cases e
  obtain ⟨x, n, so⟩ := so
  rw [dc] at so; cases so
theorem cell_kept {h h' : Heap} {a : Nat} {v : Option Value} (x : h.IsCell a v) (k : Kpt h h') : h'.IsCell a v := by
  obtain ⟨o, e, d⟩ := x; exact ⟨o, k _ _ e, d⟩
theorem size_none (g : Heap) (k : Nat) : g.get? (g.objs.size + k) = none := by
  cases q : g.get? (g.objs.size + k) with
  | none => rfl
  | some o => exact absurd (Heap.lt_size q) (by show ¬ (@LT.lt Nat _ (g.objs.size + k) g.objs.size); omega)
theorem ints_at {vs : List Value} {ns : List Int} (hi : IntsAre vs ns) (k : Nat) (hk : k < ns.length) : ∃ t, vs[k]? = some (.int (ns.getD k 0) t) := by
  obtain ⟨t, ht⟩ := hi.get k (ns.getD k 0) (by rw [List.getD_eq_getElem?_getD, List.getElem?_eq_getElem hk]; rfl)
  exact ⟨t, ht⟩
theorem joinW {α : Type} {M : Model} {A : Around} {t : Sem α} {Q : α → Shared → Prop} {E : Value → Shared → Prop} {s : Shared} (Q' : α → Shared → Prop) (h : wpAny M A t Q' E s) (h2 : ∀ f s', Q' f s' → Q f s') : wpAny M A t Q E s := wpAny_mono h h2 fun _ _ e => e
theorem law_holds : PySem.Challenge.rw_ec5003_01.Holds := hd (by
  k_go0
  all_goals (try k_fold)
  (rename Fr _ _ _ _ => F0)
  (rename News _ _ _ _ => N0)
  (rename IntsAre _ _ => hI0)
  (rename Heap.IsList _ _ _ => hL0)
  (rename Frag.In _ _ => KX)
  (rename Below _ _ _ _ => K0)
  have mk : GoE := trivial
  k_steps
  refine Stop.out ?_
  rename_i w₀ s₀ s₁ mg mb zG zY fa o pm doc ho hg zX zV zGL zT zB zTE zTW z1 z2 zM z3 cdv hcd xs zhs zhlay zhL zhr zhl2 z4 z5 la vs0 z6 zra zw1 zr0 zhr2 hc63 hctt zhD h1 tk1 o3 o2 o1 d3 d2 d1 zX0
  (generalize ht0 : bindL _ _ _ = m0 at F0)
  have es0 : m0 (Str.ofString "script") = some (.ref la) := by rw [← ht0]; exact rfl
  clear ht0
  replace d3 : ∃ v, o3.data = .cell v := ⟨_, d3⟩
  replace d2 : ∃ v, o2.data = .cell v := ⟨_, d2⟩
  replace d1 : ∃ v, o1.data = .cell v := ⟨_, d1⟩
  obtain ⟨v3, d3⟩ := d3
  obtain ⟨v2, d2⟩ := d2
  obtain ⟨v1, d1⟩ := d1
  clear hcd zhD zhs zhlay zhL zhr zhl2 zw1 zr0 zra zhr2 hctt zX0
  refine joinW (J1 s₁.heap s₁.heap.objs.size la o1 o2 o3 s₁) ?walk1 ?rest1
  case walk1 =>
    k_unmd
    k_steps
    all_goals (refine ⟨rfl, _, _, _, _, _, rfl, ?_, by assumption, by exact rfl, ?_, by assumption⟩)
    · omega
    · rw [if_neg (by decide)]; exact es0
    · omega
    · rw [if_neg (by decide)]; exact es0
  case rest1 =>
    rintro fl s' ⟨rfl, f, tf, h, tk, mL, rfl, hf0, F1, ef, es, N1⟩
    clear F0 N0
    dsimp only
    have mk : GoE := trivial
    k_unmd
    k_steps
    refine Stop.out ?_
    (rename Fr _ _ _ _ => F2)
    (rename News _ _ _ _ => N2)
    obtain ⟨fm0, fm1⟩ := fm4 f
    obtain ⟨n, hn⟩ : ∃ n : Nat, 2 + f.fmod 4 = (n : Int) := ⟨(2 + f.fmod 4).toNat, by omega⟩
    have hn2 : 2 ≤ n := by omega
    have hn5 : n ≤ 5 := by omega
    rename_i Dn vsn _ hIn hCn hLn hl1 hz2 h2
    rw [hn] at F2 hIn hCn
    rw [Int.toNat_natCast] at hIn hCn
    generalize hns : List.take n (List.drop 1 xs ++ [3, 1, 4, 1, 5, 9]) = ns at hIn hCn
    have lns : ns.length = n := by rw [hCn]; simp; omega
    obtain ⟨m2, em2, F3⟩ := fr_gen F2
    have f1 : ∃ t, m2 (Str.ofString "first") = some (.int f t) := ⟨tf, by rw [em2]; simp (decide := true) only [↓reduceIte]; exact ef⟩
    have f2 : ∃ t, m2 (Str.ofString "count") = some (.int n t) := ⟨_, by rw [em2]; simp (decide := true) only [↓reduceIte]; rfl⟩
    have f3 : ∃ t, m2 (Str.ofString "mode") = some (.int ((f.fdiv 15).fmod 3) t) := ⟨_, by rw [em2]; simp (decide := true) only [↓reduceIte]; rfl⟩
    have f4 : m2 (Str.ofString "numbers") = some (.ref Dn) := by rw [em2]; simp (decide := true) only [↓reduceIte]
    have gn : h2.get? Dn = some (listOf vsn.toArray 0) := (N2 _ (.head _)).1
    have c3J : h2.IsCell (s₁.heap.objs.size + 1 + 1 + 1) v3 := ⟨_, (N2 _ (.tail _ (.tail _ (.tail _ (.tail _ (.tail _ (.head _))))))).1, d3⟩
    have c2J : h2.IsCell (s₁.heap.objs.size + 1 + 1) v2 := ⟨_, (N2 _ (.tail _ (.tail _ (.tail _ (.tail _ (.tail _ (.tail _ (.head _)))))))).1, d2⟩
    have c1J : h2.IsCell (s₁.heap.objs.size + 1) v1 := ⟨_, (N2 _ (.tail _ (.tail _ (.tail _ (.tail _ (.tail _ (.tail _ (.tail _ (.head _))))))))).1, d1⟩
    clear F2 N2 em2 hl1
    obtain ⟨tf2, f1⟩ := f1
    obtain ⟨tc2, f2⟩ := f2
    obtain ⟨tm2, f3⟩ := f3
    refine mapc (g := fun x => absI x + 1) (cl := []) (by rfl) (by with_unfolding_all rfl) (by decide) (by rfl) (by decide) (by intro _; rfl) (by intro _; rfl) (by intro _; rfl) gn hIn (by rw [sizeLine_eq]; omega) ?it1 ?el1 ?ret1
    case it1 =>
      intro Q' hQ
      k_unmd
      k_steps
      exact hQ _
    case el1 =>
      intro k t h8 tk8 C m8 Q' hk8 k8 n8 e8 hQ
      have F8 := F3.keeps k8
      skip
      k_unmd
      k_steps
      exact hQ _ _
    case ret1 =>
      intro DW ysW h3 tk3 k3 gW iW DW0
      have F4 := F3.keeps k3
      clear F3
      have mk2 : InTurnW := trivial
      k_unmd
      k_steps
      refine Stop.out ?_
      obtain ⟨oc1, gc1, dc1⟩ := c1J
      obtain ⟨oc2, gc2, dc2⟩ := c2J
      obtain ⟨oc3, gc3, dc3⟩ := c3J
      refine wpAny_storeName_cell (by rfl) (by rfl) (by rfl) ⟨oc1, k3 _ _ gc1, dc1⟩ fun h4 c14 sb4 => ?_
      have hb4 : KptBut (s₁.heap.objs.size + 1) h3 h4 := fun b o hb e => sb4.extBut b o hb e
      have gc0 : s₁.heap.get? (s₁.heap.objs.size + 1) = none := by
        cases q : s₁.heap.get? (s₁.heap.objs.size + 1) with
        | none => rfl
        | some o => exact absurd (Heap.lt_size q) (by show ¬ (@LT.lt Nat _ (s₁.heap.objs.size + 1) s₁.heap.objs.size); omega)
      have F5 := Fr_but F4 hb4 (by show @Ne Nat (s₁.heap.objs.size + 1) s₁.heap.objs.size; omega) gc0
      have nseq : ∀ (b : Nat) o, h3.get? b = some o → SeqO o → b ≠ s₁.heap.objs.size + 1 := fun b o e so q => by
        rw [q] at e
        have e' : h3.get? (s₁.heap.objs.size + 1) = some oc1 := k3 _ _ gc1
        rw [e'] at e; cases e
        obtain ⟨x, n, so⟩ := so
        rw [dc1] at so; cases so
      have gn4 := hb4 _ _ (nseq _ _ (k3 _ _ gn) ⟨_, _, rfl⟩) (k3 _ _ gn)
      have gW4 := hb4 _ _ (nseq _ _ gW ⟨_, _, rfl⟩) gW
      have c24 : h4.IsCell (s₁.heap.objs.size + 1 + 1) _ := ⟨oc2, hb4 _ _ (by show @Ne Nat (s₁.heap.objs.size + 1 + 1) (s₁.heap.objs.size + 1); omega) (k3 _ _ gc2), dc2⟩
      have c34 : h4.IsCell (s₁.heap.objs.size + 1 + 1 + 1) _ := ⟨oc3, hb4 _ _ (by show @Ne Nat (s₁.heap.objs.size + 1 + 1 + 1) (s₁.heap.objs.size + 1); omega) (k3 _ _ gc3), dc3⟩
      (rename InTurnW => mk3)
      clear mk3
      (rename InTurnW => mk3)
      clear mk3 F4
      have pos : ∀ w ∈ ns.map (fun x => absI x + 1), 1 ≤ w := by
        intro w hw
        obtain ⟨x, hx, rfl⟩ := List.mem_map.mp hw
        have := absI_nonneg x; show 1 ≤ absI x + 1; omega
      clear gn gW k3 hb4 sb4 gc0 nseq gc1 gc2 gc3 dc1 dc2 dc3 DW0
      k_unmd
      k_steps
      refine Stop.out ?_
      refine joinW (JW s₁.heap s₁.heap.objs.size f n ((f.fdiv 15).fmod 3) s₁) ?walk2 ?rest2
      case walk2 =>
        k_unmd
        k_steps
        · refine Stop.out ?_
          have gn := gn4
          have c1J := c14
          have c2J := c24
          have c3J := c34
          clear gn4 c14 c24 c34 gW4 iW pos
          refine mapc (g := fun x => (absI x).fmod 4 + 1) (cl := []) (by rfl) (by with_unfolding_all rfl) (by decide) (by rfl) (by decide) (by intro _; rfl) (by intro _; rfl) (by intro _; rfl) gn hIn (by rw [sizeLine_eq]; omega) ?it2 ?el2 ?ret2
          case it2 =>
            intro Q' hQ
            k_unmd
            k_steps
            exact hQ _
          case el2 =>
            intro k t h8 tk8 C m8 Q' hk8 k8 n8 e8 hQ
            have F8 := F5.keeps k8
            skip
            k_unmd
            k_steps
            exact hQ _ _
          case ret2 =>
            intro DW ysW h3 tk3 k3 gW iW DW0
            have F4 := F5.keeps k3
            clear F5
            have mk2 : InTurnW := trivial
            k_unmd
            k_steps
            refine Stop.out ?_
            obtain ⟨oc1, gc1, dc1⟩ := c1J
            obtain ⟨oc2, gc2, dc2⟩ := c2J
            obtain ⟨oc3, gc3, dc3⟩ := c3J
            refine wpAny_storeName_cell (by rfl) (by rfl) (by rfl) ⟨oc1, k3 _ _ gc1, dc1⟩ fun h4 c14 sb4 => ?_
            have hb4 : KptBut (s₁.heap.objs.size + 1) h3 h4 := fun b o hb e => sb4.extBut b o hb e
            have gc0 : s₁.heap.get? (s₁.heap.objs.size + 1) = none := by
              cases q : s₁.heap.get? (s₁.heap.objs.size + 1) with
              | none => rfl
              | some o => exact absurd (Heap.lt_size q) (by show ¬ (@LT.lt Nat _ (s₁.heap.objs.size + 1) s₁.heap.objs.size); omega)
            have F5 := Fr_but F4 hb4 (by show @Ne Nat (s₁.heap.objs.size + 1) s₁.heap.objs.size; omega) gc0
            have nseq : ∀ (b : Nat) o, h3.get? b = some o → SeqO o → b ≠ s₁.heap.objs.size + 1 := fun b o e so q => by
              rw [q] at e
              have e' : h3.get? (s₁.heap.objs.size + 1) = some oc1 := k3 _ _ gc1
              rw [e'] at e; cases e
              obtain ⟨x, n, so⟩ := so
              rw [dc1] at so; cases so
            have gn4 := hb4 _ _ (nseq _ _ (k3 _ _ gn) ⟨_, _, rfl⟩) (k3 _ _ gn)
            have gW4 := hb4 _ _ (nseq _ _ gW ⟨_, _, rfl⟩) gW
            have c24 : h4.IsCell (s₁.heap.objs.size + 1 + 1) _ := ⟨oc2, hb4 _ _ (by show @Ne Nat (s₁.heap.objs.size + 1 + 1) (s₁.heap.objs.size + 1); omega) (k3 _ _ gc2), dc2⟩
            have c34 : h4.IsCell (s₁.heap.objs.size + 1 + 1 + 1) _ := ⟨oc3, hb4 _ _ (by show @Ne Nat (s₁.heap.objs.size + 1 + 1 + 1) (s₁.heap.objs.size + 1); omega) (k3 _ _ gc3), dc3⟩
            (rename InTurnW => mk3)
            clear mk3
            (rename InTurnW => mk3)
            clear mk3 F4
            have pos : ∀ w ∈ ns.map (fun x => (absI x).fmod 4 + 1), 1 ≤ w := by
              intro w hw
              obtain ⟨x, hx, rfl⟩ := List.mem_map.mp hw
              have := Int.fmod_nonneg_of_pos (absI x) (b := 4) (by decide); show 1 ≤ (absI x).fmod 4 + 1; omega
            clear gn gW k3 hb4 sb4 gc0 nseq gc1 gc2 gc3 dc1 dc2 dc3 DW0
            k_unmd
            k_steps
            exact ⟨rfl, _, _, _, _, _, _, _, _, _, _, _, _, _, _, _, _, rfl, F5, f1, f2, f3, f4, gn4, hIn, lns, c14, gW4, iW, (by first | assumption | (rw [List.length_map]; exact lns)), pos, c24, c34⟩
        · exact ⟨rfl, _, _, _, _, _, _, _, _, _, _, _, _, _, _, _, _, rfl, F5, f1, f2, f3, f4, gn4, hIn, lns, c14, gW4, iW, (by first | assumption | (rw [List.length_map]; exact lns)), pos, c24, c34⟩
      case rest2 =>
        clear F5 f1 f2 f3 f4 gn4 hIn lns c14 gW4 iW pos c24 c34
        rintro fl s' ⟨rfl, h4, tk, m2, tf2, tc2, tm2, Dn, vsn, nn, ns, DW, ysW, nD, ws, v2, v3, rfl, F5, f1, f2, f3, f4, gn4, hIn, lns, c14, gW4, iW, lws, pos, c24, c34⟩
        dsimp only
        have mk : GoE := trivial
        k_unmd
        k_steps
        refine Stop.out ?_
        refine joinW (JW s₁.heap s₁.heap.objs.size f n ((f.fdiv 15).fmod 3) s₁) ?walk3 ?rest3
        case walk3 =>
          k_unmd
          k_steps
          · refine Stop.out ?_
            have gn := gn4
            have c1J := c14
            have c2J := c24
            have c3J := c34
            clear gn4 c14 c24 c34 gW4 iW pos
            refine mapc (g := fun x => (2 : Int) ^ ((absI x).fmod 9).toNat) (cl := []) (by rfl) (by with_unfolding_all rfl) (by decide) (by rfl) (by decide) (by intro _; rfl) (by intro _; rfl) (by intro _; rfl) gn hIn (by rw [sizeLine_eq]; omega) ?it3 ?el3 ?ret3
            case it3 =>
              intro Q' hQ
              k_unmd
              k_steps
              exact hQ _
            case el3 =>
              intro k t h8 tk8 C m8 Q' hk8 k8 n8 e8 hQ
              have F8 := F5.keeps k8
              have fm9 := Int.fmod_nonneg_of_pos (absI k) (b := 9) (by decide)
              k_unmd
              k_steps
              exact hQ _ _
            case ret3 =>
              intro DW ysW h3 tk3 k3 gW iW DW0
              have F4 := F5.keeps k3
              clear F5
              have mk2 : InTurnW := trivial
              k_unmd
              k_steps
              refine Stop.out ?_
              obtain ⟨oc1, gc1, dc1⟩ := c1J
              obtain ⟨oc2, gc2, dc2⟩ := c2J
              obtain ⟨oc3, gc3, dc3⟩ := c3J
              refine wpAny_storeName_cell (by rfl) (by rfl) (by rfl) ⟨oc1, k3 _ _ gc1, dc1⟩ fun h4 c14 sb4 => ?_
              have hb4 : KptBut (s₁.heap.objs.size + 1) h3 h4 := fun b o hb e => sb4.extBut b o hb e
              have gc0 : s₁.heap.get? (s₁.heap.objs.size + 1) = none := by
                cases q : s₁.heap.get? (s₁.heap.objs.size + 1) with
                | none => rfl
                | some o => exact absurd (Heap.lt_size q) (by show ¬ (@LT.lt Nat _ (s₁.heap.objs.size + 1) s₁.heap.objs.size); omega)
              have F5 := Fr_but F4 hb4 (by show @Ne Nat (s₁.heap.objs.size + 1) s₁.heap.objs.size; omega) gc0
              have nseq : ∀ (b : Nat) o, h3.get? b = some o → SeqO o → b ≠ s₁.heap.objs.size + 1 := fun b o e so q => by
                rw [q] at e
                have e' : h3.get? (s₁.heap.objs.size + 1) = some oc1 := k3 _ _ gc1
                rw [e'] at e; cases e
                obtain ⟨x, n, so⟩ := so
                rw [dc1] at so; cases so
              have gn4 := hb4 _ _ (nseq _ _ (k3 _ _ gn) ⟨_, _, rfl⟩) (k3 _ _ gn)
              have gW4 := hb4 _ _ (nseq _ _ gW ⟨_, _, rfl⟩) gW
              have c24 : h4.IsCell (s₁.heap.objs.size + 1 + 1) _ := ⟨oc2, hb4 _ _ (by show @Ne Nat (s₁.heap.objs.size + 1 + 1) (s₁.heap.objs.size + 1); omega) (k3 _ _ gc2), dc2⟩
              have c34 : h4.IsCell (s₁.heap.objs.size + 1 + 1 + 1) _ := ⟨oc3, hb4 _ _ (by show @Ne Nat (s₁.heap.objs.size + 1 + 1 + 1) (s₁.heap.objs.size + 1); omega) (k3 _ _ gc3), dc3⟩
              (rename InTurnW => mk3)
              clear mk3
              (rename InTurnW => mk3)
              clear mk3 F4
              have pos : ∀ w ∈ ns.map (fun x => (2 : Int) ^ ((absI x).fmod 9).toNat), 1 ≤ w := by
                intro w hw
                obtain ⟨x, hx, rfl⟩ := List.mem_map.mp hw
                show 1 ≤ (2 : Int) ^ ((absI x).fmod 9).toNat; have := Int.pow_pos (n := 2) (m := ((absI x).fmod 9).toNat) (by decide); omega
              clear gn gW k3 hb4 sb4 gc0 nseq gc1 gc2 gc3 dc1 dc2 dc3 DW0
              k_unmd
              k_steps
              exact ⟨rfl, _, _, _, _, _, _, _, _, _, _, _, _, _, _, _, _, rfl, F5, f1, f2, f3, f4, gn4, hIn, lns, c14, gW4, iW, (by first | assumption | (rw [List.length_map]; exact lns)), pos, c24, c34⟩
          · exact ⟨rfl, _, _, _, _, _, _, _, _, _, _, _, _, _, _, _, _, rfl, F5, f1, f2, f3, f4, gn4, hIn, lns, c14, gW4, iW, (by first | assumption | (rw [List.length_map]; exact lns)), pos, c24, c34⟩
        case rest3 =>
          clear F5 f1 f2 f3 f4 gn4 hIn lns c14 gW4 iW pos c24 c34
          rintro fl s' ⟨rfl, h4, tk, m2, tf2, tc2, tm2, Dn, vsn, nn, ns, DW, ysW, nD, ws, v2, v3, rfl, F5, f1, f2, f3, f4, gn4, hIn, lns, c14, gW4, iW, lws, pos, c24, c34⟩
          dsimp only
          have mk : GoE := trivial
          have mk2 : InTurnW := trivial
          k_unmd
          k_steps
          refine Stop.out ?_
          refine storeC_L F5 (fun h6 tk6 F6 hb6 => ?_) (by rfl) (by rfl)
          (rename InTurnW => mk3)
          clear mk3
          (rename InTurnW => mk3)
          clear mk3
          have W6 : WSt s₁.heap s₁.heap.objs.size f n h6 _ := WSt.but ⟨_, _, _, _, _, _, _, _, F5, f1, f2, c14, gW4, iW, lws, pos, c24, c34⟩ hb6 F6 (by rw [if_neg (by decide)]) (by rw [if_neg (by decide)])
          clear F5 f1 f2 f3 f4 gn4 hIn lns c14 gW4 iW lws pos c24 c34
          k_unmd
          k_steps
          refine Stop.out ?_
          refine joinW (JX s₁.heap s₁.heap.objs.size f n s₁) ?walk4 ?rest4
          case walk4 =>
            refine while_raw (JL s₁.heap s₁.heap.objs.size f n) (n₀ := 2) ⟨_, 1, _, W6, if_pos rfl, by decide, rfl⟩ ?turn4
            rintro k h7 tk7 ⟨m7, q, tl, W7, e7, hq1, hqk⟩
            clear F6 W6 hb6
            have W7' := W7
            obtain ⟨tf, tc, D, vs, nD, ws, v2, v3, F, g1, g2, c1, gW, iW, lw, pos, c2, c3⟩ := W7
            have mk2 : InTurnW := trivial
            k_unmd
            k_steps
            · have hlt : q ≤ 2 := by
                rcases Nat.lt_or_ge 2 q with h | h
                · exfalso
                  have hpw : (2 : Int) ^ 3 ≤ 2 ^ ((q : Int)).toNat := by rw [Int.toNat_natCast]; exact_mod_cast Nat.pow_le_pow_right (by decide) h
                  omega
                · exact h
              refine lnC_L F e7 ?_ (by rfl) (by rfl)
              k_unmd
              k_steps
              refine Stop.out ?_
              refine storeC_L F (fun h9 tk9 F9 hb9 => ?_) (by rfl) (by rfl)
              (rename InTurnW => mk3)
              clear mk3
              (rename InTurnW => mk3)
              clear mk3
              have W9 := W7'.but hb9 F9 (by rw [if_neg (by decide)]) (by rw [if_neg (by decide)])
              clear F W7'
              k_unmd
              k_steps
              exact ⟨rfl, k - 1, _, _, rfl, by omega, ⟨_, q + 1, _, W9, if_pos rfl, by omega, by omega⟩⟩
            · have hge : n ≤ 2 ^ q := by
                have hh : ¬ (2 : Int) ^ ((q : Int)).toNat < n := by assumption
                rw [Int.toNat_natCast] at hh
                have : ((2 ^ q : Nat) : Int) = (2 : Int) ^ q := by simp
                omega
              exact ⟨rfl, _, _, _, q, _, rfl, W7', e7, hq1, by omega, hge⟩
          case rest4 =>
            rintro fl s' ⟨rfl, h7, tk7, m7, q, tl, rfl, W7, e7, hq1, hq3, hge⟩
            obtain ⟨tf, tc, D, vs, nD, ws, v2, v3, F, g1, g2, c1, gW, iW, lw, pos, c2, c3⟩ := W7
            clear F6 W6 hb6
            dsimp only
            have mk2 : InTurnW := trivial
            k_unmd
            k_steps
            refine Stop.out ?_
            refine min_lim (by rfl) (Int.fmod_nonneg_of_pos _ (by decide)) hq1 hn5 hge fun lim tlim h8 tk8 k8 hl1 hl4 hfit => ?_
            have F8 := F.keeps k8
            have mk2 : InTurnW := trivial
            k_unmd
            k_steps
            refine Stop.out ?_
            refine wpAny_storeName_cell (by rfl) (by rfl) (by rfl) (cell_kept c2 k8) fun h9 c29 sb9 => ?_
            have hb9 : KptBut (s₁.heap.objs.size + 1 + 1) h8 h9 := fun b o hb e => sb9.extBut b o hb e
            have F9 := Fr_but F8 hb9 (by show @Ne Nat (s₁.heap.objs.size + 1 + 1) s₁.heap.objs.size; omega) (size_none _ (1 + 1))
            have c19 := cell_but (cell_kept c1 k8) hb9 (by show @Ne Nat (s₁.heap.objs.size + 1) (s₁.heap.objs.size + 1 + 1); omega)
            have c39 := cell_but (cell_kept c3 k8) hb9 (by show @Ne Nat (s₁.heap.objs.size + 1 + 1 + 1) (s₁.heap.objs.size + 1 + 1); omega)
            have gW9 := hb9 _ _ (cell_nseq (cell_kept c2 k8) (k8 _ _ gW) ⟨_, _, rfl⟩) (k8 _ _ gW)
            clear F F8 c1 c2 c3 gW hb9 sb9 k8
            (rename InTurnW => mk3)
            clear mk3
            (rename InTurnW => mk3)
            clear mk3
            k_unmd
            k_steps
            refine Stop.out ?_
            refine lengths_spec K0 F9 KX zT (by rfl) gW9 iW (by omega) (by omega) hl4 hl1 (by decide) (by decide) fun DL ysL nL h10 tk10 k10 gL iL DL0 => ?_
            have PI : LawIn ws lim := ⟨by omega, by omega, hl1, hl4, by omega, pos⟩
            replace iL : IntsAre ysL (lensL ws lim) := iL
            have lL : (lensL ws lim).length = n := by unfold lensL; rw [List.length_map, List.length_range, lw]
            have F10 := F9.keeps k10
            clear F9
            have mk2 : InTurnW := trivial
            k_unmd
            k_steps
            refine Stop.out ?_
            refine wpAny_storeName_cell (by rfl) (by rfl) (by rfl) (cell_kept c39 k10) fun h11 c3 sb11 => ?_
            have hb11 : KptBut (s₁.heap.objs.size + 1 + 1 + 1) h10 h11 := fun b o hb e => sb11.extBut b o hb e
            have F11 := Fr_but F10 hb11 (by show @Ne Nat (s₁.heap.objs.size + 1 + 1 + 1) s₁.heap.objs.size; omega) (size_none _ (1 + 1 + 1))
            have c1 := cell_but (cell_kept c19 k10) hb11 (by show @Ne Nat (s₁.heap.objs.size + 1) (s₁.heap.objs.size + 1 + 1 + 1); omega)
            have c2 := cell_but (cell_kept c29 k10) hb11 (by show @Ne Nat (s₁.heap.objs.size + 1 + 1) (s₁.heap.objs.size + 1 + 1 + 1); omega)
            have gW := hb11 _ _ (cell_nseq (cell_kept c39 k10) (k10 _ _ gW9) ⟨_, _, rfl⟩) (k10 _ _ gW9)
            have gL := hb11 _ _ (cell_nseq (cell_kept c39 k10) gL ⟨_, _, rfl⟩) gL
            clear F10 c19 c29 c39 gW9 hb11 sb11 k10
            (rename InTurnW => mk3)
            clear mk3
            (rename InTurnW => mk3)
            clear mk3
            k_unmd
            k_steps
            refine Stop.out ?_
            k_unmd
            k_steps
            refine Stop.out ?_
            refine filtc (cl := [(Str.ofString "limit", s₁.heap.objs.size + 1 + 1)]) (by rfl) (by with_unfolding_all rfl) (by decide) (by rfl) (by decide) (by intro _; rfl) (by intro _; rfl) (by intro _; rfl) gL iL (by rw [sizeLine_eq]; omega) ?it5 ?el5 ?ret5
            case it5 =>
              intro Q' hQ
              k_unmd
              k_steps
              exact hQ _
            case el5 =>
              intro k t h12 tk12 C m12 Q' hk12 k12 n12 e12 hQ
              have F12 := F11.keeps k12
              obtain ⟨hk1, hk2⟩ := p_range PI k hk12
              have c2k := cell_kept c2 k12
              k_unmd
              k_steps
              all_goals first | exact hQ _ | (exfalso; omega)
            case ret5 =>
              intro DE h13 tk13 k13 gE DE0
              have F13 := F11.keeps k13
              have c1' := cell_kept c1 k13
              have c2' := cell_kept c2 k13
              have c3' := cell_kept c3 k13
              have gW' := k13 _ _ gW
              have gL' := k13 _ _ gL
              clear F11 c1 c2 c3 gW gL
              have mk2 : InTurnW := trivial
              k_unmd
              k_steps
              refine Stop.out ?_
              refine list_raw (by rw [sizeLine_eq]; decide) fun h14 D14 k14 s14 s14' g14 => ?_
              (rename InTurnW => mk3)
              clear mk3
              (rename InTurnW => mk3)
              clear mk3
              k_unmd
              k_steps
              refine Stop.out ?_
              refine ne_nils (k14 _ _ gE) g14 (by first | (show (7 : Nat) + 8 < cLine; decide) | (show (4 : Nat) + 8 < cLine; decide) | (show (3 : Nat) + 8 < cLine; decide) | (show (1 : Nat) + 8 < cLine; decide)) ?_
              have F14 := F13.keeps k14
              have c1 := cell_kept c1' k14
              have c2 := cell_kept c2' k14
              have c3 := cell_kept c3' k14
              have gW := k14 _ _ gW'
              have gL := k14 _ _ gL'
              clear F13 c1' c2' c3' gW' gL'
              k_unmd
              k_steps
              refine Stop.out ?_
              refine mapc (g := fun l => (2 : Int) ^ ((lim : Int) - l).toNat) (cl := [(Str.ofString "limit", s₁.heap.objs.size + 1 + 1)]) (by rfl) (by with_unfolding_all rfl) (by decide) (by rfl) (by decide) (by intro _; rfl) (by intro _; rfl) (by intro _; rfl) gL iL (by rw [sizeLine_eq]; omega) ?it6 ?el6 ?ret6
              case it6 =>
                intro Q' hQ
                k_unmd
                k_steps
                exact hQ _
              case el6 =>
                intro k t h12 tk12 C m12 Q' hk12 k12 n12 e12 hQ
                have F12 := F14.keeps k12
                obtain ⟨hk1, hk2⟩ := p_range PI k hk12
                have c2k := cell_kept c2 k12
                k_unmd
                k_steps
                all_goals first | exact hQ _ _ | (exfalso; omega)
              case ret6 =>
                intro DK ysK h15 tk15 k15 gK iK DK0
                have F15 := F14.keeps k15
                have c1' := cell_kept c1 k15
                have c2' := cell_kept c2 k15
                have c3' := cell_kept c3 k15
                have gW' := k15 _ _ gW
                have gL' := k15 _ _ gL
                clear F14 c1 c2 c3 gW gL
                k_unmd
                k_steps
                refine Stop.out ?_
                refine sum_raw (by rfl) ⟨_, gK, rfl, _, rfl⟩ iK fun h16 tk16 t16 k16 => ?_
                rw [p_kraft PI]
                have F16 := F15.keeps k16
                have c1 := cell_kept c1' k16
                have c2 := cell_kept c2' k16
                have c3 := cell_kept c3' k16
                have gW := k16 _ _ gW'
                have gL := k16 _ _ gL'
                clear F15 c1' c2' c3' gW' gL'
                k_unmd
                k_steps
                refine Stop.out ?_
                refine rangec (n := n) (g := fun k => ws.getD k 0 * (lensL ws lim).getD k 0) (cl := [(Str.ofString "weights", s₁.heap.objs.size + 1), (Str.ofString "lengths", s₁.heap.objs.size + 1 + 1 + 1)]) (by rfl) (by with_unfolding_all rfl) (by decide) (by rfl) (by decide) (by intro _; rfl) (by intro _; rfl) (by intro _; rfl) (by omega) ?it7 ?el7 ?ret7
                case it7 =>
                  intro Q' hQ
                  k_unmd
                  k_steps
                  refine Stop.out ?_
                  refine range1_raw fun h17 R17 tk17 t17 v17 k17 s17 s17' r17 => ?_
                  exact hQ _ _ _ _ _ _ k17 s17 s17' r17
                case el7 =>
                  intro k t h12 tk12 C m12 Q' hk12 k12 n12 e12 hQ
                  have F12 := F16.keeps k12
                  have c1k := cell_kept c1 k12
                  have c3k := cell_kept c3 k12
                  have gWk : h12.IsList D vs.toArray := ⟨_, k12 _ _ gW, rfl, _, rfl⟩
                  have gLk : h12.IsList DL ysL.toArray := ⟨_, k12 _ _ gL, rfl, _, rfl⟩
                  obtain ⟨tw, ew⟩ := ints_at iW k (by omega)
                  obtain ⟨tz, ez⟩ := ints_at iL k (by omega)
                  k_unmd
                  k_steps
                  refine Stop.out ?_
                  refine item_raw (v := .int (ws.getD k 0) tw) gWk (by omega) (by omega) (by rw [show ((k : Int)).toNat = k by omega, List.getElem?_toArray]; exact ew) ?_
                  k_unmd
                  k_steps
                  refine Stop.out ?_
                  refine item_raw (v := .int ((lensL ws lim).getD k 0) tz) gLk (by omega) (by omega) (by rw [show ((k : Int)).toNat = k by omega, List.getElem?_toArray]; exact ez) ?_
                  k_unmd
                  k_steps
                  obtain ⟨hz1, hz2⟩ := p_range PI _ (getD_mem (ns := lensL ws lim) (i := k) (by omega))
                  refine PyProof.Rows.mul_int ?_ (PySem.IntMulOk.of_right (PySem.intBits_le_64 (by omega) (by omega)))
                  exact hQ _ _
                case ret7 =>
                  intro DC ysC h17 tk17 k17 gC iC DC0
                  have F17 := F16.keeps k17
                  have c1' := cell_kept c1 k17
                  have c2' := cell_kept c2 k17
                  have c3' := cell_kept c3 k17
                  have gW' := k17 _ _ gW
                  clear F16 c1 c2 c3 gW gL
                  have mk2 : InTurnW := trivial
                  k_unmd
                  k_steps
                  refine Stop.out ?_
                  refine sum_raw (by rfl) ⟨_, gC, rfl, _, rfl⟩ iC fun h18 tk18 t18 k18 => ?_
                  have ecost : ((List.range n).map fun k => ws.getD k 0 * (lensL ws lim).getD k 0).sum = costL ws (lensL ws lim) := by unfold costL; rw [lw]
                  rw [ecost]
                  have F18 := F17.keeps k18
                  have c1 := cell_kept c1' k18
                  have c2 := cell_kept c2' k18
                  have gW := k18 _ _ gW'
                  clear F17 c1' c2' c3' gW'
                  k_unmd
                  k_steps
                  refine Stop.out ?_
                  refine storeC_L F18 (fun h19 tk19 F19 hb19 => ?_) (by rfl) (by rfl)
                  (rename InTurnW => mk3)
                  clear mk3
                  (rename InTurnW => mk3)
                  clear mk3
                  have c1' := cell_but c1 hb19 (by show @Ne Nat (s₁.heap.objs.size + 1) s₁.heap.objs.size; omega)
                  have c2' := cell_but c2 hb19 (by show @Ne Nat (s₁.heap.objs.size + 1 + 1) s₁.heap.objs.size; omega)
                  have gW' := hb19 _ _ (fr_nseq F18 gW ⟨_, _, rfl⟩) gW
                  clear F18 c1 c2 gW hb19
                  k_unmd
                  k_steps
                  refine Stop.out ?_
                  refine sums_spec K0 F19 KX zT (by rfl) gW' iW (by omega) (by decide) (by decide) fun tS h20 tk20 k20 => ?_
                  have F20 := F19.keeps k20
                  have c1 := cell_kept c1' k20
                  have c2 := cell_kept c2' k20
                  have gW := k20 _ _ gW'
                  clear F19 c1' c2' gW'
                  have mk2 : InTurnW := trivial
                  k_unmd
                  k_steps
                  refine Stop.out ?_
                  refine storeC_L F20 (fun h21 tk21 F21 hb21 => ?_) (by rfl) (by rfl)
                  (rename InTurnW => mk3)
                  clear mk3
                  (rename InTurnW => mk3)
                  clear mk3
                  have c1' := cell_but c1 hb21 (by show @Ne Nat (s₁.heap.objs.size + 1) s₁.heap.objs.size; omega)
                  have c2' := cell_but c2 hb21 (by show @Ne Nat (s₁.heap.objs.size + 1 + 1) s₁.heap.objs.size; omega)
                  have gW' := hb21 _ _ (fr_nseq F20 gW ⟨_, _, rfl⟩) gW
                  clear F20 c1 c2 gW hb21
                  k_unmd
                  k_steps
                  refine Stop.out ?_
                  refine best_spec K0 F21 KX zT (by rfl) gW' iW (by omega) hl4 (by decide) (by decide) (p_ne PI) fun M1 t1 h22 tk22 k22 e1 e2 => ?_
                  have hM1 := p_best PI e1 e2
                  have F22 := F21.keeps k22
                  have c1 := cell_kept c1' k22
                  have c2 := cell_kept c2' k22
                  have gW := k22 _ _ gW'
                  clear F21 c1' c2' gW' e1 e2
                  subst hM1
                  k_unmd
                  k_steps
                  refine Stop.out ?_
                  rw [show (n : Int) - 1 = ((n - 1 : Nat) : Int) by omega]
                  refine best_spec K0 F22 KX zT (by rfl) gW iW (by omega) (by omega) (by decide) (by decide) (lw ▸ p_ne2 PI) fun M2 t2 h24 tk24 k24 e1 e2 => ?_
                  have hM2 := p_best2 PI (lw ▸ e1) (lw ▸ e2)
                  have F24 := F22.keeps k24
                  clear F22 c1 c2 gW e1 e2
                  subst hM2
                  have hle := p_le PI
                  generalize costL ws (lensL ws lim) = cost at *
                  generalize huff ws = hf at *
                  k_unmd
                  k_steps
                  skip)
end Mine
theorem PySem.Challenge.cw_ec5003_01_holds : PySem.Challenge.rw_ec5003_01.Holds := by
  exact Mine.law_holds
