/-
  THE PLAIN LAW of 'FnStoreWidenLagIsHullOfTimestamps': no Go in sight. What a store's lags are after 'widen' over a list of shards; that it is the hull.
-/
namespace Go.Proofs.Qxb6618666a

/-- The lag of one shard behind 'widen' by t. -/
def wid (t : Int) : Option (Int × Int) → Int × Int
  | none => (t, t)
  | some (lo, hi) => (min lo t, max hi t)
/-- Did it change? -/
def chg (t : Int) : Option (Int × Int) → Bool
  | none => true
  | some (lo, hi) => decide (t < lo) || decide (hi < t)
/-- All lags behind 'widen(l, t)'. -/
def widL (s : Int → Option (Int × Int)) (t : Int) (l : List Int) (x : Int) : Option (Int × Int) := if x ∈ l then some (wid t (s x)) else s x
def chgL (s : Int → Option (Int × Int)) (t : Int) (l : List Int) : Bool := l.any fun x => chg t (s x)

theorem chg_wid (t : Int) (o : Option (Int × Int)) : chg t (some (wid t o)) = false := by
  rcases o with _ | ⟨lo, hi⟩
  · simp [wid, chg]
  · have h1 : ¬ t < min lo t := by omega
    have h2 : ¬ max hi t < t := by omega
    simp only [wid, chg, h1, h2, decide_false, Bool.or_self]
theorem wid_wid (t : Int) (o : Option (Int × Int)) : wid t (some (wid t o)) = wid t o := by
  rcases o with _ | ⟨lo, hi⟩
  · simp [wid]
  · have h1 : min (min lo t) t = min lo t := by omega
    have h2 : max (max hi t) t = max hi t := by omega
    simp only [wid, h1, h2]

theorem widL_snoc (s : Int → Option (Int × Int)) (t : Int) (l : List Int) (x y : Int) : widL s t (l ++ [x]) y = if y = x then some (wid t (widL s t l x)) else widL s t l y := by
  unfold widL
  by_cases h : y = x
  · subst h
    by_cases h1 : y ∈ l
    · simp [h1, wid_wid]
    · simp [h1]
  · simp [h]

theorem chgL_snoc (s : Int → Option (Int × Int)) (t : Int) (l : List Int) (x : Int) : chgL s t (l ++ [x]) = (chg t (widL s t l x) || chgL s t l) := by
  unfold chgL widL
  by_cases h1 : x ∈ l
  · simp only [h1, if_true, chg_wid, List.any_append, List.any_cons, List.any_nil, Bool.or_false, Bool.false_or]
    by_cases h2 : chg t (s x) = true
    · have : l.any (fun x => chg t (s x)) = true := List.any_eq_true.2 ⟨x, h1, h2⟩
      simp [this]
    · simp [h2]
  · simp [h1, Bool.or_comm]

/-- What zzHull gives for two timestamps. -/
def hullOf (ia : Bool) (t1 : Int) (ib : Bool) (t2 : Int) : Option (Int × Int) :=
  if ia then (if ib then some (min t1 t2, max t1 t2) else some (t1, t1)) else (if ib then some (t2, t2) else none)

theorem two_hull (A B : List Int) (t1 t2 x : Int) : widL (widL (fun _ => none) t1 A) t2 B x = hullOf (A.contains x) t1 (B.contains x) t2 := by
  unfold widL hullOf
  by_cases h1 : x ∈ A <;> by_cases h2 : x ∈ B <;> simp [h1, h2, wid]

theorem chg_first (A : List Int) (t1 : Int) : chgL (fun _ => none) t1 A = decide (0 < A.length) := by
  unfold chgL
  cases A <;> simp [chg]

/-- The law's own 'want2' after k rounds. -/
def want2 (A : List Int) (t1 t2 : Int) (l : List Int) : Bool := l.any fun x => !(t2 == t1) || !A.contains x

theorem want2_snoc (A : List Int) (t1 t2 : Int) (l : List Int) (x : Int) : want2 A t1 t2 (l ++ [x]) = (want2 A t1 t2 l || (!(t2 == t1) || !A.contains x)) := by
  simp [want2]

theorem chg_second (A B : List Int) (t1 t2 : Int) : chgL (widL (fun _ => none) t1 A) t2 B = want2 A t1 t2 B := by
  unfold chgL want2 widL
  congr 1
  funext x
  by_cases h1 : x ∈ A
  · by_cases h2 : t2 = t1
    · subst h2; simp [h1, wid, chg]
    · have h3 : (t2 == t1) = false := beq_eq_false_iff_ne.2 h2
      have h4 : (decide (t2 < t1) || decide (t1 < t2)) = true := by simp; omega
      simp only [h1, if_true, wid, chg, h4, h3, Bool.not_false, Bool.true_or]
  · simp [h1, chg]

end Go.Proofs.Qxb6618666a
