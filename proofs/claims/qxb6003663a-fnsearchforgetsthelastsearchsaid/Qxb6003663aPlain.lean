/-
  Depth-first search as plain rules. No Go in sight.
-/
namespace Go.Proofs.Qxb6003663a

structure St where
  left : List Int
  order : List Int

def St.at (s : St) (v : Int) : Int := s.left.getD v.toNat 0
def St.enter (s : St) (v : Int) : St := ⟨s.left.set v.toNat (-1), s.order⟩
def St.leave (s : St) (v : Int) : St := ⟨s.left.set v.toNat (s.order.length + 1), s.order ++ [v]⟩

mutual
inductive Dfs (adj : Int → List Int) : Int → St → St → Prop
  | mk {v : Int} {s t : St} : Dfss adj (adj v) (s.enter v) t → Dfs adj v s (t.leave v)
inductive Dfss (adj : Int → List Int) : List Int → St → St → Prop
  | nil {s : St} : Dfss adj [] s s
  | skip {w : Int} {ws : List Int} {s t : St} : s.at w ≠ 0 → Dfss adj ws s t → Dfss adj (w :: ws) s t
  | take {w : Int} {ws : List Int} {s t u : St} : s.at w = 0 → Dfs adj w s t → Dfss adj ws t u → Dfss adj (w :: ws) s u
end

mutual
theorem Dfs.det {adj : Int → List Int} {v : Int} {s t u : St} : Dfs adj v s t → Dfs adj v s u → t = u
  | .mk h, .mk k => by rw [Dfss.det h k]
theorem Dfss.det {adj : Int → List Int} {ws : List Int} {s t u : St} : Dfss adj ws s t → Dfss adj ws s u → t = u
  | .nil, .nil => rfl
  | .skip _ h, .skip _ k => Dfss.det h k
  | .skip a _, .take b _ _ => absurd b a
  | .take a _ _, .skip b _ => absurd a b
  | .take _ h1 h2, .take _ k1 k2 => by
    have e := Dfs.det h1 k1
    subst e
    exact Dfss.det h2 k2
end
end Go.Proofs.Qxb6003663a
