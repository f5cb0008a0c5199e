/- append of a slice that is known cell by cell, or nil, onto a row of the call's own: one law for every length. Over any program. -/
import Derived.Maps.AppendAt
import Derived.Laws.OwnMore
namespace Go.Proofs.Yboneinjo
section
variable {P : Program} (w : World)

theorem own_form {w : World} {base : Nat} {e : TypeId} {size : Nat} {v : Value} {n : Nat} {xs : List Value} (h : w.ownsRow base e size v n xs) : ∃ a c, v = .slice a n c := by
  rcases h.2 with ⟨rfl, rfl⟩ | ⟨g, cap, cur, rfl, _⟩
  · exact ⟨_, _, rfl⟩
  · exact ⟨_, _, rfl⟩

theorem wpList_append_src {ops : Array Oper} {rest : List Oper} {o : Oper} {a : Act} {Q : Exit → Act → World → Prop} (hgd : o.guard = none) (s x : Operand) (t : TypeId)
    (ho : o.op = .call { callee := .builtin .append, args := #[s, x], argTypes := #[t, t] })
    (base : Nat) (e : TypeId) (i : TypeInfo) (z : Value) (size bytes : Nat) (ht : P.underlying t = some (.slice e)) (hi : P.info? e = some i) (hz : i.zero = some z)
    (hsize : i.size = size) (hby : i.bytes = bytes) (hzs : z.cells.size = size) (hsz : 0 < size)
    (v : Value) (n : Nat) (xs : List Value) (hs : a.eval s = v) (hown : w.ownsRow base e size v n xs)
    (src : Option Addr) (m c : Nat) (news : List Value) (hx : a.eval x = .slice src m c) (hl : news.length = m * size)
    (hsrc : (src = none ∧ m = 0 ∧ c = 0) ∨ ∃ ad, src = some ad ∧ ∀ j u, news[j]? = some u → w.cell? (ad.add j) = some u) (h1 : ∀ u ∈ news, u.oneCell' = true)
    (h63 : n + m ≤ maxLen) (hbytes : (n + m) * bytes ≤ 140737488355328) (hbase : base ≤ w.heap.size)
    (h : ∀ a' c' w', w'.ownsRow base e size (.slice a' (n + m) c') (n + m) (xs ++ news) → w.grownBy w' v.ownBlock → ((Value.slice a' (n + m) c').ownBlock = v.ownBlock ∨ (Value.slice a' (n + m) c').ownBlock = some w.heap.size) → wpList P ops Q rest (a.put o.dst (.slice a' (n + m) c')) w') : wpList P ops Q (o :: rest) a w := by
  obtain ⟨v', w', hr, h2, h3, h5⟩ : ∃ v' w', (Builtin.append_ #[t, t] o.type #[v, .slice src m c]).run P w = .ok v' w' ∧ w'.ownsRow base e size v' (n + m) (xs ++ news) ∧ w.grownBy w' v.ownBlock ∧ (v'.ownBlock = v.ownBlock ∨ v'.ownBlock = some w.heap.size) := by
    rcases hsrc with ⟨rfl, rfl, rfl⟩ | ⟨ad, rfl, hnews⟩
    · have hn : news = [] := List.eq_nil_of_length_eq_zero (by simpa using hl)
      subst hn
      refine ⟨v, w, ?_, by simpa using hown, ⟨rfl, rfl, rfl, Nat.le_refl _, fun _ _ _ => rfl⟩, .inl rfl⟩
      exact run_append_owned_none w base t o.type e i size ht hi v n xs hown
    · obtain ⟨v', w', hr, h2, h3, _, h5⟩ := run_append_own_at (P := P) w base t o.type e i z size bytes ht hi hz hsize hby hzs hsz v n xs hown ad m c news hl hnews h1 h63 hbytes hbase
      exact ⟨v', w', hr, h2, h3, h5⟩
  obtain ⟨a', c', rfl⟩ := own_form h2
  refine wpList_plain hgd fun _ hK => ?_
  unfold Oper.wp execOp
  simp only [ho, resolve, invoke, builtin, Sem.run_bind, Sem.run_pure, Result.andThen_ok, List.map_toArray, List.map_cons, List.map_nil, hs, hx, hr]
  exact hK _ _ (h a' c' w' h2 h3 h5)
end
end Go.Proofs.Yboneinjo
