/-
  WHAT THE LAWS KNOW OF ZZfollowers AND ZZfollowersUpTo: two rows, read by index; the plain facts on them.
-/
import Derived.Test.Qxb6616937aZZu
import Derived.Sort.Walk0
namespace Go.Proofs.Qxb6616937a
open Go.RowKit Go.Maps Go.Sort Go.Shelf

/-- The row that begins at a holds f 0, f 1, .. -/
def Row (W : World) (a : Option Addr) (N : Nat) (f : Nat → Value) : Prop := ∀ j, j < N → ∃ g, a = some ⟨g, 0, none⟩ ∧ W.cell? ⟨g, j, none⟩ = some (f j)

theorem Row.later {W W' : World} {a : Option Addr} {N : Nat} {f : Nat → Value} (h : Row W a N f) (hb : Below W.heap.size W W') : Row W' a N f := fun j hj => by
  obtain ⟨g, e, hc⟩ := h j hj
  exact ⟨g, e, (hb.cell (p := ⟨g, j, none⟩) (block_lt_of_cell hc)).trans hc⟩

theorem row_open {W : World} {base e N : Nat} {v : Value} {xs : List Value} {f : Nat → Value} (h : W.ownsRow base e 1 v N xs) (hf : ∀ j, j < N → xs[j]? = some (f j)) : ∃ a c, v = .slice a N c ∧ Row W a N f := by
  rcases h.2 with ⟨rfl, rfl⟩ | ⟨g, cap, cur, rfl, _, hgb, hcap, _, hcs, htake⟩
  · exact ⟨_, _, rfl, fun j hj => absurd hj (Nat.not_lt_zero _)⟩
  · refine ⟨_, _, rfl, fun j hj => ⟨g, rfl, ?_⟩⟩
    have e1 := hf j hj
    rw [← htake, Nat.mul_one, List.getElem?_take_of_lt hj] at e1
    simpa [World.cell?, hgb] using e1

abbrev Raw := List (List UInt8 × Nat × Int)
def tS (R : Raw) (j : Nat) : ByteArray := ⟨((R[j]?.map (·.1)).getD []).toArray⟩
def tM (R : Raw) (j : Nat) : Int := (R[j]?.map (·.2.2)).getD 0

theorem tS_data (R : Raw) {j : Nat} (h : j < R.length) : (tS R j).data.toList = (R[j]'h).1 := by simp [tS, h]

/-- What the two rows say. -/
structure Plain (N n : Nat) (S : Nat → ByteArray) (M : Nat → Int) (T : Nat → ByteArray) (V : Nat → Int) : Prop where
  le : N ≤ n
  rise : ∀ i j, i < j → j < N → (T i).data.toList < (T j).data.toList
  mem : ∀ k, k < n → ∃ j, j < N ∧ T j = S k
  last : ∀ j, j < N → lastOf S M n (T j).data.toList = some (V j)

theorem strict_keys {D : DataW Unit} {w : World} {b n : Nat} (h : w.ownsMap Try.prog 9 blk b n D) : ((strKeys D).mergeSort leB).Pairwise (· < ·) := by
  have tr : ∀ a b c : List UInt8, leB a b = true → leB b c = true → leB a c = true := fun a b c h1 h2 => by simp only [leB, decide_eq_true_eq] at *; exact List.le_trans h1 h2
  have to : ∀ a b : List UInt8, (leB a b || leB b a) = true := fun a b => by simp only [leB, Bool.or_eq_true, decide_eq_true_eq]; exact List.le_total a b
  have hs := List.pairwise_mergeSort tr to (strKeys D)
  have hnd : (strKeys D).Nodup := by
    obtain ⟨es, rfl, hp⟩ := h.tidy (string_keyed Try.underlying9)
    obtain ⟨es', e, hk⟩ := h.keysOf
    cases e
    show (es.map fun p => strOf p.1).Nodup
    refine List.pairwise_map.2 (List.pairwise_iff_getElem.2 fun i j hi hj hij e => List.pairwise_iff_getElem.1 hp i j hi hj hij ?_)
    obtain ⟨v, hv⟩ := hk _ (List.getElem_mem hi)
    obtain ⟨a, _, ha, _⟩ := Maps.keyOf_str Try.underlying9 hv
    obtain ⟨v', hv'⟩ := hk _ (List.getElem_mem hj)
    obtain ⟨b, _, hb, _⟩ := Maps.keyOf_str Try.underlying9 hv'
    rw [ha, hb] at e ⊢
    exact congrArg _ e
  have hnd' : ((strKeys D).mergeSort leB).Nodup := (List.mergeSort_perm _ _).nodup_iff.2 hnd
  refine List.pairwise_iff_getElem.2 fun i j hi hj hij => ?_
  have h1 := List.pairwise_iff_getElem.1 hs i j hi hj hij
  have h2 := List.pairwise_iff_getElem.1 hnd' i j hi hj hij
  simp only [leB, decide_eq_true_eq] at h1
  rcases List.le_iff_lt_or_eq.1 h1 with h | h
  · exact h
  · exact absurd h h2

theorem lastOf_some (S : Nat → ByteArray) (M : Nat → Int) : ∀ (n k : Nat), k < n → ∃ m, lastOf S M n (S k).data.toList = some m
  | n + 1, k, h => by
    unfold lastOf
    split
    · exact ⟨_, rfl⟩
    · next e =>
      by_cases hk : k = n
      · subst hk; exact absurd rfl e
      · exact lastOf_some S M n k (by omega)

theorem strKeys_of_has {D : DataW Unit} {w : World} {b n : Nat} (h : w.ownsMap Try.prog 9 blk b n D) {s : List UInt8} (hs : has D (.string s) = true) : s ∈ strKeys D := by
  obtain ⟨es, rfl, hk⟩ := h.keysOf
  rw [has_eq, List.any_eq_true] at hs
  obtain ⟨p, hp, e⟩ := hs
  refine List.mem_map.2 ⟨p, hp, ?_⟩
  obtain ⟨v, hv⟩ := hk p hp
  obtain ⟨x, _, hx, _⟩ := Maps.keyOf_str Try.underlying9 hv
  rw [hx] at e ⊢
  simpa [strOf, Lit.sameKey] using e

theorem plain_of {w : World} {b n : Nat} {S : Nat → ByteArray} {M : Nat → Int} {D : DataW Unit} {L : List (Item w)} (h : MapIs w b n S M D) (hI : Items w n S M D L) : Plain L.length n S M (tS (L.map (·.1))) (tM (L.map (·.1))) := by
  have hlen : L.length = (strKeys D).length := by have := congrArg List.length hI.keys; simpa using this
  have hst : (L.map (·.1.1)).Pairwise (· < ·) := by rw [hI.keys]; exact strict_keys h.own
  refine ⟨?_, fun i j hij hj => ?_, fun k hk => ?_, fun j hj => ?_⟩
  · have := h.own.size_le
    obtain ⟨es, rfl, _⟩ := h.own.keysOf
    rw [hlen]
    simpa [strKeys, Maps.size] using this
  · rw [tS_data _ (by simp; omega), tS_data _ (by simp; omega)]
    have := List.pairwise_iff_getElem.1 hst i j (by simp; omega) (by simp; omega) hij
    simpa using this
  · obtain ⟨m, hm⟩ := lastOf_some S M n k hk
    obtain ⟨g, hg, _⟩ := h.hit _ m hm
    have hmem : (S k).data.toList ∈ L.map (·.1.1) := by
      rw [hI.keys]
      exact (List.mergeSort_perm _ _).mem_iff.2 (strKeys_of_has h.own (has_true_of_atKey hg))
    obtain ⟨j, hj, e⟩ := List.mem_iff_getElem.1 hmem
    simp at hj e
    refine ⟨j, hj, ?_⟩
    simp [tS, hj, e]
  · have hx := hI.last (L[j]'hj) (List.getElem_mem hj)
    rw [tS_data _ (by simpa using hj)]
    simpa [tM, hj] using hx

/-- The items, read in a later world. -/
def lift {w w' : World} (hb : Below w.heap.size w w') (x : Item w) : Item w' := ⟨x.1, (hb.cell (p := ⟨x.1.2.1, 0, none⟩) (block_lt_of_cell x.2)).trans x.2⟩

theorem items_lift {w w' : World} {n : Nat} {S : Nat → ByteArray} {M : Nat → Int} {D : DataW Unit} {L : List (Item w)} (hb : Below w.heap.size w w') (hI : Items w n S M D L) : Items w' n S M D (L.map (lift hb)) := by
  refine ⟨?_, ?_, ?_, ?_⟩
  · rw [← hI.keys]; simp [lift]
  all_goals
    intro x hx
    obtain ⟨y, hy, rfl⟩ := List.mem_map.1 hx
  · exact hI.at_ y hy
  · exact hI.len y hy
  · exact hI.last y hy

/-- ZZfollowers, for the laws. -/
theorem followers_any (r b n : Nat) (S : Nat → ByteArray) (M : Nat → Int) (D : DataW Unit) (w : World) (hR : RepIs w r b n S M D) (hN : n ≤ 1048576) (L : List (Item w)) (hI : Items w n S M D L) :
    Calls Try.prog 26 #[.pointer (some ⟨r, 0, none⟩)] w fun e W' => ∃ a1 c1 a2 c2, e = .returned (.tuple #[.slice a1 L.length c1, .slice a2 L.length c2]) ∧ Row W' a1 L.length (fun j => .string (tS (L.map (·.1)) j)) ∧ Row W' a2 L.length (fun j => .int .u64 (tM (L.map (·.1)) j)) ∧ Below w.heap.size w W' := by
  refine (callsIn_wide.1 (zzFollowers_in r b n S M D w L hI hR hN)).mono ?_
  rintro e W' ⟨v1, v2, rfl, r1, r2, hb⟩
  obtain ⟨a1, c1, rfl, h1⟩ := row_open (f := fun j => .string (tS (L.map (·.1)) j)) r1 (fun j hj => by simp [hj, tS])
  obtain ⟨a2, c2, rfl, h2⟩ := row_open (f := fun j => .int .u64 (tM (L.map (·.1)) j)) r2 (fun j hj => by simp [hj, tM])
  exact ⟨_, _, _, _, rfl, h1, h2, hb⟩

/-- ZZfollowersUpTo, for the laws. -/
theorem followersUpTo_any (r b n : Nat) (k : Int) (S : Nat → ByteArray) (M : Nat → Int) (D : DataW Unit) (w : World) (hR : RepIs w r b n S M D) (hN : n ≤ 1048576) (hk : -9223372036854775808 ≤ k ∧ k ≤ 9223372036854775807) (R : Raw) (N : Nat) (hN2 : min k.toNat R.length = N) (L : List (Item w)) (hL : L.map (·.1) = R) (hI : Items w n S M D L) :
    Calls Try.prog 29 #[.pointer (some ⟨r, 0, none⟩), .int .i64 k] w fun e W' => ∃ a1 c1 a2 c2, e = .returned (.tuple #[.slice a1 N c1, .slice a2 N c2]) ∧ Row W' a1 N (fun j => .string (tS R j)) ∧ Row W' a2 N (fun j => .int .u64 (tM R j)) ∧ Below w.heap.size w W' := by
  have hl : (L.take k.toNat).length = N := by rw [← hN2, ← hL]; simp
  refine (callsIn_wide.1 (zzFollowersUpTo_in r b n k S M D w L hI hR hN hk)).mono ?_
  rintro e W' ⟨v1, v2, rfl, r1, r2, hb⟩
  rw [hl] at r1 r2
  subst hL
  simp at hN2
  obtain ⟨a1, c1, rfl, h1⟩ := row_open (f := fun j => .string (tS (L.map (·.1)) j)) r1 (fun j hj => by
    have h1 : j < L.length := by omega
    have h2 : j < k.toNat := by omega
    simp [tS, h1, h2])
  obtain ⟨a2, c2, rfl, h2⟩ := row_open (f := fun j => .int .u64 (tM (L.map (·.1)) j)) r2 (fun j hj => by
    have h1 : j < L.length := by omega
    have h2 : j < k.toNat := by omega
    simp [tM, h1, h2])
  exact ⟨_, _, _, _, rfl, h1, h2, hb⟩

/-- The same, the two rows under the caller's own names. -/
theorem followers_at (r b n : Nat) (S : Nat → ByteArray) (M : Nat → Int) (D : DataW Unit) (w : World) (hR : RepIs w r b n S M D) (hN : n ≤ 1048576) (L : List (Item w)) (hI : Items w n S M D L) (N : Nat) (T : Nat → ByteArray) (V : Nat → Int) (h1 : Hid (L.length = N)) (h2 : Hid (tS (L.map (·.1)) = T)) (h3 : Hid (tM (L.map (·.1)) = V)) :
    Calls Try.prog 26 #[.pointer (some ⟨r, 0, none⟩)] w fun e W' => ∃ a1 c1 a2 c2, e = .returned (.tuple #[.slice a1 N c1, .slice a2 N c2]) ∧ Row W' a1 N (fun j => .string (T j)) ∧ Row W' a2 N (fun j => .int .u64 (V j)) ∧ Below w.heap.size w W' := by
  rw [← h1.out, ← h2.out, ← h3.out]
  exact followers_any r b n S M D w hR hN L hI

theorem followersUpTo_at (r b n : Nat) (k : Int) (S : Nat → ByteArray) (M : Nat → Int) (D : DataW Unit) (w0 w : World) (hb : Below w0.heap.size w0 w) (hR : RepIs w r b n S M D) (hN : n ≤ 1048576) (hk : -9223372036854775808 ≤ k ∧ k ≤ 9223372036854775807) (L : List (Item w0)) (hI : Items w0 n S M D L) (N N2 : Nat) (T : Nat → ByteArray) (V : Nat → Int) (h1 : Hid (L.length = N)) (h2 : Hid (tS (L.map (·.1)) = T)) (h3 : Hid (tM (L.map (·.1)) = V)) (h4 : Hid (min k.toNat N = N2)) :
    Calls Try.prog 29 #[.pointer (some ⟨r, 0, none⟩), .int .i64 k] w fun e W' => ∃ a1 c1 a2 c2, e = .returned (.tuple #[.slice a1 N2 c1, .slice a2 N2 c2]) ∧ Row W' a1 N2 (fun j => .string (T j)) ∧ Row W' a2 N2 (fun j => .int .u64 (V j)) ∧ Below w.heap.size w W' := by
  rw [← h2.out, ← h3.out]
  exact followersUpTo_any r b n k S M D w hR hN hk (L.map (·.1)) N2 (by rw [List.length_map, h1.out]; exact h4.out) (L.map (lift hb)) (by simp [lift]) (items_lift hb hI)
end Go.Proofs.Qxb6616937a
