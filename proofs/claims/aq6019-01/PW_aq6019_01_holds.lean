import PyProof.Rows.All
import Wide.All
import OpenK.AllK
import Wide.FinOn
import PySem.Challenge.RW_aq6019_01
set_option Elab.async false
section
open PySem PySem.W PyProof.Rows
set_option Elab.async false
set_option maxRecDepth 100000
set_option maxHeartbeats 8000000
namespace Mine
open_top hd for PySem.Challenge.rw_aq6019_01
end Mine
end
section
open PySem PySem.W PyProof.Rows
set_option Elab.async false
namespace Mine
/-- the pieces between the octets c -/
def splitB (c : UInt8) : List UInt8 → List (List UInt8)
  | [] => [[]]
  | x :: r => if x = c then [] :: splitB c r else match splitB c r with
    | [] => [[x]]
    | p :: ps => (x :: p) :: ps
def joinB (sep : List UInt8) : List (List UInt8) → List UInt8
  | [] => []
  | [p] => p
  | p :: q :: ps => p ++ sep ++ joinB sep (q :: ps)
def idxB (c : UInt8) : List UInt8 → Option Nat
  | [] => none
  | x :: r => if x = c then some 0 else (idxB c r).map (· + 1)
/-- places of c, counted from k -/
def placesB (c : UInt8) : Nat → List UInt8 → List Nat
  | _, [] => []
  | k, x :: r => if x = c then k :: placesB c (k + 1) r else placesB c (k + 1) r
theorem splitB_ne (c : UInt8) : ∀ l, splitB c l ≠ []
  | [] => by simp [splitB]
  | x :: r => by
    unfold splitB
    split
    · simp
    · split <;> simp
theorem extract_one (l : List UInt8) (c : UInt8) (i : Nat) : (l.toArray.extract i (i + 1) == #[c]) = (l[i]? == some c) := by
  rcases Nat.lt_or_ge i l.length with h | h
  · have e : l.toArray.extract i (i + 1) = #[l[i]] := by
      simp [List.extract_toArray, List.extract_eq_take_drop]
      rw [List.drop_eq_getElem_cons h]; rfl
    rw [e, List.getElem?_eq_getElem h]
    simp
  · have e : l.toArray.extract i (i + 1) = #[] := by
      simp [List.extract_toArray, List.extract_eq_take_drop]; omega
    rw [e, List.getElem?_eq_none h]
    rfl
theorem find_range (l : List UInt8) (c : UInt8) : ∀ (k : Nat) (pre r : List UInt8), l = pre ++ r → pre.length = k →
    ((List.range r.length).map (· + k)).find? (fun i => l[i]? == some c) = (idxB c r).map (· + k)
  | _, _, [], _, _ => by simp [idxB]
  | k, pre, x :: r, e, hk => by
    rw [List.length_cons, List.range_succ_eq_map, List.map_cons, List.map_map]
    have hx : l[k]? = some x := by rw [e, ← hk]; simp
    unfold idxB
    by_cases h : x = c
    · simp [h, hx]
    · have ih := find_range l c (k + 1) (pre ++ [x]) r (by simp [e]) (by simp [hk])
      have e2 : ((fun x => x + k) ∘ Nat.succ) = (fun x => x + (k + 1)) := by funext y; simp; omega
      rw [List.find?_cons]
      have h0 : (l[0 + k]? == some c) = false := by rw [Nat.zero_add, hx]; simpa using h
      rw [h0, e2, ih, if_neg h, Option.map_map]
      show Option.map _ _ = _
      congr 1
      funext y; simp; omega
theorem find_one (l : List UInt8) (c : UInt8) : Builtin.Bytes.find? l.toArray #[c] 0 l.length = idxB c l := by
  unfold Builtin.Bytes.find?
  have e : (fun i => l.toArray.extract i (i + (#[c] : Array UInt8).size) == #[c]) = fun i => l[i]? == some c := by
    funext i; exact extract_one l c i
  rw [e]
  have := find_range l c 0 [] l rfl rfl
  simp only [Nat.add_zero, Option.map_id'] at this
  simpa using this
theorem occ_go (l : List UInt8) (c : UInt8) : ∀ (k : Nat) (pre r : List UInt8) (acc : List Nat) (m : Nat), l = pre ++ r → pre.length = k → m ≤ k →
    ((((List.range r.length).map (· + k)).foldl (fun (acc : List Nat × Nat) (i : Nat) =>
      if i ≥ acc.2 && (l.toArray.extract i (i + (#[c] : Array UInt8).size) == #[c]) then (i :: acc.1, i + (#[c] : Array UInt8).size) else acc) (acc, m)).1.reverse) = acc.reverse ++ placesB c k r
  | _, _, [], acc, _, _, _, _ => by simp [placesB]
  | k, pre, x :: r, acc, m, e, hk, hm => by
    rw [List.length_cons, List.range_succ_eq_map, List.map_cons, List.map_map]
    have hx : l[k]? = some x := by rw [e, ← hk]; simp
    have e2 : ((fun x => x + k) ∘ Nat.succ) = (fun x => x + (k + 1)) := by funext y; simp; omega
    rw [List.foldl_cons, e2]
    have e3 : (l.toArray.extract (0 + k) ((0 + k) + (#[c] : Array UInt8).size) == #[c]) = (l[k]? == some c) := by rw [Nat.zero_add]; exact extract_one l c k
    unfold placesB
    by_cases h : x = c
    · have e4 : (decide (0 + k ≥ m) && (l.toArray.extract (0 + k) ((0 + k) + (#[c] : Array UInt8).size) == #[c])) = true := by
        rw [e3, hx, h]; simp; omega
      rw [e4, if_pos rfl, if_pos h]
      have ih := occ_go l c (k + 1) (pre ++ [x]) r ((0 + k) :: acc) ((0 + k) + (#[c] : Array UInt8).size) (by simp [e]) (by simp [hk]) (by simp)
      rw [ih]
      simp
    · have e4 : (decide (0 + k ≥ m) && (l.toArray.extract (0 + k) ((0 + k) + (#[c] : Array UInt8).size) == #[c])) = false := by
        rw [e3, hx]; simp [h]
      rw [e4, if_neg Bool.false_ne_true, if_neg h]
      exact occ_go l c (k + 1) (pre ++ [x]) r acc m (by simp [e]) (by simp [hk]) (by omega)
theorem occ_one (l : List UInt8) (c : UInt8) : Builtin.Bytes.occurrences l.toArray #[c] 0 l.toArray.size = placesB c 0 l := by
  unfold Builtin.Bytes.occurrences
  have := occ_go l c 0 [] l [] 0 rfl rfl (Nat.le_refl _)
  simpa using this
def betw (l : List UInt8) : Nat → List Nat → List (List UInt8)
  | last, [] => [l.drop last]
  | last, p :: ps => (l.drop last).take (p - last) :: betw l (p + 1) ps
theorem extract_list (l : List UInt8) (a b : Nat) : l.toArray.extract a b = ((l.drop a).take (b - a)).toArray := by
  simp [List.extract_toArray, List.extract_eq_take_drop]
theorem between_go (l : List UInt8) : ∀ (ps : List Nat) (parts : Array (Array UInt8)) (last : Nat),
    ((ps.foldl (fun (x : Array (Array UInt8) × Nat) p => (x.1.push (l.toArray.extract x.2 p), p + 1)) (parts, last)).1.push
      (l.toArray.extract (ps.foldl (fun (x : Array (Array UInt8) × Nat) p => (x.1.push (l.toArray.extract x.2 p), p + 1)) (parts, last)).2 l.toArray.size)).toList
      = parts.toList ++ (betw l last ps).map List.toArray
  | [], parts, last => by
    simp only [List.foldl_nil, betw, extract_list]
    have : List.take (l.length - last) (List.drop last l) = List.drop last l := List.take_of_length_le (by simp)
    simp [this]
  | p :: ps, parts, last => by
    rw [List.foldl_cons, between_go l ps]
    simp [betw, extract_list]
theorem between_eq (l : List UInt8) (ps : List Nat) : Builtin.Bytes.between l.toArray 1 ps = (betw l 0 ps).map List.toArray := by
  have := between_go l ps #[] 0
  simpa [Builtin.Bytes.between] using this
theorem betw_split (l : List UInt8) (c : UInt8) : ∀ (r : List UInt8) (k last : Nat) (pre cur : List UInt8), l = pre ++ cur ++ r → pre.length = last → pre.length + cur.length = k →
    betw l last (placesB c k r) = (match splitB c r with | [] => [cur] | p :: ps => (cur ++ p) :: ps)
  | [], k, last, pre, cur, e, h1, h2 => by
    simp only [placesB, betw, splitB]
    rw [e, ← h1]; simp
  | x :: r, k, last, pre, cur, e, h1, h2 => by
    unfold placesB splitB
    by_cases h : x = c
    · rw [if_pos h, if_pos h]
      unfold betw
      have ih := betw_split l c r (k + 1) (k + 1) (pre ++ cur ++ [x]) [] (by simp [e]) (by simp; omega) (by simp; omega)
      rw [ih]
      have e2 : (l.drop last).take (k - last) = cur := by
        rw [e, ← h1, List.append_assoc, List.drop_left]
        rw [show k - pre.length = cur.length by omega, List.take_left]
      rw [e2]
      cases hs : splitB c r with
      | nil => exact absurd hs (splitB_ne c r)
      | cons p ps => simp
    · rw [if_neg h, if_neg h]
      have ih := betw_split l c r (k + 1) last pre (cur ++ [x]) (by simp [e]) h1 (by simp; omega)
      rw [ih]
      cases hs : splitB c r with
      | nil => exact absurd hs (splitB_ne c r)
      | cons p ps => simp
theorem split_all (l : List UInt8) (c : UInt8) : Builtin.Bytes.between l.toArray 1 (placesB c 0 l) = (splitB c l).map List.toArray := by
  rw [between_eq, betw_split l c l 0 0 [] [] rfl rfl rfl]
  cases hs : splitB c l with
  | nil => exact absurd hs (splitB_ne c l)
  | cons p ps => simp
theorem places_none {c : UInt8} {l : List UInt8} : ∀ {k : Nat}, placesB c k l = [] → splitB c l = [l] := by
  induction l with
  | nil => intro k _; rfl
  | cons x r ih =>
    intro k h
    unfold placesB at h
    by_cases hx : x = c
    · rw [if_pos hx] at h; cases h
    · rw [if_neg hx] at h
      unfold splitB
      rw [if_neg hx, ih h]
theorem places_first (c : UInt8) : ∀ (l : List UInt8) (k : Nat), (placesB c k l).head? = (idxB c l).map (· + k)
  | [], _ => rfl
  | x :: r, k => by
    unfold placesB idxB
    by_cases h : x = c
    · simp [h]
    · rw [if_neg h, if_neg h, places_first c r (k + 1), Option.map_map]
      congr 1; funext y; simp; omega
/-- split once -/
def splitOnceB (c : UInt8) (l : List UInt8) : List (List UInt8) := match idxB c l with
  | none => [l]
  | some i => [l.take i, l.drop (i + 1)]
theorem split_once (l : List UInt8) (c : UInt8) (h : placesB c 0 l ≠ []) : Builtin.Bytes.between l.toArray 1 ((placesB c 0 l).take 1) = (splitOnceB c l).map List.toArray := by
  have hf := places_first c l 0
  cases hp : placesB c 0 l with
  | nil => exact absurd hp h
  | cons p ps =>
    rw [hp] at hf
    simp only [List.head?_cons, Nat.add_zero, Option.map_id'] at hf
    rw [between_eq]
    unfold splitOnceB
    rw [← hf]
    simp [betw]
theorem split_once_none (l : List UInt8) (c : UInt8) (h : placesB c 0 l = []) : splitOnceB c l = [l] := by
  have hf := places_first c l 0
  rw [h] at hf
  simp only [List.head?_nil, Nat.add_zero, Option.map_id'] at hf
  unfold splitOnceB
  rw [← hf]
theorem joined_go (sep : List UInt8) : ∀ (ps : List (List UInt8)) (k : Nat) (out : List UInt8), 0 < k →
    (((ps.map List.toArray).zipIdx k).foldl (fun out (x : Array UInt8 × Nat) => (if x.2 > 0 then out ++ sep.toArray else out) ++ x.1) out.toArray) = (out ++ (ps.map (sep ++ ·)).flatten).toArray
  | [], _, out, _ => by simp
  | p :: ps, k, out, hk => by
    rw [List.map_cons, List.zipIdx_cons, List.foldl_cons]
    have e : ((if k > 0 then out.toArray ++ sep.toArray else out.toArray) ++ p.toArray) = (out ++ sep ++ p).toArray := by
      rw [if_pos hk]; simp
    show ((ps.map List.toArray).zipIdx (k + 1)).foldl _ ((if k > 0 then out.toArray ++ sep.toArray else out.toArray) ++ p.toArray) = _
    rw [e, joined_go sep ps (k + 1) (out ++ sep ++ p) (by omega)]
    simp
theorem joinB_flat (sep : List UInt8) : ∀ (p : List UInt8) (ps : List (List UInt8)), joinB sep (p :: ps) = p ++ (ps.map (sep ++ ·)).flatten
  | p, [] => by simp [joinB]
  | p, q :: ps => by rw [joinB, joinB_flat sep q ps]; simp
theorem joined_eq (sep : List UInt8) (ps : List (List UInt8)) : Builtin.Bytes.joined sep.toArray (ps.map List.toArray) = (joinB sep ps).toArray := by
  unfold Builtin.Bytes.joined
  cases ps with
  | nil => rfl
  | cons p ps =>
    rw [List.map_cons, List.zipIdx_cons, List.foldl_cons]
    show ((ps.map List.toArray).zipIdx 1).foldl _ ((if 0 > 0 then #[] ++ sep.toArray else #[]) ++ p.toArray) = _
    have e : ((if 0 > 0 then (#[] : Array UInt8) ++ sep.toArray else #[]) ++ p.toArray) = p.toArray := by simp
    rw [e, joined_go sep ps 1 p (by omega), joinB_flat]
theorem splitB_length (c : UInt8) : ∀ l, (splitB c l).length ≤ l.length + 1
  | [] => by simp [splitB]
  | x :: r => by
    have ih := splitB_length c r
    unfold splitB
    by_cases h : x = c
    · simp [h]; omega
    · rw [if_neg h]
      cases hs : splitB c r with
      | nil => simp
      | cons p ps => rw [hs] at ih; simp at ih ⊢; omega
theorem splitB_mem (c : UInt8) : ∀ l, ∀ p ∈ splitB c l, p.length ≤ l.length
  | [], p, hp => by simp [splitB] at hp; subst hp; simp
  | x :: r, p, hp => by
    have ih := splitB_mem c r
    unfold splitB at hp
    by_cases h : x = c
    · rw [if_pos h] at hp
      rcases List.mem_cons.mp hp with rfl | hp
      · simp
      · have := ih p hp; simp; omega
    · rw [if_neg h] at hp
      cases hs : splitB c r with
      | nil => rw [hs] at hp; simp at hp; subst hp; simp
      | cons q qs =>
        rw [hs] at hp ih
        rcases List.mem_cons.mp hp with rfl | hp
        · have := ih q (.head _); simp; omega
        · have := ih p (.tail _ hp); simp; omega
theorem idxB_lt (c : UInt8) : ∀ {l : List UInt8} {i : Nat}, idxB c l = some i → i < l.length
  | [], _, h => by simp [idxB] at h
  | x :: r, i, h => by
    unfold idxB at h
    by_cases hx : x = c
    · rw [if_pos hx] at h; cases h; simp
    · rw [if_neg hx] at h
      cases hr : idxB c r with
      | none => rw [hr] at h; cases h
      | some j => rw [hr] at h; cases h; have := idxB_lt c hr; simp; omega
end Mine
end
section
open PySem PySem.W PyProof.Rows PySem.Calls
set_option Elab.async false
namespace Mine
/-- plain data -/
inductive D where
  | none
  | bool (b : Bool)
  | int (i : Int)
  | bytes (b : List UInt8)
  | raw (v : Value)
  | list (ds : List D)
  | tuple (ds : List D)
mutual
/-- v bears d at h, through objects outside W -/
inductive Den (W : List Addr) (h : Heap) : Value → D → Prop
  | none : Den W h .none .none
  | bool (b : Bool) : Den W h (.bool b) (.bool b)
  | int (i : Int) (t : Tok) : Den W h (.int i t) (.int i)
  | bytes (b : List UInt8) (t : Tok) : Den W h (.bytes b.toArray t) (.bytes b)
  | raw (v : Value) : Den W h v (.raw v)
  | list {a : Addr} {vs : List Value} {ds : List D} : a ∉ W → h.IsList a vs.toArray → DenAll W h vs ds → Den W h (.ref a) (.list ds)
  | tuple {a : Addr} {vs : List Value} {ds : List D} : a ∉ W → h.IsTuple a vs.toArray → DenAll W h vs ds → Den W h (.ref a) (.tuple ds)
inductive DenAll (W : List Addr) (h : Heap) : List Value → List D → Prop
  | nil : DenAll W h [] []
  | cons {v : Value} {vs : List Value} {d : D} {ds : List D} : Den W h v d → DenAll W h vs ds → DenAll W h (v :: vs) (d :: ds)
end
/-- what is outside W is kept -/
def Kb (W : List Addr) (h h' : Heap) : Prop := ∀ b o, b ∉ W → h.get? b = some o → h'.get? b = some o
theorem Kb.refl {W h} : Kb W h h := fun _ _ _ e => e
theorem Kb.trans {W h h' h''} (x : Kb W h h') (y : Kb W h' h'') : Kb W h h'' := fun b o hb e => y b o hb (x b o hb e)
theorem Kb.of_keep {W h h'} (x : ∀ b o, h.get? b = some o → h'.get? b = some o) : Kb W h h' := fun b o _ e => x b o e
theorem isList_kb {h h' : Heap} {W : List Addr} {a items} (k : Kb W h h') (ha : a ∉ W) (x : h.IsList a items) : h'.IsList a items := let ⟨o, ho, r⟩ := x; ⟨o, k _ _ ha ho, r⟩
theorem isTuple_kb {h h' : Heap} {W : List Addr} {a items} (k : Kb W h h') (ha : a ∉ W) (x : h.IsTuple a items) : h'.IsTuple a items := let ⟨o, ho, r⟩ := x; ⟨o, k _ _ ha ho, r⟩
mutual
theorem Den.kb {W : List Addr} {h h' : Heap} (k : Kb W h h') : ∀ {v : Value} {d : D}, Den W h v d → Den W h' v d
  | _, _, .none => .none
  | _, _, .bool b => .bool b
  | _, _, .int i t => .int i t
  | _, _, .bytes b t => .bytes b t
  | _, _, .raw v => .raw v
  | _, _, .list ha hl r => .list ha (isList_kb k ha hl) (DenAll.kb k r)
  | _, _, .tuple ha hl r => .tuple ha (isTuple_kb k ha hl) (DenAll.kb k r)
theorem DenAll.kb {W : List Addr} {h h' : Heap} (k : Kb W h h') : ∀ {vs : List Value} {ds : List D}, DenAll W h vs ds → DenAll W h' vs ds
  | _, _, .nil => .nil
  | _, _, .cons x r => .cons (Den.kb k x) (DenAll.kb k r)
end
mutual
theorem Den.sub {W W' : List Addr} {h : Heap} (k : ∀ a ∈ W', a ∈ W) : ∀ {v : Value} {d : D}, Den W h v d → Den W' h v d
  | _, _, .none => .none
  | _, _, .bool b => .bool b
  | _, _, .int i t => .int i t
  | _, _, .bytes b t => .bytes b t
  | _, _, .raw v => .raw v
  | _, _, .list ha hl r => .list (fun x => ha (k _ x)) hl (DenAll.sub k r)
  | _, _, .tuple ha hl r => .tuple (fun x => ha (k _ x)) hl (DenAll.sub k r)
theorem DenAll.sub {W W' : List Addr} {h : Heap} (k : ∀ a ∈ W', a ∈ W) : ∀ {vs : List Value} {ds : List D}, DenAll W h vs ds → DenAll W' h vs ds
  | _, _, .nil => .nil
  | _, _, .cons x r => .cons (Den.sub k x) (DenAll.sub k r)
end
theorem isList_at {h : Heap} {a items} (x : h.IsList a items) : ∃ o, h.get? a = some o := let ⟨o, ho, _⟩ := x; ⟨o, ho⟩
theorem isTuple_at {h : Heap} {a items} (x : h.IsTuple a items) : ∃ o, h.get? a = some o := let ⟨o, ho, _⟩ := x; ⟨o, ho⟩
mutual
/-- an address at which nothing stands may be barred -/
theorem Den.bar {W W' : List Addr} {h : Heap} (k : ∀ a ∈ W', a ∉ W → h.get? a = none) : ∀ {v : Value} {d : D}, Den W h v d → Den W' h v d
  | _, _, .none => .none
  | _, _, .bool b => .bool b
  | _, _, .int i t => .int i t
  | _, _, .bytes b t => .bytes b t
  | _, _, .raw v => .raw v
  | _, _, .list ha hl r => .list (fun x => by obtain ⟨o, e⟩ := isList_at hl; rw [k _ x ha] at e; cases e) hl (DenAll.bar k r)
  | _, _, .tuple ha hl r => .tuple (fun x => by obtain ⟨o, e⟩ := isTuple_at hl; rw [k _ x ha] at e; cases e) hl (DenAll.bar k r)
theorem DenAll.bar {W W' : List Addr} {h : Heap} (k : ∀ a ∈ W', a ∉ W → h.get? a = none) : ∀ {vs : List Value} {ds : List D}, DenAll W h vs ds → DenAll W' h vs ds
  | _, _, .nil => .nil
  | _, _, .cons x r => .cons (Den.bar k x) (DenAll.bar k r)
end
section
variable {W : List Addr} {h : Heap} {v : Value} {d : D} {vs ws : List Value} {ds es : List D}
theorem DenAll.length (x : DenAll W h vs ds) : vs.length = ds.length := by
  induction vs generalizing ds with
  | nil => cases x; rfl
  | cons v vs ih =>
    cases x with
    | cons _ r => rw [List.length_cons, List.length_cons, ih r]
theorem DenAll.append (x : DenAll W h vs ds) (k : DenAll W h ws es) : DenAll W h (vs ++ ws) (ds ++ es) := by
  induction vs generalizing ds with
  | nil => cases x; exact k
  | cons v vs ih =>
    cases x with
    | cons x r => exact .cons x (ih r)
theorem DenAll.get (x : DenAll W h vs ds) {k : Nat} {d : D} (hk : ds[k]? = some d) : ∃ v, vs[k]? = some v ∧ Den W h v d := by
  induction vs generalizing ds k with
  | nil => cases x; cases hk
  | cons v vs ih =>
    cases x with
    | cons x r =>
      cases k with
      | zero => cases hk; exact ⟨v, rfl, x⟩
      | succ k => exact ih r hk
theorem DenAll.getV (x : DenAll W h vs ds) {k : Nat} {v : Value} (hk : vs[k]? = some v) : ∃ d, ds[k]? = some d ∧ Den W h v d := by
  induction vs generalizing ds k with
  | nil => cases hk
  | cons u vs ih =>
    cases x with
    | cons x r =>
      cases k with
      | zero => cases hk; exact ⟨_, rfl, x⟩
      | succ k => exact ih r hk
theorem DenAll.take (x : DenAll W h vs ds) (k : Nat) : DenAll W h (vs.take k) (ds.take k) := by
  induction vs generalizing ds k with
  | nil => cases x; simp; exact .nil
  | cons v vs ih =>
    cases x with
    | cons x r =>
      cases k with
      | zero => simp; exact .nil
      | succ k => simp; exact .cons x (ih r k)
theorem DenAll.drop (x : DenAll W h vs ds) (k : Nat) : DenAll W h (vs.drop k) (ds.drop k) := by
  induction vs generalizing ds k with
  | nil => cases x; simp; exact .nil
  | cons v vs ih =>
    cases x with
    | cons x r =>
      cases k with
      | zero => simp; exact .cons x r
      | succ k => simp; exact ih r k
theorem DenAll.set (x : DenAll W h vs ds) (k : Nat) (hd : Den W h v d) : DenAll W h (vs.set k v) (ds.set k d) := by
  induction vs generalizing ds k with
  | nil => cases x; simp; exact .nil
  | cons u vs ih =>
    cases x with
    | cons x r =>
      cases k with
      | zero => simp; exact .cons hd r
      | succ k => simp; exact .cons x (ih r k)
theorem DenAll.bytesAll {bs : List (List UInt8)} (x : DenAll W h vs (bs.map D.bytes)) : ∃ ts : List Tok, vs = (bs.zip ts).map (fun p => Value.bytes p.1.toArray p.2) ∧ ts.length = bs.length := by
  induction bs generalizing vs with
  | nil => cases x; exact ⟨[], rfl, rfl⟩
  | cons b bs ih =>
    cases x with
    | cons x r =>
      cases x with
      | bytes _ t =>
        obtain ⟨ts, e, hl⟩ := ih r
        exact ⟨t :: ts, by rw [e]; rfl, by simp [hl]⟩
end
/-- the state moves on, nothing that stood is touched -/
structure Ext (s s' : Shared) : Prop where
  keep : ∀ b o, s.heap.get? b = some o → s'.heap.get? b = some o
  os : s'.os = s.os
  gens : ∀ (i : Nat) x, s.gens[i]? = some x → s'.gens[i]? = some x
  bare : AllBare s.gens → AllBare s'.gens
theorem Ext.refl (s : Shared) : Ext s s := ⟨fun _ _ e => e, rfl, fun _ _ e => e, fun x => x⟩
theorem Ext.trans {s s' s'' : Shared} (x : Ext s s') (y : Ext s' s'') : Ext s s'' :=
  ⟨fun b o e => y.keep b o (x.keep b o e), y.os.trans x.os, fun i z e => y.gens i z (x.gens i z e), fun z => y.bare (x.bare z)⟩
theorem Ext.toks {s : Shared} (k : Nat) : Ext s { s with toks := k } := ⟨fun _ _ e => e, rfl, fun _ _ e => e, fun x => x⟩
theorem Ext.heap {s : Shared} {h' : Heap} (k : Nat) (x : ∀ b o, s.heap.get? b = some o → h'.get? b = some o) : Ext s { s with heap := h', toks := k } := ⟨x, rfl, fun _ _ e => e, fun x => x⟩
theorem Ext.heap' {s : Shared} {h' : Heap} (x : ∀ b o, s.heap.get? b = some o → h'.get? b = some o) : Ext s { s with heap := h' } := ⟨x, rfl, fun _ _ e => e, fun x => x⟩
theorem Ext.push {s : Shared} (o : Obj) : Ext s { s with heap := s.heap.push o } := Ext.heap' fun _ _ e => Heap.get?_push_of_some _ e
theorem Ext.kb {s s' : Shared} {W : List Addr} (x : Ext s s') : Kb W s.heap s'.heap := Kb.of_keep x.keep
def Live (W : List Addr) (h : Heap) : Prop := ∀ a ∈ W, ∃ o, h.get? a = some o
theorem Live.ext {W : List Addr} {s s' : Shared} (x : Live W s.heap) (e : Ext s s') : Live W s'.heap := fun a ha => let ⟨o, h⟩ := x a ha; ⟨o, e.keep _ _ h⟩
theorem Live.fresh {W : List Addr} {h : Heap} (x : Live W h) {a : Addr} (e : h.get? a = none) : a ∉ W := fun ha => by obtain ⟨o, h⟩ := x a ha; rw [e] at h; cases h
theorem get_size (h : Heap) : h.get? h.objs.size = none := by
  cases e : h.get? h.objs.size with
  | none => rfl
  | some o => exact absurd (Heap.lt_size e) (Nat.lt_irrefl _)
theorem Live.next {W : List Addr} {h : Heap} (x : Live W h) : h.objs.size ∉ W := x.fresh (get_size h)
/-- top may be barred -/
def DenT (W : List Addr) (h : Heap) (v : Value) : D → Prop
  | .list ds => ∃ a vs, v = .ref a ∧ h.IsList a vs.toArray ∧ DenAll W h vs ds
  | .tuple ds => ∃ a vs, v = .ref a ∧ h.IsTuple a vs.toArray ∧ DenAll W h vs ds
  | d => Den W h v d
theorem Den.top {W : List Addr} {h : Heap} {v : Value} {d : D} (x : Den W h v d) : DenT W h v d := by
  cases x with
  | list ha hl r => exact ⟨_, _, rfl, hl, r⟩
  | tuple ha hl r => exact ⟨_, _, rfl, hl, r⟩
  | none => exact .none
  | bool b => exact .bool b
  | int i t => exact .int i t
  | bytes b t => exact .bytes b t
  | raw v => exact .raw v
theorem DenT.ext {W : List Addr} {s s' : Shared} {v : Value} {d : D} (x : DenT W s.heap v d) (e : Ext s s') : DenT W s'.heap v d := by
  cases d with
  | list ds =>
    obtain ⟨a, vs, rfl, hl, r⟩ := x
    exact ⟨a, vs, rfl, isList_kb (W := []) e.kb (List.not_mem_nil) hl, r.kb e.kb⟩
  | tuple ds =>
    obtain ⟨a, vs, rfl, hl, r⟩ := x
    exact ⟨a, vs, rfl, isTuple_kb (W := []) e.kb (List.not_mem_nil) hl, r.kb e.kb⟩
  | none => exact Den.kb e.kb x
  | bool b => exact Den.kb e.kb x
  | int i => exact Den.kb e.kb x
  | bytes b => exact Den.kb e.kb x
  | raw v => exact Den.kb e.kb x
theorem Den.ext {W : List Addr} {s s' : Shared} {v : Value} {d : D} (x : Den W s.heap v d) (e : Ext s s') : Den W s'.heap v d := x.kb e.kb
theorem DenAll.ext {W : List Addr} {s s' : Shared} {v : List Value} {d : List D} (x : DenAll W s.heap v d) (e : Ext s s') : DenAll W s'.heap v d := x.kb e.kb
/-- fresh or plain: it bears d whatever stood is barred -/
def NewDen (s : Shared) (h : Heap) (v : Value) (d : D) : Prop := ∀ W, Live W s.heap → Den W h v d
theorem NewDen.bytes {s : Shared} {h : Heap} (b : List UInt8) (t : Tok) : NewDen s h (.bytes b.toArray t) (.bytes b) := fun _ _ => .bytes b t
theorem NewDen.int {s : Shared} {h : Heap} (i : Int) (t : Tok) : NewDen s h (.int i t) (.int i) := fun _ _ => .int i t
theorem NewDen.bool {s : Shared} {h : Heap} (b : Bool) : NewDen s h (.bool b) (.bool b) := fun _ _ => .bool b
/-- a built-in's body ends with a value that bears d -/
def Gets (t : Sem Fin) (d : D) : Prop := Meets t fun _ R s => ∀ v s', Ext s s' → NewDen s s'.heap v d → R (.ok (.ret v)) s'
theorem Gets.of_wp {t : Sem Fin} {d : D}
    (h : ∀ (prog : Program) (w : World) (A : Around) (R : Result → Shared → Prop) (s : Shared), (∀ v s', Ext s s' → NewDen s s'.heap v d → R (.ok (.ret v)) s') →
      wpAny (model prog w) A.in1 t (fun fin s' => ∃ v, fin = .done (.ret v) ∧ R (.ok (.ret v)) s') (fun e s' => R (.error e) s') s) : Gets t d :=
  Meets.of_wp h
end Mine
end
section
open PySem PySem.W PyProof.Rows PySem.Calls Builtin
set_option Elab.async false
set_option maxRecDepth 100000
namespace Mine
theorem slot_find : Slot "bytes" "find" "bytes.find" :=
  .of (owner := "bytes") (n := "find") (by rw [typeLookup_type, builtinLookup_eq_fast]; kernel_rfl) (by decide +kernel) (by decide +kernel) (by decide +kernel)
    (by first | exact .inl (by decide +kernel) | exact .inr (by decide +kernel)) (by rw [isSubtype_type]; kernel_rfl)
theorem type_find : typeOf (.builtin "bytes.find") = pure (.type "method_descriptor") := by show builtinType _ = _; rw [builtinType_eq_fast]; kernel_rfl
theorem entry_find : entryFor table "bytes.find" = some Builtin.«bytes.find» := entryFor_of_tree (by kernel_rfl)
theorem args_find (a b : Value) : argsOk "bytes.find" ⟨[a, b], []⟩ := by
  unfold argsOk; rw [signature?_of (id := "bytes.find") (n := ['d', 'n', 'i', 'f']) (o := ['s', 'e', 't', 'y', 'b']) (by kernel_rfl) FB.owner_bytes]; kernel_rfl
theorem slot_index : Slot "bytes" "index" "bytes.index" :=
  .of (owner := "bytes") (n := "index") (by rw [typeLookup_type, builtinLookup_eq_fast]; kernel_rfl) (by decide +kernel) (by decide +kernel) (by decide +kernel)
    (by first | exact .inl (by decide +kernel) | exact .inr (by decide +kernel)) (by rw [isSubtype_type]; kernel_rfl)
theorem type_index : typeOf (.builtin "bytes.index") = pure (.type "method_descriptor") := by show builtinType _ = _; rw [builtinType_eq_fast]; kernel_rfl
theorem entry_index : entryFor table "bytes.index" = some Builtin.«bytes.index» := entryFor_of_tree (by kernel_rfl)
theorem args_index (a b : Value) : argsOk "bytes.index" ⟨[a, b], []⟩ := by
  unfold argsOk; rw [signature?_of (id := "bytes.index") (n := ['x', 'e', 'd', 'n', 'i']) (o := ['s', 'e', 't', 'y', 'b']) (by kernel_rfl) FB.owner_bytes]; kernel_rfl
theorem slot_split : Slot "bytes" "split" "bytes.split" :=
  .of (owner := "bytes") (n := "split") (by rw [typeLookup_type, builtinLookup_eq_fast]; kernel_rfl) (by decide +kernel) (by decide +kernel) (by decide +kernel)
    (by first | exact .inl (by decide +kernel) | exact .inr (by decide +kernel)) (by rw [isSubtype_type]; kernel_rfl)
theorem type_split : typeOf (.builtin "bytes.split") = pure (.type "method_descriptor") := by show builtinType _ = _; rw [builtinType_eq_fast]; kernel_rfl
theorem entry_split : entryFor table "bytes.split" = some Builtin.«bytes.split» := entryFor_of_tree (by kernel_rfl)
theorem args_split2 (a b : Value) : argsOk "bytes.split" ⟨[a, b], []⟩ := by
  unfold argsOk; rw [signature?_of (id := "bytes.split") (n := ['t', 'i', 'l', 'p', 's']) (o := ['s', 'e', 't', 'y', 'b']) (by kernel_rfl) FB.owner_bytes]; kernel_rfl
theorem args_split3 (a b c : Value) : argsOk "bytes.split" ⟨[a, b, c], []⟩ := by
  unfold argsOk; rw [signature?_of (id := "bytes.split") (n := ['t', 'i', 'l', 'p', 's']) (o := ['s', 'e', 't', 'y', 'b']) (by kernel_rfl) FB.owner_bytes]; kernel_rfl
theorem slot_join : Slot "bytes" "join" "bytes.join" :=
  .of (owner := "bytes") (n := "join") (by rw [typeLookup_type, builtinLookup_eq_fast]; kernel_rfl) (by decide +kernel) (by decide +kernel) (by decide +kernel)
    (by first | exact .inl (by decide +kernel) | exact .inr (by decide +kernel)) (by rw [isSubtype_type]; kernel_rfl)
theorem type_join : typeOf (.builtin "bytes.join") = pure (.type "method_descriptor") := by show builtinType _ = _; rw [builtinType_eq_fast]; kernel_rfl
theorem entry_join : entryFor table "bytes.join" = some Builtin.«bytes.join» := entryFor_of_tree (by kernel_rfl)
theorem args_join (a b : Value) : argsOk "bytes.join" ⟨[a, b], []⟩ := by
  unfold argsOk; rw [signature?_of (id := "bytes.join") (n := ['n', 'i', 'o', 'j']) (o := ['s', 'e', 't', 'y', 'b']) (by kernel_rfl) FB.owner_bytes]; kernel_rfl
theorem slot_replace : Slot "bytes" "replace" "bytes.replace" :=
  .of (owner := "bytes") (n := "replace") (by rw [typeLookup_type, builtinLookup_eq_fast]; kernel_rfl) (by decide +kernel) (by decide +kernel) (by decide +kernel)
    (by first | exact .inl (by decide +kernel) | exact .inr (by decide +kernel)) (by rw [isSubtype_type]; kernel_rfl)
theorem type_replace : typeOf (.builtin "bytes.replace") = pure (.type "method_descriptor") := by show builtinType _ = _; rw [builtinType_eq_fast]; kernel_rfl
theorem entry_replace : entryFor table "bytes.replace" = some Builtin.«bytes.replace» := entryFor_of_tree (by kernel_rfl)
theorem args_replace (a b c : Value) : argsOk "bytes.replace" ⟨[a, b, c], []⟩ := by
  unfold argsOk; rw [signature?_of (id := "bytes.replace") (n := ['e', 'c', 'a', 'l', 'p', 'e', 'r']) (o := ['s', 'e', 't', 'y', 'b']) (by kernel_rfl) FB.owner_bytes]; kernel_rfl
theorem window_all (n : Nat) : Bytes.window n none none = (0, (n : Int)) := by
  unfold Bytes.window
  simp only [Option.getD_none]
  have h1 : ¬ ((n : Int) < 0) := by omega
  simp [h1]
theorem args_search (id : String) (l : List UInt8) (c : UInt8) (t u : Tok) (name : String) {M : Model} {A : Around} {E : Value → Shared → Prop} {s : Shared} {Q : (Array UInt8 × Array UInt8 × Option (Nat × Nat)) → Shared → Prop}
    (h : Q (l.toArray, #[c], if l.length = 0 then none else some (0, l.length)) s) : wpAny M A (Bytes.searchArgs .bytes name ⟨[.bytes l.toArray t, .bytes #[c] u], []⟩) Q E s := by
  unfold Bytes.searchArgs
  refine wpAny_bind (m := selfAndSome _ name 1 3 _) (wpAny_pure ?_)
  refine wpAny_bind (m := Bytes.bound? none) (wpAny_pure ?_)
  refine wpAny_bind (m := Bytes.bound? none) (wpAny_pure ?_)
  refine wpAny_bind (wpAny_of_eq KBy.buffer_eq ?_)
  refine wpAny_bind (wpAny_pure ?_)
  refine wpAny_bind (m := Bytes.payload _) (wpAny_of_eq (a := l.toArray) rfl ?_)
  refine wpAny_pure ?_
  refine (congrArg (fun x => Q (l.toArray, #[c], x) s) ?_).mpr h
  have h1 : ¬ ((l.length : Int) < 0) := by omega
  by_cases h0 : l.length = 0
  · simp [h0]
  · have : ¬ ((l.length : Int) < 1) := by omega
    simp [h0, h1, this]
theorem found_one (l : List UInt8) (c : UInt8) : ((if l.length = 0 then (none : Option (Nat × Nat)) else some (0, l.length)).bind fun x => if false = true then Bytes.rfind? l.toArray #[c] x.1 x.2 else Bytes.find? l.toArray #[c] x.1 x.2) = idxB c l := by
  by_cases h : l.length = 0
  · have : l = [] := List.length_eq_zero_iff.mp h
    subst this; rfl
  · rw [if_neg h]
    exact find_one l c
theorem gets_find (l : List UInt8) (c : UInt8) (t u : Tok) : Gets («bytes.find» ⟨[.bytes l.toArray t, .bytes #[c] u], []⟩) (.int (match idxB c l with | some i => (i : Int) | none => -1)) := by
  refine .of_wp fun prog w A R s h => ?_
  show wpAny _ _ (Bytes.searchArgs .bytes "find" _ >>= _) _ _ s
  refine wpAny_bind (args_search "" l c t u "find" ?_)
  show wpAny _ _ (match (if l.length = 0 then (none : Option (Nat × Nat)) else some (0, l.length)).bind fun x => if false = true then Bytes.rfind? l.toArray #[c] x.1 x.2 else Bytes.find? l.toArray #[c] x.1 x.2 with
    | some i => retInt i
    | none => do rule _; if false = true then _ else retInt (-1)) _ _ s
  rw [found_one]
  revert h
  cases hi : idxB c l with
  | none => intro h; exact wpAny_bind (wpAny_rule (wpAny_bind (wpAny_mkInt (wpAny_pure ⟨_, rfl, h _ _ (.toks _) (.int _ _)⟩))))
  | some i => intro h; exact wpAny_bind (wpAny_mkInt (wpAny_pure ⟨_, rfl, h _ _ (.toks _) (.int _ _)⟩))
theorem gets_index (l : List UInt8) (c : UInt8) (t u : Tok) {i : Nat} (hi : idxB c l = some i) : Gets («bytes.index» ⟨[.bytes l.toArray t, .bytes #[c] u], []⟩) (.int i) := by
  refine .of_wp fun prog w A R s h => ?_
  show wpAny _ _ (Bytes.searchArgs .bytes "index" _ >>= _) _ _ s
  refine wpAny_bind (args_search "" l c t u "index" ?_)
  show wpAny _ _ (match (if l.length = 0 then (none : Option (Nat × Nat)) else some (0, l.length)).bind fun x => if false = true then Bytes.rfind? l.toArray #[c] x.1 x.2 else Bytes.find? l.toArray #[c] x.1 x.2 with
    | some i => retInt i
    | none => do rule _; if true = true then raiseError "ValueError" "subsection not found" else retInt (-1)) _ _ s
  rw [found_one, hi]
  exact wpAny_bind (wpAny_mkInt (wpAny_pure ⟨_, rfl, h _ _ (.toks _) (.int _ _)⟩))
theorem wpAny_tail (l p : List UInt8) (t u : Tok) (name : String) (atEnd : Bool) (b : Bool) {A : Around} {prog : Program} {w : World} {R : Result → Shared → Prop} {s : Shared}
    (hb : (if l.length < p.length then false else if atEnd = true then l.toArray.extract (l.length - p.length) l.length == p.toArray else l.toArray.extract 0 p.length == p.toArray) = b)
    (h : R (.ok (.ret (.bool b))) s) :
    wpAny (model prog w) A (Bytes.tailMatchM .bytes name atEnd ⟨[.bytes l.toArray t, .bytes p.toArray u], []⟩) (fun fin s' => ∃ v, fin = .done (.ret v) ∧ R (.ok (.ret v)) s') (fun e s' => R (.error e) s') s := by
  unfold Bytes.tailMatchM
  refine wpAny_bind (m := selfAndSome _ name 1 3 _) (wpAny_pure ?_)
  refine wpAny_bind (m := Bytes.bound? none) (wpAny_pure ?_)
  refine wpAny_bind (m := Bytes.bound? none) (wpAny_pure ?_)
  refine wpAny_bind (m := Bytes.payload _) (wpAny_of_eq (a := l.toArray) rfl ?_)
  refine wpAny_bind (wpAny_isInstance (typeIs_bytes _ _ _) F.sub_bytes_tuple ?_)
  refine wpAny_bind (wpAny_of_eq KBy.buffer_eq ?_)
  refine wpAny_pure ⟨_, rfl, ?_⟩
  refine (congrArg (fun x => R (.ok (.ret (.bool x))) s) ?_).mpr h
  rw [← hb]
  have h1 : ¬ ((l.length : Int) < 0) := by omega
  by_cases h2 : l.length < p.length
  · have : ((l.length : Int) < (p.length : Int)) := by omega
    simp [h1, h2, this]
  · have : ¬ ((l.length : Int) < (p.length : Int)) := by omega
    simp [h1, h2, this]
theorem gets_starts (l : List UInt8) (c : UInt8) (t u : Tok) : Gets («bytes.startswith» ⟨[.bytes l.toArray t, .bytes #[c] u], []⟩) (.bool (l.head? == some c)) := by
  refine .of_wp fun prog w A R s h => ?_
  refine wpAny_tail l [c] t u "startswith" false _ ?_ (h _ _ (.refl _) (.bool _))
  cases l with
  | nil => rfl
  | cons x r => simp [List.extract_toArray]
theorem gets_ends (l : List UInt8) (c : UInt8) (t u : Tok) : Gets («bytes.endswith» ⟨[.bytes l.toArray t, .bytes #[c] u], []⟩) (.bool (l.getLast? == some c)) := by
  refine .of_wp fun prog w A R s h => ?_
  refine wpAny_tail l [c] t u "endswith" true _ ?_ (h _ _ (.refl _) (.bool _))
  cases hl : l.getLast? with
  | none =>
    have : l = [] := List.getLast?_eq_none_iff.mp hl
    subst this; rfl
  | some y =>
    obtain ⟨r, rfl⟩ := List.getLast?_eq_some_iff.mp hl
    simp [List.extract_toArray]
end Mine
end
section
open PySem PySem.W PyProof.Rows PySem.Calls Builtin
set_option Elab.async false
set_option maxRecDepth 100000
namespace Mine
theorem mapM_bytes {M : Model} {A : Around} {E : Value → Shared → Prop} {Q : List Value → Shared → Prop} : ∀ (ps : List (List UInt8)) {s : Shared}, (∀ p ∈ ps, p.length ≤ sizeLine) →
    (∀ vs k, (∀ W h, DenAll W h vs (ps.map D.bytes)) → Q vs { s with toks := k }) → wpAny M A ((ps.map List.toArray).mapM (Bytes.Kind.new .bytes)) Q E s
  | [], s, _, h => by
    rw [List.map_nil, List.mapM_nil]
    exact wpAny_pure (h [] s.toks fun _ _ => .nil)
  | p :: ps, s, hz, h => by
    rw [List.map_cons, List.mapM_cons]
    refine wpAny_bind (m := Bytes.Kind.new .bytes p.toArray) (wpAny_mkBytes ?_ (by simpa using hz p (.head _)))
    refine wpAny_bind (mapM_bytes ps (fun q hq => hz q (.tail _ hq)) fun vs k hv => ?_)
    exact wpAny_pure (h _ k fun W hh => .cons (.bytes _ _) (hv W hh))
theorem gets_newList {A : Around} {prog : Program} {w : World} {R : Result → Shared → Prop} {s : Shared} {vs : List Value} {ds : List D} {k : Nat} (hz : vs.length ≤ sizeLine) (hd : ∀ W h, DenAll W h vs ds)
    (h : ∀ v s', Ext s s' → NewDen s s'.heap v (.list ds) → R (.ok (.ret v)) s') :
    wpAny (model prog w) A (newList vs >>= fun v => ret v) (fun fin s' => ∃ v, fin = .done (.ret v) ∧ R (.ok (.ret v)) s') (fun e s' => R (.error e) s') { s with toks := k } := by
  refine wpAny_bind (wpAny_newObj_type ?_ (by show vs.toArray.size ≤ sizeLine; simpa using hz))
  refine wpAny_pure ⟨_, rfl, h _ _ ((Ext.toks k).trans (.push _)) fun W hW => ?_⟩
  exact .list hW.next ⟨_, Heap.get?_push_size _ rfl, rfl, 0, rfl⟩ (hd W _)
theorem gets_split (l : List UInt8) (c : UInt8) (t u : Tok) (hz : l.length < sizeLine) : Gets («bytes.split» ⟨[.bytes l.toArray t, .bytes #[c] u], []⟩) (.list ((splitB c l).map D.bytes)) := by
  refine .of_wp fun prog w A R s h => ?_
  show wpAny _ _ (Bytes.bindOptional "bytes.split" "split" ["sep", "maxsplit"] [.bytes #[c] u] [] >>= _) _ _ s
  refine wpAny_bind (wpAny_of_eq (a := [some (.bytes #[c] u), none]) (by rfl) ?_)
  refine wpAny_bind (wpAny_pure ?_)
  refine wpAny_bind (m := Bytes.payload _) (wpAny_of_eq (a := l.toArray) rfl ?_)
  show wpAny _ _ (Bytes.bytesLike _ (.bytes #[c] u) >>= _) _ _ s
  refine wpAny_bind (m := Bytes.bytesLike _ _) ?_
  unfold Bytes.bytesLike
  refine wpAny_bind (wpAny_of_eq KBy.buffer_eq (wpAny_pure ?_))
  have e0 : ((Bytes.occurrences l.toArray #[c] 0 l.toArray.size).take (l.toArray.size + 1)) = placesB c 0 l := by
    rw [occ_one]
    refine List.take_of_length_le ?_
    have : ∀ (l : List UInt8) k, (placesB c k l).length ≤ l.length := by
      intro l
      induction l with
      | nil => intro k; simp [placesB]
      | cons x r ih => intro k; unfold placesB; split <;> simp [ih (k + 1)]; have := ih (k + 1); omega
    have := this l 0
    simp; omega
  show wpAny _ _ (if (((Bytes.occurrences l.toArray #[c] 0 l.toArray.size).take (l.toArray.size + 1)).isEmpty = true) then _ else
    ((Bytes.between l.toArray 1 ((Bytes.occurrences l.toArray #[c] 0 l.toArray.size).take (l.toArray.size + 1))).mapM (Bytes.Kind.new .bytes) >>= fun vs => newList vs >>= fun v => ret v)) _ _ s
  rw [e0]
  have hlen : (splitB c l).length ≤ sizeLine := Nat.le_trans (splitB_length c l) hz
  by_cases hp : (placesB c 0 l).isEmpty = true
  · rw [if_pos hp]
    have hs := places_none (List.isEmpty_iff.mp hp)
    refine wpAny_bind (wpAny_rule ?_)
    show wpAny _ _ ((Bytes.Kind.same .bytes (.bytes l.toArray t)) >>= _) _ _ s
    refine wpAny_bind ?_
    unfold Bytes.Kind.same
    refine wpAny_bind (wpAny_typeOf (typeIs_bytes s _ t) ?_)
    refine wpAny_pure ?_
    have := gets_newList (A := A.in1) (prog := prog) (w := w) (R := R) (s := s) (vs := [.bytes l.toArray t]) (ds := (splitB c l).map D.bytes) (k := s.toks) (by simp [sizeLine_eq]) (fun W hh => by rw [hs]; exact .cons (.bytes _ _) .nil) h
    exact this
  · rw [if_neg hp, split_all]
    refine wpAny_bind (mapM_bytes _ (fun p hp => Nat.le_trans (splitB_mem c l p hp) (Nat.le_of_lt hz)) fun vs k hv => ?_)
    exact gets_newList (by rw [(hv [] s.heap).length]; simpa using hlen) hv h
theorem gets_split1 (l : List UInt8) (c : UInt8) (t u x : Tok) (hz : l.length < sizeLine) : Gets («bytes.split» ⟨[.bytes l.toArray t, .bytes #[c] u, .int 1 x], []⟩) (.list ((splitOnceB c l).map D.bytes)) := by
  refine .of_wp fun prog w A R s h => ?_
  show wpAny _ _ (Bytes.bindOptional "bytes.split" "split" ["sep", "maxsplit"] [.bytes #[c] u, .int 1 x] [] >>= _) _ _ s
  refine wpAny_bind (wpAny_of_eq (a := [some (.bytes #[c] u), some (.int 1 x)]) (by rfl) ?_)
  refine wpAny_bind (m := Bytes.countArg _ (.int 1 x)) ?_
  unfold Bytes.countArg
  refine wpAny_bind (m := asIndex (.int 1 x)) (wpAny_of_eq (a := 1) rfl ?_)
  refine wpAny_pure ?_
  refine wpAny_bind (m := Bytes.payload _) (wpAny_of_eq (a := l.toArray) rfl ?_)
  show wpAny _ _ (Bytes.bytesLike _ (.bytes #[c] u) >>= _) _ _ s
  refine wpAny_bind (m := Bytes.bytesLike _ _) ?_
  unfold Bytes.bytesLike
  refine wpAny_bind (wpAny_of_eq KBy.buffer_eq (wpAny_pure ?_))
  show wpAny _ _ (if (((Bytes.occurrences l.toArray #[c] 0 l.toArray.size).take 1).isEmpty = true) then _ else
    ((Bytes.between l.toArray 1 ((Bytes.occurrences l.toArray #[c] 0 l.toArray.size).take 1)).mapM (Bytes.Kind.new .bytes) >>= fun vs => newList vs >>= fun v => ret v)) _ _ s
  rw [occ_one]
  cases hp : placesB c 0 l with
  | nil =>
    have hs := split_once_none l c hp
    show wpAny _ _ (rule _ >>= fun _ => _) _ _ s
    refine wpAny_bind (wpAny_rule ?_)
    show wpAny _ _ ((Bytes.Kind.same .bytes (.bytes l.toArray t)) >>= _) _ _ s
    refine wpAny_bind ?_
    unfold Bytes.Kind.same
    refine wpAny_bind (wpAny_typeOf (typeIs_bytes s _ t) ?_)
    refine wpAny_pure ?_
    have := gets_newList (A := A.in1) (prog := prog) (w := w) (R := R) (s := s) (vs := [.bytes l.toArray t]) (ds := (splitOnceB c l).map D.bytes) (k := s.toks) (by simp [sizeLine_eq]) (fun W hh => by rw [hs]; exact .cons (.bytes _ _) .nil) h
    exact this
  | cons a r =>
    rw [← hp, if_neg (by rw [hp]; simp), split_once l c (by rw [hp]; simp)]
    have hm : ∀ p ∈ splitOnceB c l, p.length ≤ l.length := by
      intro p hp
      unfold splitOnceB at hp
      split at hp
      · simp at hp; subst hp; simp
      · simp at hp; rcases hp with rfl | rfl <;> simp; omega
    have hl : (splitOnceB c l).length ≤ 2 := by unfold splitOnceB; split <;> simp
    refine wpAny_bind (mapM_bytes _ (fun p hp => Nat.le_trans (hm p hp) (Nat.le_of_lt hz)) fun vs k hv => ?_)
    exact gets_newList (by rw [(hv [] s.heap).length, sizeLine_eq]; simp; omega) hv h
end Mine
end
section
open PySem PySem.W PyProof.Rows PySem.Calls Builtin
set_option Elab.async false
set_option maxRecDepth 100000
namespace Mine
theorem take_eq {id : String} {b : Array UInt8} {t : Tok} : Bytes.takeBuffer? id (.bytes b t) 0 = pure (some (b, none)) := by
  unfold Bytes.takeBuffer?
  rw [KBy.special_eq KBy.look_buffer, KBy.own_buffer]
  have e : Bytes.buffer? id (.bytes b t) ((0 : Int) == Bytes.fullReadOnly) = pure (some b) := KBy.buffer_eq
  simp only [pure_bind]
  rw [e]
  rfl
theorem takeQ_eq {id : String} {b : Array UInt8} {t : Tok} : Bytes.takeBufferQuiet? id (.bytes b t) 0 = pure (some (b, none)) := by
  unfold Bytes.takeBufferQuiet?
  rw [take_eq]
  rfl
theorem wpAny_joinLetGo {M : Model} {A : Around} {E : Value → Shared → Prop} {s : Shared} : ∀ (tk : List (Value × Option Value)) (keep : List Value) {Q : Unit → Shared → Prop}, (∀ p ∈ tk, p.2 = none) → Q () s → wpAny M A (Bytes.joinLetGo tk keep) Q E s
  | [], _, _, _, h => wpAny_pure h
  | (x, w) :: r, keep, Q, hn, h => by
    have e : w = none := hn (x, w) (.head _)
    subst e
    unfold Bytes.joinLetGo
    refine wpAny_bind (wpAny_letGo ?_)
    exact wpAny_joinLetGo r keep (fun p hp => hn p (.tail _ hp)) h
theorem isSeq_items {M : Model} {A : Around} {E : Value → Shared → Prop} {s : Shared} {a : Addr} {vs : Array Value} {Q : Option (Array Value) → Shared → Prop} (hl : s.heap.IsList a vs ∨ s.heap.IsTuple a vs) (h : Q (some vs) s) : wpAny M A (seqItems? (.ref a)) Q E s := by
  rcases hl with ⟨o, ho, _, n, hd⟩ | ⟨o, ho, _, n, hd⟩
  · exact wpAny_seqItems ho hd h
  · exact wpAny_seqItems ho hd h
theorem range_list {β : Type} (n : Nat) (b : β) (f : Nat → β → Sem (ForInStep β)) : forIn [:n] b f = forIn (List.range' 0 n 1) b f := by
  rw [Std.Legacy.Range.forIn_eq_forIn_range']
  have hsz : ([:n] : Std.Legacy.Range).size = n := by simp [Std.Legacy.Range.size]
  show forIn (List.range' 0 ([:n] : Std.Legacy.Range).size 1) b f = _
  rw [hsz]
theorem isSeq_join {M : Model} {A : Around} {E : Value → Shared → Prop} {s : Shared} {a : Addr} {vs : Array Value} {Q : Value → Shared → Prop} (hl : s.heap.IsList a vs ∨ s.heap.IsTuple a vs) (h : Q (.ref a) s) : wpAny M A (Bytes.joinItems (.ref a)) Q E s := by
  unfold Bytes.joinItems
  rcases hl with ⟨o, ho, hc, n, hd⟩ | ⟨o, ho, hc, n, hd⟩
  · refine wpAny_bind (wpAny_typeOf (T := "list") ⟨o, ho, hc⟩ ?_)
    exact wpAny_pure h
  · refine wpAny_bind (wpAny_typeOf (T := "tuple") ⟨o, ho, hc⟩ ?_)
    exact wpAny_pure h
def totalB (ps : List (List UInt8)) : Nat := (ps.map List.length).sum
theorem total_fold : ∀ (ps : List (List UInt8)) (n : Nat), (ps.map List.toArray).foldl (fun n p => n + p.size) n = n + totalB ps
  | [], n => by simp [totalB]
  | p :: ps, n => by
    rw [List.map_cons, List.foldl_cons, total_fold ps]
    simp [totalB]; omega
theorem joinB_len (sep : List UInt8) : ∀ (ps : List (List UInt8)), (joinB sep ps).length = totalB ps + sep.length * (ps.length - 1)
  | [] => by simp [joinB, totalB]
  | [p] => by simp [joinB, totalB]
  | p :: q :: ps => by
    rw [joinB, List.length_append, List.length_append, joinB_len sep (q :: ps)]
    simp only [totalB, List.map_cons, List.sum_cons, List.length_cons, Nat.add_sub_cancel]
    rw [Nat.mul_add]
    omega
/-- the items of a join, read -/
def JoinOn (s : Shared) (a : Addr) (ps : List (List UInt8)) : Prop := ∃ vs : List Value, (s.heap.IsList a vs.toArray ∨ s.heap.IsTuple a vs.toArray) ∧ DenAll [] s.heap vs (ps.map D.bytes)
set_option maxHeartbeats 1000000 in
theorem join_of {prog : Program} {w : World} {A : Around} {R : Result → Shared → Prop} {s₀ : Shared} (sep : List UInt8) (t : Tok) (it : Value) (ps : List (List UInt8)) (hz : (joinB sep ps).length ≤ 16777216)
    (h : wpAny (model prog w) A.in1 (Bytes.joinItems it) (fun r s => ∃ a, r = .ref a ∧ JoinOn s a ps ∧ ∀ v s', Ext s s' → NewDen s s'.heap v (.bytes (joinB sep ps)) → R (.ok (.ret v)) s') (fun e s' => R (.error e) s') s₀) :
    wpAny (model prog w) A.in1 («bytes.join» ⟨[.bytes sep.toArray t, it], []⟩) (fun fin s' => ∃ v, fin = .done (.ret v) ∧ R (.ok (.ret v)) s') (fun e s' => R (.error e) s') s₀ := by
  show wpAny _ _ (Bytes.joinItems it >>= _) _ _ s₀
  refine wpAny_bind (wpAny_mono h (fun r s h => ?_) fun _ _ x => x)
  obtain ⟨a, rfl, ⟨vs, hl, hv⟩, h⟩ := h
  have hlen : vs.length = ps.length := by simpa using hv.length
  refine wpAny_bind (isSeq_items hl ?_)
  dsimp only
  rw [if_pos (show (Bytes.Kind.bytes == Bytes.Kind.bytes) = true from rfl)]
  by_cases h1 : ∃ v, vs = [v]
  · obtain ⟨v, rfl⟩ := h1
    obtain ⟨p, rfl⟩ : ∃ p, ps = [p] := by
      match ps, hlen with
      | [p], _ => exact ⟨p, rfl⟩
    cases hv with
    | cons hd _ =>
    cases hd with
    | bytes _ tk =>
    show wpAny _ _ (typeOf _ >>= _) _ _ _
    refine wpAny_bind (wpAny_typeOf (typeIs_bytes s _ tk) ?_)
    refine wpAny_bind (wpAny_rule ?_)
    exact wpAny_pure ⟨_, rfl, h _ _ (.refl _) (.bytes _ _)⟩
  have two : vs = [] ∨ ∃ v w r, vs = v :: w :: r := by
    match vs, h1 with
    | [], _ => exact .inl rfl
    | [v], h1 => exact absurd ⟨v, rfl⟩ h1
    | v :: w :: r, _ => exact .inr ⟨v, w, r, rfl⟩
  have pass : ∀ (T : Value → Sem PySem.Fin) (U : Sem PySem.Fin) (Q : PySem.Fin → Shared → Prop) (E : Value → Shared → Prop), wpAny (model prog w) A.in1 U Q E s → wpAny (model prog w) A.in1 (match vs.toArray with | #[x] => T x | _ => U) Q E s := by
    intro T U Q E hU
    rcases two with rfl | ⟨v, w, r, rfl⟩
    · exact hU
    · exact hU
  refine pass _ _ _ _ ?_
  refine wpAny_bind ?_
  rw [range_list]
  refine wpAny_forIn_list _ (fun rest b s' => s' = s ∧ ∃ k, k ≤ ps.length ∧ rest = List.range' k (ps.length - k) ∧ b.1 = ((ps.take k).map List.toArray).toArray ∧ (∀ p ∈ b.2, p.2 = none)) _ ?_ ?_ _ _ ⟨rfl, 0, Nat.zero_le _, by simp [hlen], by simp, fun _ hp => by cases hp⟩
  · rintro i rest ⟨parts, taken⟩ s' ⟨rfl, k, hk, hr, hp, ht⟩
    simp only at hp ht
    have hlt : k < ps.length := by
      rcases Nat.lt_or_ge k ps.length with h | h
      · exact h
      · rw [Nat.sub_eq_zero_of_le h] at hr; simp at hr
    obtain ⟨rfl, hrest⟩ : i = k ∧ rest = List.range' (k + 1) (ps.length - (k + 1)) := by
      have e : ps.length - k = (ps.length - (k + 1)) + 1 := by omega
      rw [e, List.range'_succ] at hr
      injection hr with h1 h2
      exact ⟨h1, h2⟩
    obtain ⟨v, hvi, hd⟩ := hv.get (k := i) (d := .bytes ps[i]) (by simp [hlt])
    cases hd with
    | bytes _ tk =>
    dsimp only
    refine wpAny_bind (isSeq_items hl ?_)
    have hx : vs.toArray.getD i .none = .bytes (ps[i]).toArray tk := by
      simp [Array.getD_eq_getD_getElem?, hvi]
    simp only [hx]
    have fin : ∀ (b : Array UInt8) (w : Option Value), b = (ps[i]).toArray → w = none → (s' = s' ∧ ∃ k, k ≤ ps.length ∧ rest = List.range' k (ps.length - k) ∧ (parts.push b) = ((ps.take k).map List.toArray).toArray ∧
        (∀ p ∈ (taken ++ [(Value.bytes (ps[i]).toArray tk, w)]), p.2 = none)) := by
      rintro b w rfl rfl
      refine ⟨rfl, i + 1, hlt, hrest, ?_, ?_⟩
      · rw [hp, List.push_toArray, List.take_add_one, List.getElem?_eq_getElem hlt, List.map_append]
        rfl
      · intro p hp
        rcases List.mem_append.mp hp with hp | hp
        · exact ht p hp
        · simp at hp; rw [hp]
    split
    · refine wpAny_bind (wpAny_specialOf (typeIs_bytes s' _ tk) KBy.look_buffer ?_)
      dsimp only
      refine wpAny_bind (wpAny_holding (wpAny_of_eq takeQ_eq ?_))
      dsimp only
      refine wpAny_bind (isSeq_items hl ?_)
      dsimp only
      rw [if_neg (by simp)]
      exact wpAny_pure (fin _ _ rfl rfl)
    · refine wpAny_bind (wpAny_holding (wpAny_of_eq takeQ_eq ?_))
      dsimp only
      refine wpAny_bind (isSeq_items hl ?_)
      dsimp only
      rw [if_neg (by simp)]
      exact wpAny_pure (fin _ _ rfl rfl)
  · rintro ⟨parts, taken⟩ s' ⟨rfl, k, hk, hr, hp, ht⟩
    simp only at hp ht
    have hk' : k = ps.length := by
      rcases Nat.lt_or_ge k ps.length with h | h
      · have e : ps.length - k = (ps.length - (k + 1)) + 1 := by omega
        rw [e, List.range'_succ] at hr; cases hr
      · omega
    subst hk'
    rw [List.take_length] at hp
    subst hp
    dsimp only
    refine wpAny_bind (m := Bytes.payload _) (wpAny_of_eq (a := sep.toArray) rfl ?_)
    have hT : Bytes.tooLong (((ps.map List.toArray).toArray).foldl (fun x1 x2 => x1 + x2.size) (sep.toArray.size * (((ps.map List.toArray).toArray).size - 1))) = false := by
      refine KBy.tooLong_not ?_
      rw [List.foldl_toArray, total_fold]
      have := joinB_len sep ps
      simp
      omega
    rw [hT, if_neg Bool.false_ne_true]
    have hj : Bytes.joined sep.toArray ((ps.map List.toArray).toArray).toList = (joinB sep ps).toArray := joined_eq sep ps
    rw [hj]
    refine wpAny_bind (m := Bytes.Kind.new .bytes _) (wpAny_mkBytes ?_ (by simpa [sizeLine_eq] using hz))
    refine wpAny_bind (wpAny_holding (wpAny_point ?_))
    refine wpAny_bind (wpAny_joinLetGo _ _ ht ?_)
    exact wpAny_pure ⟨_, rfl, h _ _ (.toks _) (.bytes _ _)⟩
theorem meets_join (sep : List UInt8) (t : Tok) (a : Addr) (ps : List (List UInt8)) (hz : (joinB sep ps).length ≤ 16777216) : Meets («bytes.join» ⟨[.bytes sep.toArray t, .ref a], []⟩)
    (fun _ R s => JoinOn s a ps ∧ ∀ v s', Ext s s' → NewDen s s'.heap v (.bytes (joinB sep ps)) → R (.ok (.ret v)) s') := by
  refine .of_wp fun prog w A R s h => ?_
  refine join_of sep t (.ref a) ps hz ?_
  obtain ⟨vs, hl, hv⟩ := h.1
  exact isSeq_join hl ⟨a, rfl, ⟨vs, hl, hv⟩, h.2⟩
theorem gets_replace (l : List UInt8) (c : UInt8) (new : List UInt8) (t u x : Tok) (hz : l.length + (placesB c 0 l).length * new.length ≤ 16777216) :
    Gets («bytes.replace» ⟨[.bytes l.toArray t, .bytes #[c] u, .bytes new.toArray x], []⟩) (.bytes (joinB new (splitB c l))) := by
  refine .of_wp fun prog w A R s h => ?_
  show wpAny _ _ (selfAndSome _ "replace" 2 3 _ >>= _) _ _ s
  refine wpAny_bind (m := selfAndSome _ "replace" 2 3 _) (wpAny_pure ?_)
  refine wpAny_bind (m := Bytes.bytesLike _ _) ?_
  unfold Bytes.bytesLike
  refine wpAny_bind (wpAny_of_eq KBy.buffer_eq (wpAny_pure ?_))
  refine wpAny_bind (m := Bytes.bytesLike _ _) ?_
  unfold Bytes.bytesLike
  refine wpAny_bind (wpAny_of_eq KBy.buffer_eq (wpAny_pure ?_))
  refine wpAny_bind (m := Bytes.bytesLike _ _) ?_
  unfold Bytes.bytesLike
  refine wpAny_bind (wpAny_of_eq KBy.buffer_eq (wpAny_pure ?_))
  refine wpAny_bind (m := Bytes.bytesLike _ _) ?_
  unfold Bytes.bytesLike
  refine wpAny_bind (wpAny_of_eq KBy.buffer_eq (wpAny_pure ?_))
  refine wpAny_bind (m := Bytes.payload _) (wpAny_of_eq (a := l.toArray) rfl ?_)
  show wpAny _ _ (if (((Bytes.occurrences l.toArray #[c] 0 l.toArray.size).isEmpty || ((#[c] : Array UInt8).isEmpty && new.toArray.isEmpty)) = true) then _ else
    if Bytes.tooLong (l.toArray.size + (Bytes.occurrences l.toArray #[c] 0 l.toArray.size).length * new.toArray.size) = true then _ else
    (Bytes.Kind.new .bytes (Bytes.joined new.toArray (Bytes.between l.toArray 1 (Bytes.occurrences l.toArray #[c] 0 l.toArray.size))) >>= fun v => ret v)) _ _ s
  rw [occ_one]
  have e2 : ((#[c] : Array UInt8).isEmpty && new.toArray.isEmpty) = false := rfl
  rw [e2, Bool.or_false]
  by_cases hp : (placesB c 0 l).isEmpty = true
  · rw [if_pos hp]
    have hs := places_none (List.isEmpty_iff.mp hp)
    refine wpAny_bind (wpAny_rule ?_)
    show wpAny _ _ ((Bytes.Kind.same .bytes (.bytes l.toArray t)) >>= _) _ _ s
    refine wpAny_bind ?_
    unfold Bytes.Kind.same
    refine wpAny_bind (wpAny_typeOf (typeIs_bytes s _ t) ?_)
    refine wpAny_pure (wpAny_pure ⟨_, rfl, h _ _ (.refl _) ?_⟩)
    rw [hs]
    exact .bytes _ _
  · rw [if_neg hp]
    have hT : Bytes.tooLong (l.toArray.size + (placesB c 0 l).length * new.toArray.size) = false := KBy.tooLong_not (by simpa using hz)
    rw [hT, if_neg Bool.false_ne_true, split_all, joined_eq]
    have hlen : (joinB new (splitB c l)).length ≤ 16777216 := by
      have a1 : ∀ (l : List UInt8) k, totalB (splitB c l) + (placesB c k l).length = l.length ∧ (splitB c l).length = (placesB c k l).length + 1 := by
        intro l
        induction l with
        | nil => intro k; simp [splitB, placesB, totalB]
        | cons y r ih =>
          intro k
          have ih := ih (k + 1)
          unfold splitB placesB
          by_cases hy : y = c
          · simp [hy, totalB] at ih ⊢; omega
          · simp only [if_neg hy]
            cases hs : splitB c r with
            | nil => exact absurd hs (splitB_ne c r)
            | cons p ps => rw [hs] at ih; simp [totalB] at ih ⊢; omega
      rw [joinB_len, (a1 l 0).2, Nat.add_sub_cancel, Nat.mul_comm]
      have := (a1 l 0).1
      omega
    refine wpAny_bind (m := Bytes.Kind.new .bytes _) (wpAny_mkBytes ?_ (by simpa [sizeLine_eq] using hlen))
    exact wpAny_pure ⟨_, rfl, h _ _ (.toks _) (.bytes _ _)⟩
end Mine
end
section
open PySem PySem.W PyProof.Rows PySem.Calls Builtin
set_option Elab.async false
set_option maxRecDepth 100000
namespace Mine
theorem no_index_bytes : typeLookup (.type "bytes") "__index__" = pure none := by rw [typeLookup_type, builtinLookup_eq_fast]; kernel_rfl
theorem asIndex_bytes {M : Model} {A : Around} {s : Shared} {b : Array UInt8} {t : Tok} {Q : Int → Shared → Prop} {E : Value → Shared → Prop} (hh : A.handled = none)
    (h : ∀ e s', Ext s s' → E e s') : wpAny M A (asIndex (.bytes b t)) Q E s := by
  unfold asIndex
  refine wpAny_bind (m := asInt? _) (wpAny_of_eq (a := none) (by rfl) ?_)
  show wpAny M A (callSpecial? (.bytes b t) "__index__" >>= _) Q E s
  refine wpAny_bind (wpAny_callSpecial?_none (name := Str.ofString "__index__") (typeIs_bytes s b t) no_index_bytes ?_)
  show wpAny M A (PySem.typeNameOfCut 200 (.bytes b t) >>= _) Q E s
  refine wpAny_bind (m := PySem.typeNameOfCut 200 (.bytes b t)) (wpAny_of_eq (a := (Manifest.find? "bytes").elim "bytes" (·.tpName)) (by rfl) ?_)
  refine wpAny_raiseErrorMade plainExc_TypeError hh (fun h' tk e ne => h _ _ (Ext.heap tk ne.1)) ?_
  rw [sizeLine_eq]
  decide +kernel
theorem meets_contains (l : List UInt8) (c : UInt8) (t u : Tok) : Meets («bytes.__contains__» ⟨[.bytes l.toArray t, .bytes #[c] u], []⟩)
    (fun A R s => A.handled = none ∧ ∀ s', Ext s s' → R (.ok (.ret (.bool (idxB c l).isSome))) s') := by
  refine .of_wp fun prog w A R s h => ?_
  obtain ⟨hh, h⟩ := h
  show wpAny _ _ (Bytes.containsIn "bytes.__contains__" (.bytes l.toArray t) (.bytes #[c] u) >>= _) _ _ s
  refine wpAny_bind ?_
  unfold Bytes.containsIn
  refine wpAny_bind (wpAny_attempt (asIndex_bytes hh fun e s' hx => ?_))
  refine wpAny_bind (wpAny_of_eq KBy.buffer_eq ?_)
  dsimp only
  refine wpAny_bind (wpAny_of_eq KBy.buffer_eq ?_)
  dsimp only
  refine wpAny_bind (wpAny_rule ?_)
  refine wpAny_pure ?_
  refine wpAny_pure ⟨_, rfl, ?_⟩
  have e : Bytes.find? l.toArray #[c] 0 l.toArray.size = idxB c l := find_one l c
  rw [e]
  exact h s' hx
section
variable {prog : Program} {w : World} {A : Around} {E : Value → Shared → Prop} {s : Shared}
theorem in_bytes {l : List UInt8} {c : UInt8} {t u : Tok} {Q : Value → Shared → Prop} (hh : A.handled = none) (h : ∀ s', Ext s s' → Q (.bool (idxB c l).isSome) s') :
    wpAny (model prog w) A (compareOp .In (.bytes #[c] u) (.bytes l.toArray t)) Q E s :=
  SeqRoads2.in_meets (typeIs_bytes _ _ _) FB.slot_bytes_contains FB.entry_bytes_contains (FB.args_bytes_contains_2 _ _) (meets_contains l c t u) ⟨hh, fun s' hx => ⟨_, rfl, h s' hx⟩⟩
theorem notIn_bytes {l : List UInt8} {c : UInt8} {t u : Tok} {Q : Value → Shared → Prop} (hh : A.handled = none) (h : ∀ s', Ext s s' → Q (.bool !(idxB c l).isSome) s') :
    wpAny (model prog w) A (compareOp .NotIn (.bytes #[c] u) (.bytes l.toArray t)) Q E s :=
  SeqRoads2.notIn_meets (typeIs_bytes _ _ _) FB.slot_bytes_contains FB.entry_bytes_contains (FB.args_bytes_contains_2 _ _) (meets_contains l c t u) ⟨hh, fun s' hx => ⟨_, rfl, h s' hx⟩⟩
end
end Mine
end
section
open PySem PySem.W PyProof.Rows PySem.Calls
set_option Elab.async false
set_option linter.unusedVariables false
set_option maxRecDepth 100000
namespace Mine
/-- the text's top, as it stands -/
structure TopH (K : Frag) (mg mb : Str → Option Value) (h : Heap) : Prop where
  g : h.Ns mainGlobals mg
  b : h.Ns builtinsNs mb
  lim : h.NoLimit
  blt : ∀ x : Str, x ≠ "__name__" → mb x = bootBuiltins x
  k : K.In h
  bm : h.BuiltinsAt mg 88
theorem TopH.keeps {K mg mb h h'} (T : TopH K mg mb h) (hk : ∀ b o, h.get? b = some o → h'.get? b = some o) : TopH K mg mb h' := ⟨T.g.keeps hk, T.b.keeps hk, T.lim.keeps hk, T.blt, T.k.keeps hk, T.bm.keeps hk⟩
theorem TopH.ext {K mg mb} {s s' : Shared} (T : TopH K mg mb s.heap) (e : Ext s s') : TopH K mg mb s'.heap := T.keeps e.keep
/-- room of the activation -/
structure Room (A : Around) (k : Nat) : Prop where
  hh : A.handled = none
  dep : A.depth + k ≤ 400
  un : A.units + 100 * k ≤ 9000
theorem Room.in1 {A k} (r : Room A (k + 1)) : Room A.in1 k := ⟨r.hh, by have := r.dep; show A.depth + k ≤ 400; omega, by have := r.un; show A.units + 1 + 100 * k ≤ 9000; omega⟩
theorem Room.le {A k j} (r : Room A k) (h : j ≤ k) : Room A j := ⟨r.hh, by have := r.dep; omega, by have := r.un; omega⟩
theorem Room.deeper {A k e} (r : Room A (k + 1)) : Room (A.deeper e) k := ⟨r.hh, by have := r.dep; show A.depth + 1 + k ≤ 400; omega, by have := r.un; show A.units + 3 + 100 * k ≤ 9000; omega⟩
theorem Room.lim {A k} (r : Room A k) : A.depth < recursionLimit := by have := r.dep; show A.depth < 1000; omega
theorem Room.units {A k} (r : Room A k) : A.units + 64 < cLine := by have := r.un; show A.units + 64 < 9900; omega
inductive Ent where
  | val (d : D)
  | own (a : Addr) (ds : List D)
def EntIn (W : List Addr) (h : Heap) (v : Value) : Ent → Prop
  | .val d => Den W h v d
  | .own a ds => v = .ref a ∧ a ∈ W ∧ ∃ vs n, h.get? a = some (listOf vs.toArray n) ∧ DenAll W h vs ds
theorem EntIn.ext {W : List Addr} {s s' : Shared} {v : Value} {e : Ent} (x : EntIn W s.heap v e) (k : Ext s s') : EntIn W s'.heap v e := by
  cases e with
  | val d => exact Den.ext x k
  | own a ds => exact let ⟨h1, h2, vs, n, h3, h4⟩ := x; ⟨h1, h2, vs, n, k.keep _ _ h3, h4.ext k⟩
abbrev Mu := Str → Option Ent
def upd (μ : Mu) (x : Str) (e : Option Ent) : Mu := fun y => if y = x then e else μ y
/-- a frame of the text's: what its names bear -/
structure Cx where
  prog : Program
  w : World
  A : Around
  nm : Str
  sc : Scope
  fa : Addr
  cd : Value
  W : List Addr
  s₀ : Shared
  L : Addr
  μ : Mu
  H : List (Addr × Obj)
  V : List (Value × D)
  G : List (Nat × GenState)
  s₁ : Shared
  lo : Addr → Prop
  top : Addr
  z : Addr
  fn : Option Addr := some fa
  frm : Option Addr := some L
abbrev Cx.env (c : Cx) : Env := { envOf c.nm c.sc c.L c.fa c.cd with func := c.fn, frame := c.frm }
abbrev Cx.M (c : Cx) : Model := model c.prog c.w
def Cx.up (c : Cx) (x : Str) (e : Option Ent) : Cx := { c with μ := upd c.μ x e }
def Cx.mu (c : Cx) (μ : Mu) : Cx := { c with μ := μ }
def Cx.wm (c : Cx) (W : List Addr) (μ : Mu) : Cx := { c with W := W, μ := μ }
def Cx.all (c : Cx) (W : List Addr) (H : List (Addr × Obj)) (V : List (Value × D)) (μ : Mu) : Cx := { c with W := W, H := H, V := V, μ := μ }
/-- no part of what stood at the start -/
def Free (c : Cx) (b : Addr) : Prop := c.s₀.heap.get? b = none ∧ (¬ c.lo b ∨ b = c.z)
/-- not to be altered by the frame: what stood at its start, and tuples -/
def Prot (c : Cx) (b : Addr) (o : Obj) : Prop := (c.lo b ∧ b ≠ c.z ∧ b ≠ c.L) ∨ (o.cls = .type "tuple" ∧ ∃ i n, o.data = .seq i n)
/-- no list's object; no tuple's -/
def NL (o : Obj) : Prop := ∀ i n, o ≠ listOf i n
def NT (o : Obj) : Prop := ¬ (o.cls = .type "tuple" ∧ ∃ i n, o.data = .seq i n)
theorem NL.of {o : Obj} (h : o.cls ≠ .type "list") : NL o := fun i n e => h (by rw [e])
theorem NT.of {o : Obj} (h : o.cls ≠ .type "tuple") : NT o := fun e => h e.1
/-- a private object of the frame's, as it stands -/
structure Held (c : Cx) (h : Heap) (p : Addr × Obj) : Prop where
  w : p.1 ∈ c.W
  n : Free c p.1
  l : p.1 ≠ c.L
  c : NL p.2
  t : NT p.2
  g : h.get? p.1 = some p.2
structure FrD (c : Cx) (s : Shared) : Prop where
  fr : ∃ m, Fr c.s₀.heap c.L s.heap m ∧ ∀ x e, c.μ x = some e → ∃ v, m x = some v ∧ EntIn c.W s.heap v e
  inj : ∀ x y a ds es, c.μ x = some (.own a ds) → c.μ y = some (.own a es) → x = y
  new : ∀ x a ds, c.μ x = some (.own a ds) → c.s₀.heap.get? a = none ∧ ¬ c.lo a
  tl : (∃ o, s.heap.get? c.top = some o) ∧ ∀ b, c.lo b → b ≤ c.top ∨ ∃ o, s.heap.get? b = some o
  lw : c.L ∈ c.W
  live : Live c.W s.heap
  ext : Ext c.s₀ s
  hh : ∀ p ∈ c.H, Held c s.heap p
  vv : ∀ q ∈ c.V, Den c.W s.heap q.1 q.2
  gg : ∀ p ∈ c.G, s.gens[p.1]? = some p.2
  kr : ∀ b o, Prot c b o → c.s₁.heap.get? b = some o → s.heap.get? b = some o
theorem FrD.go {c : Cx} {s s' : Shared} (F : FrD c s) (e : Ext s s') : FrD c s' :=
  ⟨let ⟨m, h1, h2⟩ := F.fr; ⟨m, h1.keptAll e.keep, fun x en h => let ⟨v, h3, h4⟩ := h2 x en h; ⟨v, h3, h4.ext e⟩⟩, F.inj, F.new, ⟨let ⟨o, h⟩ := F.tl.1; ⟨o, e.keep _ _ h⟩, fun b hb => (F.tl.2 b hb).imp id fun ⟨o, h⟩ => ⟨o, e.keep _ _ h⟩⟩, F.lw, F.live.ext e, F.ext.trans e, fun p hp => ⟨(F.hh p hp).w, (F.hh p hp).n, (F.hh p hp).l, (F.hh p hp).c, (F.hh p hp).t, e.keep _ _ (F.hh p hp).g⟩, fun q hq => (F.vv q hq).ext e, fun p hp => e.gens _ _ (F.gg p hp), fun b o h1 h2 => e.keep _ _ (F.kr b o h1 h2)⟩
theorem FrD.top {c : Cx} {s : Shared} (F : FrD c s) {K mg mb} (T : TopH K mg mb c.s₀.heap) : TopH K mg mb s.heap := T.ext F.ext
/-- e bears d -/
structure J (c : Cx) (e : PySem.Expr) (d : D) : Prop where
  run : ∀ s E, FrD c s → wpAny c.M c.A (eval e c.env) (fun v s' => Ext s s' ∧ Den c.W s'.heap v d) E s
structure JT (c : Cx) (e : PySem.Expr) (d : D) : Prop where
  run : ∀ s E, FrD c s → wpAny c.M c.A (eval e c.env) (fun v s' => Ext s s' ∧ DenT c.W s'.heap v d) E s
/-- the test comes out as b -/
structure JB (c : Cx) (e : PySem.Expr) (b : Bool) : Prop where
  run : ∀ s E, FrD c s → wpAny c.M c.A (isTrue e c.env (eval e c.env)) (fun r s' => r = b ∧ Ext s s') E s
theorem J.top {c e d} (x : J c e d) : JT c e d := .mk fun s E F => wpAny_mono (x.run s E F) (fun _ _ h => ⟨h.1, h.2.top⟩) fun _ _ h => h
theorem J.cast {c e d d'} (x : J c e d) (h : d = d') : J c e d' := h ▸ x
theorem JT.cast {c e d d'} (x : JT c e d) (h : d = d') : JT c e d' := h ▸ x
theorem JB.cast {c e d d'} (x : JB c e d) (h : d = d') : JB c e d' := h ▸ x
section
variable {c : Cx}
theorem ldC {M : Model} {A : Around} {E : Value → Shared → Prop} {s : Shared} {h₀ : Heap} {m : Str → Option Value} {x : Str} {pos : Pos} {v : Value} {Q : Value → Shared → Prop} (F : Fr h₀ c.L s.heap m) (hv : m x = some v) (h : Q v s) (hk : c.sc.kind = .function) (hl : c.env.kindOf x = some .local) (hd : (x == ("__debug__" : Str)) = false) :
    wpAny M A (eval (.Name x pos) c.env) Q E s := wpAny_Name (wpAny_loadName_local hk hl F.ns hv h) hd
theorem J_name {x : Str} {pos : Pos} {d : D} (h : c.μ x = some (.val d)) (hk : c.sc.kind = .function := by rfl) (hl : c.env.kindOf x = some .local := by rfl) (hd : (x == ("__debug__" : Str)) = false := by decide) : J c (.Name x pos) d := by
  refine .mk fun s E F => ?_
  obtain ⟨m, F1, F2⟩ := F.fr
  obtain ⟨v, hv, hd'⟩ := F2 x _ h
  exact ldC F1 hv ⟨.refl _, hd'⟩ hk hl hd
theorem JT_own {x : Str} {pos : Pos} {a : Addr} {ds : List D} (h : c.μ x = some (.own a ds)) (hk : c.sc.kind = .function := by rfl) (hl : c.env.kindOf x = some .local := by rfl) (hd : (x == ("__debug__" : Str)) = false := by decide) : JT c (.Name x pos) (.list ds) := by
  refine .mk fun s E F => ?_
  obtain ⟨m, F1, F2⟩ := F.fr
  obtain ⟨v, hv, rfl, _, vs, n, ho, hd'⟩ := F2 x _ h
  exact ldC F1 hv ⟨.refl _, _, vs, rfl, ⟨_, ho, rfl, n, rfl⟩, hd'⟩ hk hl hd
theorem J_none {k : Nat} {pos : Pos} : J c (.Constant .none k pos) .none := .mk fun s E _ => by
  rw [arm_eval_Constant]; exact wpAny_pure ⟨.refl _, .none⟩
theorem J_bool {b : Bool} {k : Nat} {pos : Pos} : J c (.Constant (.bool b) k pos) (.bool b) := .mk fun s E _ => by
  rw [arm_eval_Constant]; exact wpAny_pure ⟨.refl _, .bool b⟩
theorem J_int {i : Int} {k : Nat} {pos : Pos} : J c (.Constant (.int i) k pos) (.int i) := .mk fun s E _ => wpAny_Constant_int ⟨.toks _, .int _ _⟩
theorem J_bytes {b : List UInt8} {k : Nat} {pos : Pos} : J c (.Constant (.bytes b) k pos) (.bytes b) := .mk fun s E _ => Constant_bytes ⟨.toks _, .bytes _ _⟩
/-- items of a display or a call -/
structure JS (c : Cx) (l : List (Bool × Sem Value)) (ds : List D) : Prop where
  run : ∀ s E, FrD c s → wpAny c.M c.A (spliced l) (fun vs s' => Ext s s' ∧ DenAll c.W s'.heap vs ds) E s
theorem JS.nil : JS c [] [] := .mk fun s E _ => spliced_nil ⟨.refl _, .nil⟩
theorem JS.cons {e : PySem.Expr} {d : D} {l : List (Bool × Sem Value)} {ds : List D} (h : J c e d) (r : JS c l ds) : JS c ((false, eval e c.env) :: l) (d :: ds) := .mk fun s E F =>
  spliced_cons (wpAny_mono (h.run s E F) (fun v s₁ ⟨e1, h1⟩ => wpAny_mono (r.run s₁ E (F.go e1)) (fun vs s₂ ⟨e2, h2⟩ => ⟨e1.trans e2, .cons (h1.ext e2) h2⟩) fun _ _ x => x) fun _ _ x => x)
theorem J_list {elts : List PySem.Expr} {pos : Pos} {ds : List D} (h : JS c (backTo pos (starEach elts c.env)) ds) (hz : ds.length ≤ 1000 := by first | decide | simp) : J c (.List elts pos) (.list ds) := .mk fun s E F =>
  List_ (wpAny_mono (h.run s E F) (fun vs s₁ ⟨e1, h1⟩ => wpAny_newObj_type ⟨e1.trans (.push _), .list (F.live.ext e1).next ⟨_, Heap.get?_push_size _ rfl, rfl, 0, rfl⟩ (h1.ext (.push _))⟩
    (by show vs.toArray.size ≤ sizeLine; rw [List.size_toArray, h1.length, sizeLine_eq]; omega)) fun _ _ x => x)
theorem J_tuple {elts : List PySem.Expr} {k : Nat} {pos : Pos} {ds : List D} (h : JS c (backTo pos (starEach elts c.env)) ds) (hz : ds.length ≤ 1000 := by first | decide | simp) : J c (.Tuple elts k pos) (.tuple ds) := .mk fun s E F =>
  Tuple_ (wpAny_mono (h.run s E F) (fun vs s₁ ⟨e1, h1⟩ => wpAny_newObj_type ⟨e1.trans (.push _), .tuple (F.live.ext e1).next ⟨_, Heap.get?_push_size _ rfl, rfl, 0, rfl⟩ (h1.ext (.push _))⟩
    (by show vs.toArray.size ≤ sizeLine; rw [List.size_toArray, h1.length, sizeLine_eq]; omega)) fun _ _ x => x)
/-- an operation of two bears d -/
theorem JT_BinOp {l r : PySem.Expr} {op : Operator} {pos : Pos} {d1 d2 d : D} (h1 : JT c l d1) (h2 : JT c r d2)
    (h : ∀ s E v1 v2, FrD c s → DenT c.W s.heap v1 d1 → DenT c.W s.heap v2 d2 → wpAny c.M c.A (binaryOp op v1 v2) (fun v s' => Ext s s' ∧ Den c.W s'.heap v d) E s) : J c (.BinOp l op r pos) d := .mk fun s E F =>
  wpAny_BinOp (wpAny_mono (h1.run s E F) (fun v1 s₁ ⟨e1, x1⟩ => wpAny_mono (h2.run s₁ E (F.go e1)) (fun v2 s₂ ⟨e2, x2⟩ =>
    wpAny_mono (h s₂ E v1 v2 ((F.go e1).go e2) (x1.ext e2) x2) (fun v s₃ ⟨e3, x3⟩ => ⟨(e1.trans e2).trans e3, x3⟩) fun _ _ x => x) fun _ _ x => x) fun _ _ x => x)
theorem denT_bytes {W h v b} (x : DenT W h v (.bytes b)) : ∃ t, v = .bytes b.toArray t := by cases (show Den W h v (.bytes b) from x) with | bytes _ t => exact ⟨t, rfl⟩
theorem denT_int {W h v i} (x : DenT W h v (.int i)) : ∃ t, v = .int i t := by cases (show Den W h v (.int i) from x) with | int _ t => exact ⟨t, rfl⟩
theorem denT_bool {W h v b} (x : DenT W h v (.bool b)) : v = .bool b := by cases (show Den W h v (.bool b) from x) with | bool _ => rfl
theorem denT_none {W h v} (x : DenT W h v .none) : v = .none := by cases (show Den W h v .none from x) with | none => rfl
theorem J_addB {l r : PySem.Expr} {pos : Pos} {a b : List UInt8} (h1 : J c l (.bytes a)) (h2 : J c r (.bytes b)) (hz : a.length + b.length ≤ 16777216) : J c (.BinOp l .Add r pos) (.bytes (a ++ b)) :=
  JT_BinOp h1.top h2.top fun s E v1 v2 F x1 x2 => by
    obtain ⟨t, rfl⟩ := denT_bytes x1
    obtain ⟨u, rfl⟩ := denT_bytes x2
    refine KBy.add_bytes (by simpa using hz) fun t' k => ⟨.toks _, ?_⟩
    rw [List.append_toArray]
    exact .bytes _ _
end
end Mine
end
section
open PySem PySem.W PyProof.Rows PySem.Calls
set_option Elab.async false
set_option linter.unusedVariables false
set_option maxRecDepth 100000
namespace Mine
section
variable {c : Cx}
theorem J_addI {l r : PySem.Expr} {pos : Pos} {a b : Int} (h1 : J c l (.int a)) (h2 : J c r (.int b)) : J c (.BinOp l .Add r pos) (.int (a + b)) :=
  JT_BinOp h1.top h2.top fun s E v1 v2 F x1 x2 => by
    obtain ⟨t, rfl⟩ := denT_int x1
    obtain ⟨u, rfl⟩ := denT_int x2
    exact add_int ⟨.toks _, .int _ _⟩
theorem J_subI {l r : PySem.Expr} {pos : Pos} {a b : Int} (h1 : J c l (.int a)) (h2 : J c r (.int b)) : J c (.BinOp l .Sub r pos) (.int (a - b)) :=
  JT_BinOp h1.top h2.top fun s E v1 v2 F x1 x2 => by
    obtain ⟨t, rfl⟩ := denT_int x1
    obtain ⟨u, rfl⟩ := denT_int x2
    exact sub_int ⟨.toks _, .int _ _⟩
theorem J_modI {l r : PySem.Expr} {pos : Pos} {a b : Int} (h1 : J c l (.int a)) (h2 : J c r (.int b)) (hb : b ≠ 0) : J c (.BinOp l .Mod r pos) (.int (a.fmod b)) :=
  JT_BinOp h1.top h2.top fun s E v1 v2 F x1 x2 => by
    obtain ⟨t, rfl⟩ := denT_int x1
    obtain ⟨u, rfl⟩ := denT_int x2
    exact mod_int hb ⟨.toks _, .int _ _⟩
theorem J_divI {l r : PySem.Expr} {pos : Pos} {a b : Int} (h1 : J c l (.int a)) (h2 : J c r (.int b)) (hb : b ≠ 0) (hs : b.natAbs < 1073741824) : J c (.BinOp l .FloorDiv r pos) (.int (a.fdiv b)) :=
  JT_BinOp h1.top h2.top fun s E v1 v2 F x1 x2 => by
    obtain ⟨t, rfl⟩ := denT_int x1
    obtain ⟨u, rfl⟩ := denT_int x2
    exact floordiv_int hb ⟨.toks _, .int _ _⟩ (.inl (PyProof.noPylong_small hs))
theorem J_powI {l r : PySem.Expr} {pos : Pos} {a b : Int} (h1 : J c l (.int a)) (h2 : J c r (.int b)) (h0 : 0 ≤ b) (hb : b ≤ 1000000) (ha : a.natAbs < 2 ^ 64) : J c (.BinOp l .Pow r pos) (.int (a ^ b.toNat)) :=
  JT_BinOp h1.top h2.top fun s E v1 v2 F x1 x2 => by
    obtain ⟨t, rfl⟩ := denT_int x1
    obtain ⟨u, rfl⟩ := denT_int x2
    exact pow_int_small h0 hb ha ⟨.toks _, .int _ _⟩
theorem J_negI {e : PySem.Expr} {pos : Pos} {a : Int} (h1 : J c e (.int a)) : J c (.UnaryOp .USub e pos) (.int (-a)) := .mk fun s E F => by
  rw [arm_eval_UnaryOp]
  refine wpAny_bind (wpAny_mono (h1.run s E F) (fun v s₁ ⟨e1, x1⟩ => ?_) fun _ _ x => x)
  obtain ⟨t, rfl⟩ := denT_int x1.top
  exact wpAny_bind (wpAny_standAt (wpAny_holding (neg_int ⟨e1.trans (.toks _), .int _ _⟩)))
theorem J_addL {l r : PySem.Expr} {pos : Pos} {a b : List D} (h1 : JT c l (.list a)) (h2 : JT c r (.list b)) (hz : a.length + b.length ≤ 16777216) : J c (.BinOp l .Add r pos) (.list (a ++ b)) :=
  JT_BinOp h1 h2 fun s E v1 v2 F x1 x2 => by
    obtain ⟨l, vs, rfl, hl, r1⟩ := x1
    obtain ⟨b', ws, rfl, hb, r2⟩ := x2
    obtain ⟨⟨cls, dd, data, sl⟩, ho, hc, n, hd⟩ := id hl
    obtain ⟨⟨cls2, dd2, data2, sl2⟩, ho2, hc2, n2, hd2⟩ := id hb
    simp only at hc hd hc2 hd2
    subst hc hd hc2 hd2
    have e : vs.toArray ++ ws.toArray = (vs ++ ws).toArray := by simp
    refine concat_meets ⟨_, ho, rfl⟩ ⟨_, ho2, rfl⟩ noFill_list_add seq_list_add PySem.F.slot_list_add PySem.F.entry_list_add (PySem.F.args_list_add_2 _ _) (list_addW l b' vs.toArray ws.toArray n n2 dd dd2 sl sl2 (by have := r1.length; have := r2.length; rw [sizeLine_eq]; simp; omega)) ⟨ho, ho2, ?_⟩
    rw [e]
    exact ⟨.push _, .list F.live.next ⟨_, Heap.get?_push_size _ rfl, rfl, 0, rfl⟩ ((r1.append r2).ext (.push _))⟩
theorem subscripted_false (slice : PySem.Expr) (o i : Value) : ∃ ops, subscripted slice false o i = operate ops (getItem o i) := by
  unfold subscripted
  split
  · exact ⟨_, rfl⟩
  · rename_i h; cases h
  · exact ⟨_, rfl⟩
theorem sub_any {prog : Program} {w : World} {A : Around} {E : Value → Shared → Prop} {s : Shared} {env : Env} {value slice : PySem.Expr} {pos : Pos} {Q : Value → Shared → Prop}
    (h : wpAny (model prog w) A (eval value env) (fun o s₁ => wpAny (model prog w) A (eval slice env) (fun i s₂ => ∃ T id, s₂.TypeIs o T ∧ typeLookup (.type T) "__getitem__" = pure (some (.builtin id)) ∧ wpAny (model prog w) A (getItem o i) Q E s₂) E s₁) E s) :
    wpAny (model prog w) A (eval (.Subscript value slice pos) env) Q E s := by
  refine Subscript_ (wpAny_mono h (fun o s₁ h₁ => wpAny_mono h₁ (fun i s₂ h₂ => ?_) fun _ _ x => x) fun _ _ x => x)
  obtain ⟨T, id, hT, hl, hg⟩ := h₂
  unfold subscriptTail
  refine wpAny_bind ?_
  rw [getitemInPython_of_ne hT.not_modules]
  refine wpAny_bind (wpAny_specialOf hT hl ?_)
  obtain ⟨ops, e⟩ := subscripted_false slice o i
  have fin : wpAny (model prog w) A (subscripted slice false o i) (fun r s₃ => wpAny (model prog w) A (letTemporaryGo value o r >>= fun _ => pure r) Q E s₃) E s₂ := by
    rw [e]
    exact wpAny_operating (wpAny_mono hg (fun r s₃ h₃ => wpAny_bind (wpAny_letTemporaryGo (wpAny_pure h₃))) fun _ _ x => x)
  first
    | exact wpAny_pure (wpAny_bind fin)
    | exact wpAny_bind (wpAny_pure (wpAny_bind fin))
    | exact wpAny_bind fin
/-- an item by its place -/
theorem J_item {value slice : PySem.Expr} {pos : Pos} {ds : List D} {k : Int} {d : D} (h1 : JT c value (.list ds)) (h2 : J c slice (.int k)) (h0 : 0 ≤ k) (hk : k < 2 ^ 63) (hd : ds[k.toNat]? = some d) : J c (.Subscript value slice pos) d := .mk fun s E F =>
  sub_any (wpAny_mono (h1.run s E F) (fun o s₁ ⟨e1, x1⟩ => wpAny_mono (h2.run s₁ E (F.go e1)) (fun i s₂ ⟨e2, x2⟩ => by
    obtain ⟨u, rfl⟩ := denT_int x2.top
    obtain ⟨a, vs, rfl, hl, r⟩ := x1.ext e2
    obtain ⟨v, hv, hd'⟩ := r.get hd
    exact ⟨"list", _, hl.typeIs, list_getitem_lookup, wpAny_getItem_list hl h0 hk (by simpa using hv) ⟨e1.trans e2, hd'⟩⟩) fun _ _ x => x) fun _ _ x => x)
theorem J_itemNeg {value slice : PySem.Expr} {pos : Pos} {ds : List D} {k : Int} {d : D} (h1 : JT c value (.list ds)) (h2 : J c slice (.int k)) (h0 : k < 0) (h1' : -(ds.length : Int) ≤ k) (hk : -(2 ^ 63) ≤ k) (hd : ds[(k + ds.length).toNat]? = some d) : J c (.Subscript value slice pos) d := .mk fun s E F =>
  sub_any (wpAny_mono (h1.run s E F) (fun o s₁ ⟨e1, x1⟩ => wpAny_mono (h2.run s₁ E (F.go e1)) (fun i s₂ ⟨e2, x2⟩ => by
    obtain ⟨u, rfl⟩ := denT_int x2.top
    obtain ⟨a, vs, rfl, hl, r⟩ := x1.ext e2
    have hlen := r.length
    obtain ⟨v, hv, hd'⟩ := r.get hd
    refine ⟨"list", _, hl.typeIs, list_getitem_lookup, wpAny_getItem_list_neg hl h0 (by simp; omega) hk ?_ ⟨e1.trans e2, hd'⟩⟩
    simp only [List.size_toArray, List.getElem?_toArray, hlen]
    exact hv) fun _ _ x => x) fun _ _ x => x)
theorem isTup_of {h : Heap} {a : Addr} {items : Array Value} (x : h.IsTuple a items) : IsTup h a items := x
theorem J_itemT {value slice : PySem.Expr} {pos : Pos} {ds : List D} {k : Int} {d : D} (h1 : JT c value (.tuple ds)) (h2 : J c slice (.int k)) (h0 : 0 ≤ k) (hk : k < 2 ^ 63) (hd : ds[k.toNat]? = some d) : J c (.Subscript value slice pos) d := .mk fun s E F =>
  sub_any (wpAny_mono (h1.run s E F) (fun o s₁ ⟨e1, x1⟩ => wpAny_mono (h2.run s₁ E (F.go e1)) (fun i s₂ ⟨e2, x2⟩ => by
    obtain ⟨u, rfl⟩ := denT_int x2.top
    obtain ⟨a, vs, rfl, hl, r⟩ := x1.ext e2
    have hlen := r.length
    obtain ⟨v, hv, hd'⟩ := r.get hd
    have hlt : k.toNat < ds.length := (List.getElem?_eq_some_iff.mp hd).1
    refine ⟨"tuple", _, (isTup_of hl).typeIs, slot_tuple_getitem.lookup, getItem_tuple (isTup_of hl) (by omega) hk (j := k.toNat) ?_ (by simpa using hv) ⟨e1.trans e2, hd'⟩⟩
    refine seqIndex_of h0 ?_
    simp only [List.size_toArray, hlen]; omega) fun _ _ x => x) fun _ _ x => x)
/-- a cut as Python clamps it -/
def cut {α : Type} (l : List α) (lo hi : Option Int) : List α := (l.drop (lo.elim 0 (clipAt l.length))).take (hi.elim l.length (clipAt l.length) - lo.elim 0 (clipAt l.length))
inductive JP (c : Cx) : Option PySem.Expr → Option Int → Prop
  | none : JP c none none
  | some {e : PySem.Expr} {i : Int} : J c e (.int i) → JP c (some e) (some i)
theorem evalPart {o : Option PySem.Expr} {k : Option Int} (h : JP c o k) {s : Shared} {E : Value → Shared → Prop} (F : FrD c s) : wpAny c.M c.A (valueOrNone (evalOpt o c.env)) (fun v s' => Ext s s' ∧ IsPart v k) E s := by
  cases h with
  | none => exact wpAny_pure ⟨.refl _, .none⟩
  | some h => exact wpAny_mono (h.run s E F) (fun v s₁ ⟨e1, x1⟩ => by obtain ⟨t, rfl⟩ := denT_int x1.top; exact ⟨e1, .int _ _⟩) fun _ _ x => x
theorem eval_slice {lo hi : Option PySem.Expr} {p : Pos} {a b : Option Int} (h1 : JP c lo a) (h2 : JP c hi b) {s : Shared} {E : Value → Shared → Prop} (F : FrD c s) :
    wpAny c.M c.A (eval (.Slice lo hi none p) c.env) (fun v s' => Ext s s' ∧ ∃ sl vl vu, v = .ref sl ∧ s'.heap.IsSliceOf sl vl vu .none ∧ IsPart vl a ∧ IsPart vu b) E s := by
  rw [arm_eval_Slice]
  refine wpAny_bind (wpAny_mono (evalPart h1 F) (fun vl s₁ ⟨e1, x1⟩ => ?_) fun _ _ x => x)
  refine wpAny_bind (wpAny_holding (wpAny_mono (evalPart h2 (F.go e1)) (fun vu s₂ ⟨e2, x2⟩ => ?_) fun _ _ x => x))
  refine wpAny_bind (wpAny_holding (wpAny_pure ?_))
  exact wpAny_newObj_type ⟨(e1.trans e2).trans (.push _), _, vl, vu, rfl, Heap.IsSliceOf.new .., x1, x2⟩
theorem J_cutL {value : PySem.Expr} {lo hi : Option PySem.Expr} {p pos : Pos} {ds : List D} {a b : Option Int} (h1 : JT c value (.list ds)) (h2 : JP c lo a) (h3 : JP c hi b) (hz : ds.length ≤ 16777216) : J c (.Subscript value (.Slice lo hi none p) pos) (.list (cut ds a b)) := .mk fun s E F =>
  sub_any (wpAny_mono (h1.run s E F) (fun o s₁ ⟨e1, x1⟩ => wpAny_mono (eval_slice h2 h3 (F.go e1)) (fun i s₂ ⟨e2, sl, vl, vu, ei, hs, p1, p2⟩ => by
    subst ei
    obtain ⟨l, vs, rfl, hl, r⟩ := x1.ext e2
    refine ⟨"list", _, hl.typeIs, list_getitem_lookup, wpAny_getItem_list_slice hl hs p1 p2 .none (by simp) ⟨(e1.trans e2).trans (.push _), ?_⟩ (by have := r.length; rw [sizeLine_eq]; simp; omega)⟩
    refine .list (F.live.ext (e1.trans e2)).next (vs := cut vs a b) ⟨_, Heap.get?_push_size _ rfl, rfl, 0, ?_⟩ (DenAll.ext ?_ (.push _))
    · rw [slicePick_plain]; simp [cut]
    · unfold cut
      rw [r.length]
      exact (r.drop _).take _) fun _ _ x => x) fun _ _ x => x)
theorem J_cutB {value : PySem.Expr} {lo hi : Option PySem.Expr} {p pos : Pos} {b : List UInt8} {x y : Option Int} (h1 : J c value (.bytes b)) (h2 : JP c lo x) (h3 : JP c hi y) (hz : b.length ≤ 16777216) : J c (.Subscript value (.Slice lo hi none p) pos) (.bytes (cut b x y)) := .mk fun s E F =>
  sub_any (wpAny_mono (h1.run s E F) (fun o s₁ ⟨e1, x1⟩ => wpAny_mono (eval_slice h2 h3 (F.go e1)) (fun i s₂ ⟨e2, sl, vl, vu, ei, hs, p1, p2⟩ => by
    subst ei
    obtain ⟨t, rfl⟩ := denT_bytes x1.top
    have ep : KBy.picked b.toArray x y = (cut b x y).toArray := by rw [KBc.picked_eq]; simp [cut]
    refine ⟨"bytes", _, typeIs_bytes _ _ _, FB.slot_bytes_getitem.lookup, getItem_meets (typeIs_bytes _ _ _) (by decide) FB.slot_bytes_getitem FB.entry_bytes_getitem (FB.args_bytes_getitem_2 _ _) (KBc.meets_slice2 b.toArray t sl p1 p2) ⟨hs, ?_, fun t' k => ⟨(e1.trans e2).trans (.toks _), ?_⟩⟩⟩
    · exact Nat.le_trans (KBc.size_picked_le _ _ _) (by rw [sizeLine_eq]; simpa using hz)
    · rw [ep]; exact .bytes _ _) fun _ _ x => x) fun _ _ x => x)
end
end Mine
end
section
open PySem PySem.W PyProof.Rows PySem.Calls
set_option Elab.async false
set_option linter.unusedVariables false
set_option maxRecDepth 100000
namespace Mine
open SeqAt
/-- data whose comparison is plain, at most so deep -/
inductive Plain : Nat → D → Prop
  | none {n} : Plain n .none
  | bool {n} (b) : Plain n (.bool b)
  | int {n} (i) : Plain n (.int i)
  | bytes {n} (b) : Plain n (.bytes b)
  | list {n ds} : (∀ d ∈ ds, Plain n d) → Plain (n + 1) (.list ds)
  | tuple {n ds} : (∀ d ∈ ds, Plain n d) → Plain (n + 1) (.tuple ds)
theorem eqAt_bytes {A : Around} {s : Shared} (a b : List UInt8) (t u : Tok) : EqAt A s (.bytes a.toArray t) (.bytes b.toArray u) (a == b) := fun prog w E Q h => by
  unfold eqBool
  refine wpAny_holding ?_
  refine wpAny_ite_split (fun hab => ?_) (fun _ => ?_)
  · have := eq_of_beq hab
    injection this with e1 e2
    have e : a = b := by simpa using congrArg Array.toList e1
    subst e
    exact wpAny_bind (wpAny_rule (wpAny_pure (by simpa using h)))
  · refine wpAny_bind (m := richCompare .Eq _ _) ?_
    have := eq_bytes (prog := prog) (w := w) (A := A) (E := E) (s := s) (b := a.toArray) (c := b.toArray) (t := t) (u := u) (Q := fun v s' => wpAny (model prog w) A (truthOfDropped v) Q E s') (wpAny_truthy_bool (by simpa using h))
    exact this
theorem all_range {n : Nat} {e : Nat → Bool} (h : ∀ j, j < n → e j = true) : (List.range n).all e = true := List.all_eq_true.mpr fun j hj => h j (List.mem_range.mp hj)
theorem eqAt_list {s : Shared} {n : Nat} (ih : ∀ (d : D), Plain n d → ∀ {A : Around} {W W' : List Addr} {v v' : Value}, Den W s.heap v d → Den W' s.heap v' d → A.units + n + 1 < cLine → EqAt A s v v' true)
    {ds : List D} (hp : ∀ d ∈ ds, Plain n d) {A : Around} {W W' : List Addr} {a a' : Addr} {vs vs' : List Value} (hl : s.heap.IsList a vs.toArray) (r : DenAll W s.heap vs ds) (hl' : s.heap.IsList a' vs'.toArray) (r' : DenAll W' s.heap vs' ds) (hu : A.units + (n + 1) + 1 < cLine) :
    RcAt A s (.ref a) (.ref a') true ∧ RcNeAt A s (.ref a) (.ref a') false := by
  have hu' : A.in1.units + n + 1 < cLine := by show A.units + 1 + n + 1 < cLine; omega
  have hsz : vs.toArray.size = vs'.toArray.size := by have := r.length; have := r'.length; simp; omega
  have el : ∀ j (h1 : j < vs.toArray.size) (h2 : j < vs'.toArray.size), EqAt A.in1 s vs.toArray[j] vs'.toArray[j] ((fun _ => true) j) := by
    intro j h1 h2
    have h1' : j < vs.length := by simpa using h1
    have hd : ds[j]? = some (ds[j]'(by have := r.length; omega)) := List.getElem?_eq_getElem _
    obtain ⟨u, hu1, hu2⟩ := r.get hd
    obtain ⟨u', hu1', hu2'⟩ := r'.get hd
    have e1 : vs.toArray[j] = u := by have := List.getElem?_eq_getElem h1'; rw [hu1] at this; simpa using (Option.some.inj this).symm
    have h2' : j < vs'.length := by simpa using h2
    have e2 : vs'.toArray[j] = u' := by have := List.getElem?_eq_getElem h2'; rw [hu1'] at this; simpa using (Option.some.inj this).symm
    rw [e1, e2]
    exact ih _ (hp _ (List.getElem_mem _)) hu2 hu2' hu'
  have k1 := RcAt.lists (A := A) hl hl' hsz (by omega) el
  have k2 := RcNeAt.lists (A := A) hl hl' hsz (by omega) el
  rw [all_range (fun _ _ => rfl)] at k1 k2
  exact ⟨k1, k2⟩
theorem eqAt_tuple {s : Shared} {n : Nat} (ih : ∀ (d : D), Plain n d → ∀ {A : Around} {W W' : List Addr} {v v' : Value}, Den W s.heap v d → Den W' s.heap v' d → A.units + n + 1 < cLine → EqAt A s v v' true)
    {ds : List D} (hp : ∀ d ∈ ds, Plain n d) {A : Around} {W W' : List Addr} {a a' : Addr} {vs vs' : List Value} (hl : s.heap.IsTuple a vs.toArray) (r : DenAll W s.heap vs ds) (hl' : s.heap.IsTuple a' vs'.toArray) (r' : DenAll W' s.heap vs' ds) (hu : A.units + (n + 1) + 1 < cLine) :
    RcAt A s (.ref a) (.ref a') true := by
  have hu' : A.in1.units + n + 1 < cLine := by show A.units + 1 + n + 1 < cLine; omega
  have hsz : vs.toArray.size = vs'.toArray.size := by have := r.length; have := r'.length; simp; omega
  have el : ∀ j (h1 : j < vs.toArray.size) (h2 : j < vs'.toArray.size), EqAt A.in1 s vs.toArray[j] vs'.toArray[j] ((fun _ => true) j) := by
    intro j h1 h2
    have h1' : j < vs.length := by simpa using h1
    have hd : ds[j]? = some (ds[j]'(by have := r.length; omega)) := List.getElem?_eq_getElem _
    obtain ⟨u, hu1, hu2⟩ := r.get hd
    obtain ⟨u', hu1', hu2'⟩ := r'.get hd
    have e1 : vs.toArray[j] = u := by have := List.getElem?_eq_getElem h1'; rw [hu1] at this; simpa using (Option.some.inj this).symm
    have h2' : j < vs'.length := by simpa using h2
    have e2 : vs'.toArray[j] = u' := by have := List.getElem?_eq_getElem h2'; rw [hu1'] at this; simpa using (Option.some.inj this).symm
    rw [e1, e2]
    exact ih _ (hp _ (List.getElem_mem _)) hu2 hu2' hu'
  have k1 := RcAt.tuples (A := A) hl hl' (by omega) el
  rw [all_range (fun _ _ => rfl), hsz] at k1
  simpa using k1
theorem eqAt_same {s : Shared} : ∀ (n : Nat) (d : D), Plain n d → ∀ {A : Around} {W W' : List Addr} {v v' : Value}, Den W s.heap v d → Den W' s.heap v' d → A.units + n + 1 < cLine → EqAt A s v v' true := by
  intro n
  induction n with
  | zero =>
    intro d hp A W W' v v' x y hu
    cases hp with
    | none => cases x; cases y; exact .same _
    | bool b => cases x; cases y; exact .same _
    | int i => cases x with | int _ t => cases y with | int _ u => have := EqAt.int_int (A := A) (s := s) i t i u; rw [beq_self_eq_true] at this; exact this
    | bytes b => cases x with | bytes _ t => cases y with | bytes _ u => have := eqAt_bytes (A := A) (s := s) b b t u; rw [beq_self_eq_true] at this; exact this
  | succ n ih =>
    intro d hp A W W' v v' x y hu
    cases hp with
    | none => cases x; cases y; exact .same _
    | bool b => cases x; cases y; exact .same _
    | int i => cases x with | int _ t => cases y with | int _ u => have := EqAt.int_int (A := A) (s := s) i t i u; rw [beq_self_eq_true] at this; exact this
    | bytes b => cases x with | bytes _ t => cases y with | bytes _ u => have := eqAt_bytes (A := A) (s := s) b b t u; rw [beq_self_eq_true] at this; exact this
    | list hp =>
      rename_i ds
      cases x with
      | list _ hl r =>
      cases y with
      | list _ hl' r' =>
      rename_i a vs _ a' vs' _
      by_cases e : a = a'
      · subst e; exact .same _
      · exact .of_refs e (eqAt_list ih hp hl r hl' r' hu).1
    | tuple hp =>
      rename_i ds
      cases x with
      | tuple _ hl r =>
      cases y with
      | tuple _ hl' r' =>
      rename_i a vs _ a' vs' _
      by_cases e : a = a'
      · subst e; exact .same _
      · exact .of_refs e (eqAt_tuple ih hp hl r hl' r' hu)
section
variable {c : Cx}
/-- a comparison comes out as b -/
structure CmpOk (c : Cx) (op : CmpOp) (d1 d2 : D) (b : Bool) : Prop where
  run : ∀ s E v1 v2, FrD c s → DenT c.W s.heap v1 d1 → DenT c.W s.heap v2 d2 → wpAny c.M c.A (compareOp op v1 v2) (fun v s' => Ext s s' ∧ v = .bool b) E s
theorem J_cmp {l r : PySem.Expr} {op : CmpOp} {pos : Pos} {d1 d2 : D} {b : Bool} (h1 : JT c l d1) (h2 : JT c r d2) (h : CmpOk c op d1 d2 b) (hm : behindInMarks op r = false := by with_unfolding_all rfl) : J c (.Compare l [op] [r] pos) (.bool b) := .mk fun s E F =>
  wpAny_Compare1 (wpAny_mono (h1.run s E F) (fun v1 s₁ ⟨e1, x1⟩ => wpAny_mono (h2.run s₁ E (F.go e1)) (fun v2 s₂ ⟨e2, x2⟩ =>
    wpAny_mono (h.run s₂ E v1 v2 ((F.go e1).go e2) (x1.ext e2) x2) (fun v s₃ ⟨e3, x3⟩ => ⟨(e1.trans e2).trans e3, x3 ▸ .bool b⟩) fun _ _ x => x) fun _ _ x => x) fun _ _ x => x) hm
theorem JB_cmp {l r : PySem.Expr} {op : CmpOp} {pos : Pos} {d1 d2 : D} {b : Bool} (h1 : JT c l d1) (h2 : JT c r d2) (h : CmpOk c op d1 d2 b) (hm : behindInMarks op r = false := by with_unfolding_all rfl) : JB c (.Compare l [op] [r] pos) b := .mk fun s E F =>
  wpAny_isTrue_Compare1 (wpAny_mono (h1.run s E F) (fun v1 s₁ ⟨e1, x1⟩ => wpAny_mono (h2.run s₁ E (F.go e1)) (fun v2 s₂ ⟨e2, x2⟩ =>
    wpAny_mono (h.run s₂ E v1 v2 ((F.go e1).go e2) (x1.ext e2) x2) (fun v s₃ ⟨e3, x3⟩ => x3 ▸ wpAny_truthy_bool ⟨rfl, (e1.trans e2).trans e3⟩) fun _ _ x => x) fun _ _ x => x) fun _ _ x => x) hm
theorem Cmp_eqB {a b : List UInt8} : CmpOk c .Eq (.bytes a) (.bytes b) (a == b) := .mk fun s E v1 v2 F x1 x2 => by
  obtain ⟨t, rfl⟩ := denT_bytes x1
  obtain ⟨u, rfl⟩ := denT_bytes x2
  exact eq_bytes ⟨.refl _, rfl⟩
theorem Cmp_neB {a b : List UInt8} : CmpOk c .NotEq (.bytes a) (.bytes b) (a != b) := .mk fun s E v1 v2 F x1 x2 => by
  obtain ⟨t, rfl⟩ := denT_bytes x1
  obtain ⟨u, rfl⟩ := denT_bytes x2
  exact ne_bytes ⟨.refl _, rfl⟩
theorem Cmp_eqI {a b : Int} : CmpOk c .Eq (.int a) (.int b) (a == b) := .mk fun s E v1 v2 F x1 x2 => by
  obtain ⟨t, rfl⟩ := denT_int x1
  obtain ⟨u, rfl⟩ := denT_int x2
  exact eq_int ⟨.refl _, rfl⟩
theorem Cmp_ltI {a b : Int} : CmpOk c .Lt (.int a) (.int b) (decide (a < b)) := .mk fun s E v1 v2 F x1 x2 => by
  obtain ⟨t, rfl⟩ := denT_int x1
  obtain ⟨u, rfl⟩ := denT_int x2
  exact lt_int ⟨.refl _, rfl⟩
theorem Cmp_neBool {a : Bool} : CmpOk c .NotEq (.bool a) (.bool a) false := .mk fun s E v1 v2 F x1 x2 => by
  have := denT_bool x1; subst this
  have := denT_bool x2; subst this
  have k : RcNeAt c.A s (.bool a) (.bool a) (!(a == a)) := RcNeAt.bool_bool a a
  rw [beq_self_eq_true] at k
  exact k c.prog c.w E _ ⟨.refl _, rfl⟩
theorem Cmp_isNone : CmpOk c .Is .none .none true := .mk fun s E v1 v2 F x1 x2 => by
  have := denT_none x1; subst this
  have := denT_none x2; subst this
  exact is_none_none ⟨.refl _, rfl⟩
theorem Cmp_isNotNone : CmpOk c .IsNot .none .none false := .mk fun s E v1 v2 F x1 x2 => by
  have := denT_none x1; subst this
  have := denT_none x2; subst this
  exact isnot_none_none ⟨.refl _, rfl⟩
theorem Cmp_isNoneB {b : List UInt8} : CmpOk c .Is (.bytes b) .none false := .mk fun s E v1 v2 F x1 x2 => by
  obtain ⟨t, rfl⟩ := denT_bytes x1
  have := denT_none x2; subst this
  exact is_none_ne (by simp) ⟨.refl _, rfl⟩
theorem Cmp_isNotNoneB {b : List UInt8} : CmpOk c .IsNot (.bytes b) .none true := .mk fun s E v1 v2 F x1 x2 => by
  obtain ⟨t, rfl⟩ := denT_bytes x1
  have := denT_none x2; subst this
  exact isnot_none_ne (by simp) ⟨.refl _, rfl⟩
theorem Cmp_isNoneI {b : Int} : CmpOk c .Is (.int b) .none false := .mk fun s E v1 v2 F x1 x2 => by
  obtain ⟨t, rfl⟩ := denT_int x1
  have := denT_none x2; subst this
  exact is_none_ne (by simp) ⟨.refl _, rfl⟩
theorem Cmp_isNotNoneI {b : Int} : CmpOk c .IsNot (.int b) .none true := .mk fun s E v1 v2 F x1 x2 => by
  obtain ⟨t, rfl⟩ := denT_int x1
  have := denT_none x2; subst this
  exact isnot_none_ne (by simp) ⟨.refl _, rfl⟩
theorem Cmp_inB {a : UInt8} {b : List UInt8} (hh : c.A.handled = none) : CmpOk c .In (.bytes [a]) (.bytes b) (idxB a b).isSome := .mk fun s E v1 v2 F x1 x2 => by
  obtain ⟨t, rfl⟩ := denT_bytes x1
  obtain ⟨u, rfl⟩ := denT_bytes x2
  exact in_bytes hh fun s' e => ⟨e, rfl⟩
theorem Cmp_notInB {a : UInt8} {b : List UInt8} (hh : c.A.handled = none) : CmpOk c .NotIn (.bytes [a]) (.bytes b) (!(idxB a b).isSome) := .mk fun s E v1 v2 F x1 x2 => by
  obtain ⟨t, rfl⟩ := denT_bytes x1
  obtain ⟨u, rfl⟩ := denT_bytes x2
  exact notIn_bytes hh fun s' e => ⟨e, rfl⟩
theorem Cmp_notInL {a : List UInt8} {bs : List (List UInt8)} : CmpOk c .NotIn (.bytes a) (.list (bs.map D.bytes)) (!bs.contains a) := .mk fun s E v1 v2 F x1 x2 => by
  obtain ⟨t, rfl⟩ := denT_bytes x1
  obtain ⟨l, vs, rfl, hl, r⟩ := x2
  have key : ∀ (vs : List Value) (bs : List (List UInt8)), DenAll c.W s.heap vs (bs.map D.bytes) → (vs.toArray.any fun v => match v with | .bytes b _ => b.toList == a | _ => false) = bs.contains a := by
    intro vs bs r
    induction bs generalizing vs with
    | nil => cases r; simp
    | cons b bs ih =>
      cases r with
      | cons x r =>
        cases x with
        | bytes _ t =>
          have := ih _ r
          simp only [List.any_toArray, List.any_cons, List.contains_cons] at this ⊢
          rw [this]
          congr 1
          show (b == a) = (a == b)
          exact BEq.comm
  refine notIn_listAt (fun v => match v with | .bytes b _ => b.toList == a | _ => false) hl (fun y hy => ?_) ?_
  · obtain ⟨i, hi, e⟩ := List.mem_iff_getElem.mp (show y ∈ vs by simpa using hy)
    obtain ⟨d, hd, x⟩ := r.getV (k := i) (v := y) (by rw [List.getElem?_eq_getElem hi, e])
    rw [List.getElem?_map] at hd
    cases hb : bs[i]? with
    | none => rw [hb] at hd; cases hd
    | some b =>
      rw [hb] at hd
      cases hd
      cases x with
      | bytes _ u => exact eqAt_bytes b a u t
  · rw [key vs bs r]
    exact ⟨.refl _, rfl⟩
theorem Cmp_neL {n : Nat} {ds : List D} (hp : ∀ d ∈ ds, Plain n d) (hn : n ≤ 10) (hu : c.A.units + 64 < cLine) : CmpOk c .NotEq (.list ds) (.list ds) false := .mk fun s E v1 v2 F x1 x2 => by
  obtain ⟨l, vs, rfl, hl, r⟩ := x1
  obtain ⟨l', vs', rfl, hl', r'⟩ := x2
  exact (eqAt_list (fun d hp => eqAt_same n d hp) hp hl r hl' r' (by omega)).2 c.prog c.w E _ ⟨.refl _, rfl⟩
theorem Cmp_eqL {n : Nat} {ds : List D} (hp : ∀ d ∈ ds, Plain n d) (hn : n ≤ 10) (hu : c.A.units + 64 < cLine) : CmpOk c .Eq (.list ds) (.list ds) true := .mk fun s E v1 v2 F x1 x2 => by
  obtain ⟨l, vs, rfl, hl, r⟩ := x1
  obtain ⟨l', vs', rfl, hl', r'⟩ := x2
  exact (eqAt_list (fun d hp => eqAt_same n d hp) hp hl r hl' r' (by omega)).1 c.prog c.w E _ ⟨.refl _, rfl⟩
theorem Cmp_neLen {ds es : List D} (h : ds.length ≠ es.length) (hu : c.A.units + 64 < cLine) : CmpOk c .NotEq (.list ds) (.list es) true := .mk fun s E v1 v2 F x1 x2 => by
  obtain ⟨l, vs, rfl, hl, r⟩ := x1
  obtain ⟨l', vs', rfl, hl', r'⟩ := x2
  exact RcNeAt.lists_lengths hl hl' (by have := r.length; have := r'.length; simp; omega) (by omega) c.prog c.w E _ ⟨.refl _, rfl⟩
theorem Cmp_eqLen {ds es : List D} (h : ds.length ≠ es.length) (hu : c.A.units + 64 < cLine) : CmpOk c .Eq (.list ds) (.list es) false := .mk fun s E v1 v2 F x1 x2 => by
  obtain ⟨l, vs, rfl, hl, r⟩ := x1
  obtain ⟨l', vs', rfl, hl', r'⟩ := x2
  exact RcAt.lists_lengths hl hl' (by have := r.length; have := r'.length; simp; omega) (by omega) c.prog c.w E _ ⟨.refl _, rfl⟩
end
end Mine
end
section
open PySem PySem.W PyProof.Rows PySem.Calls
set_option Elab.async false
set_option linter.unusedVariables false
set_option maxRecDepth 100000
namespace Mine
theorem type_startswith : typeOf (.builtin "bytes.startswith") = pure (.type "method_descriptor") := by show builtinType _ = _; rw [builtinType_eq_fast]; kernel_rfl
theorem type_endswith : typeOf (.builtin "bytes.endswith") = pure (.type "method_descriptor") := by show builtinType _ = _; rw [builtinType_eq_fast]; kernel_rfl
section
variable {c : Cx}
/-- truth of the data -/
inductive Tr : D → Bool → Prop
  | none : Tr .none false
  | bool (b) : Tr (.bool b) b
  | int (i : Int) : Tr (.int i) (i != 0)
  | bytes (l) : l.length ≤ 16777216 → Tr (.bytes l) (!l.isEmpty)
theorem Tr.run {W : List Addr} {d : D} {b : Bool} (h : Tr d b) {prog : Program} {w : World} {A : Around} {E : Value → Shared → Prop} {s : Shared} {v : Value} (x : DenT W s.heap v d) : wpAny (model prog w) A (truthy v) (fun r s' => r = b ∧ Ext s s') E s := by
  cases h with
  | none => have := denT_none x; subst this; exact truthy_none ⟨rfl, .refl _⟩
  | bool b => have := denT_bool x; subst this; exact wpAny_truthy_bool ⟨rfl, .refl _⟩
  | int i => obtain ⟨t, rfl⟩ := denT_int x; exact PyProof.Rows.truthy_int ⟨rfl, .refl _⟩
  | bytes l hz =>
    obtain ⟨t, rfl⟩ := denT_bytes x
    refine truthy_bytes (by simpa using Nat.le_trans hz (by decide)) ⟨?_, .toks _⟩
    cases l <;> simp; omega
theorem JB_plain {e : PySem.Expr} {d : D} {b : Bool} (h : JT c e d) (ht : Tr d b) (he : ∀ whole, isTrue e c.env whole = (do let v ← whole; standAt e.pos; holding [v] (truthy v)) := by intro _; rfl) : JB c e b := .mk fun s E F =>
  isTrue_plain (wpAny_mono (h.run s E F) (fun v s₁ ⟨e1, x1⟩ => wpAny_mono (ht.run x1) (fun r s₂ ⟨h2, e2⟩ => ⟨h2, e1.trans e2⟩) fun _ _ x => x) fun _ _ x => x) (he _)
theorem JB_not {e : PySem.Expr} {pos : Pos} {b : Bool} (h : JB c e b) : JB c (.UnaryOp .Not e pos) (!b) := .mk fun s E F =>
  isTrue_not (wpAny_mono (h.run s E F) (fun r s₁ ⟨h1, e1⟩ => ⟨by rw [h1], e1⟩) fun _ _ x => x)
theorem JB_and {x y : PySem.Expr} {pos : Pos} {a b : Bool} (h : JB c x a) (k : a = true → JB c y b) : JB c (.BoolOp .And [x, y] pos) (a && b) := .mk fun s E F => by
  refine isTrue_and (wpAny_mono (h.run s E F) (fun r s₁ ⟨h1, e1⟩ => ?_) fun _ _ x => x)
  subst h1
  cases r with
  | false => exact ⟨rfl, e1⟩
  | true => exact isTrue_and (wpAny_mono ((k rfl).run s₁ E (F.go e1)) (fun q s₂ ⟨h2, e2⟩ => by
      subst h2
      cases q with
      | false => exact ⟨rfl, e1.trans e2⟩
      | true => exact isTrue_and_nil ⟨rfl, e1.trans e2⟩) fun _ _ x => x)
theorem JB_or {x y : PySem.Expr} {pos : Pos} {a b : Bool} (h : JB c x a) (k : a = false → JB c y b) : JB c (.BoolOp .Or [x, y] pos) (a || b) := .mk fun s E F => by
  refine isTrue_or (wpAny_mono (h.run s E F) (fun r s₁ ⟨h1, e1⟩ => ?_) fun _ _ x => x)
  subst h1
  cases r with
  | true => exact ⟨rfl, e1⟩
  | false => exact isTrue_or (wpAny_mono ((k rfl).run s₁ E (F.go e1)) (fun q s₂ ⟨h2, e2⟩ => by
      subst h2
      cases q with
      | true => exact ⟨rfl, e1.trans e2⟩
      | false => exact isTrue_or_nil ⟨rfl, e1.trans e2⟩) fun _ _ x => x)
theorem J_ifExp {t x y : PySem.Expr} {pos : Pos} {b : Bool} {d : D} (h : JB c t b) (hx : b = true → J c x d) (hy : b = false → J c y d) : J c (.IfExp t x y pos) d := .mk fun s E F => by
  refine IfExp_ (wpAny_mono (h.run s E F) (fun r s₁ ⟨h1, e1⟩ => ?_) fun _ _ x => x)
  subst h1
  cases r with
  | true => exact wpAny_mono ((hx rfl).run s₁ E (F.go e1)) (fun v s₂ ⟨e2, x2⟩ => ⟨e1.trans e2, x2⟩) fun _ _ x => x
  | false => exact wpAny_mono ((hy rfl).run s₁ E (F.go e1)) (fun v s₂ ⟨e2, x2⟩ => ⟨e1.trans e2, x2⟩) fun _ _ x => x
theorem J_orI {x y : PySem.Expr} {pos : Pos} {i : Int} {d : D} (h : J c x (.int i)) (h1 : i ≠ 0 → d = .int i) (h2 : i = 0 → J c y d) : J c (.BoolOp .Or [x, y] pos) d := .mk fun s E F => by
  refine BoolOp_or (wpAny_mono (h.run s E F) (fun v s₁ ⟨e1, x1⟩ => ?_) fun _ _ x => x)
  obtain ⟨t, rfl⟩ := denT_int x1.top
  refine PyProof.Rows.truthy_int ?_
  by_cases hi : i = 0
  · subst hi
    exact BoolOp_one (wpAny_mono ((h2 rfl).run s₁ E (F.go e1)) (fun v s₂ ⟨e2, x2⟩ => ⟨e1.trans e2, x2⟩) fun _ _ x => x)
  · have e : (i != 0) = true := by simpa using hi
    rw [e]
    exact ⟨e1, h1 hi ▸ x1⟩
/-- a call of a built-in function or type -/
theorem evalArgs_JS {f : Value} {l : List (Bool × Sem Value)} {ds : List D} (h : JS c l ds) (hl : l.all (fun x => !x.1) = true) {s : Shared} {E : Value → Shared → Prop} (F : FrD c s) : wpAny c.M c.A (evalArgs f true l []) (fun a s' => Ext s s' ∧ ∃ vs, a = ⟨vs, []⟩ ∧ DenAll c.W s'.heap vs ds) E s := by
  cases l with
  | nil =>
    unfold evalArgs
    show wpAny _ _ (spliced [] >>= _) _ _ s
    refine wpAny_bind (wpAny_mono (h.run s E F) (fun vs s₁ ⟨e1, x1⟩ => ?_) fun _ _ x => x)
    refine wpAny_bind (wpAny_pure ?_)
    refine wpAny_holding ?_
    exact wpAny_bind (wpAny_pure (wpAny_bind (wpAny_pure (wpAny_pure ⟨e1, vs, rfl, x1⟩))))
  | cons x l =>
    obtain ⟨b, x⟩ := x
    have : b = false := by simpa using (List.all_eq_true.mp hl (b, x) (.head _))
    subst this
    exact evalArgs_plain (wpAny_mono (h.run s E F) (fun vs s₁ ⟨e1, x1⟩ => ⟨e1, vs, rfl, x1⟩) fun _ _ x => x)
theorem any_of_all {l : List (Bool × Sem Value)} (hl : l.all (fun x => !x.1) = true) : l.any (·.1) = false := by
  rw [List.any_eq_false]
  intro x hx
  simpa using List.all_eq_true.mp hl x hx
/-- a method of a built-in type -/
theorem J_method {T id : String} {o : PySem.Expr} {name : Str} {apos pos : Pos} {args : List PySem.Expr} {d0 d : D} {ds : List D}
    (pa : PlainAttrs T) (slot : Slot T name id) (hty : typeOf (.builtin id) = pure (.type "method_descriptor")) (ho : J c o d0)
    (hT : ∀ (s : Shared) (v : Value), DenT c.W s.heap v d0 → s.TypeIs v T ∧ (∀ a, v = .ref a → ∃ ob, s.heap.get? a = some ob ∧ ob.dict = none))
    (ha : JS c (backTo pos (starEach args c.env)) ds)
    (h : ∀ (s : Shared) (E : Value → Shared → Prop) (v : Value) (vs : List Value), FrD c s → DenT c.W s.heap v d0 → DenAll c.W s.heap vs ds → wpAny c.M c.A (call (.builtin id) (v :: vs)) (fun r s' => Ext s s' ∧ Den c.W s'.heap r d) E s)
    (hbase : attributeBase o name c.env (eval o c.env) = eval o c.env := by rfl)
    (hfew : ((backTo pos (starEach args c.env)).all (fun x => !x.1) && (backToKw pos (keywordEach [] c.env)).all (fun x => x.1.isSome)
      && decide (args.length + ([] : List Keyword).length + (if ([] : List Keyword).isEmpty then 0 else 1) < 30)) = true := by rfl)
    (hline : (apos.endLine == pos.line) = true := by rfl) : J c (.Call (.Attribute o name apos) args [] pos) d := .mk fun s E F => by
  have hall : (backTo pos (starEach args c.env)).all (fun x => !x.1) = true := by
    rw [Bool.and_eq_true, Bool.and_eq_true] at hfew
    exact hfew.1.1
  refine PySem.wpAny_Call_method hbase hfew hline pa slot hty (wpAny_mono (ho.run s E F) (fun v s₁ ⟨e1, x1⟩ => ?_) fun _ _ x => x)
  obtain ⟨hT1, hT2⟩ := hT s₁ v x1.top
  refine ⟨hT1, hT2, callWith_builtin (any_of_all hall) ?_⟩
  refine wpAny_mono (evalArgs_JS ha hall (F.go e1)) (fun a s₂ ⟨e2, vs, ea, x2⟩ => ?_) fun _ _ x => x
  subst ea
  exact wpAny_mono (h s₂ E v vs ((F.go e1).go e2) (x1.ext e2).top x2) (fun r s₃ ⟨e3, x3⟩ => ⟨(e1.trans e2).trans e3, x3⟩) fun _ _ x => x
theorem gets_call {T id : String} {name : Str} {B : Builtin} {self : Value} {rest : List Value} {d : D} {prog : Program} {w : World} {A : Around} {E : Value → Shared → Prop} {s : Shared} {W : List Addr} (hW : Live W s.heap)
    (slot : Slot T name id) (hT : s.TypeIs self T) (entry : entryFor table id = some B) (args : argsOk id ⟨self :: rest, []⟩) (g : Gets (B ⟨self :: rest, []⟩) d) :
    wpAny (model prog w) A (call (.builtin id) (self :: rest)) (fun r s' => Ext s s' ∧ Den W s'.heap r d) E s :=
  call_meets slot hT entry args g fun v s' e n => ⟨e, n W hW⟩
theorem bytes_recv {W : List Addr} {b : List UInt8} : ∀ (s : Shared) v, DenT W s.heap v (.bytes b) → s.TypeIs v "bytes" ∧ (∀ a, v = .ref a → ∃ ob, s.heap.get? a = some ob ∧ ob.dict = none) := fun s v x => by
  obtain ⟨t, rfl⟩ := denT_bytes x
  exact ⟨typeIs_bytes _ _ _, fun _ e => nomatch e⟩
theorem denAll1 {W h vs d} (x : DenAll W h vs [d]) : ∃ v, vs = [v] ∧ Den W h v d := by
  cases x with | cons x r => cases r; exact ⟨_, rfl, x⟩
theorem denAll2 {W h vs d e} (x : DenAll W h vs [d, e]) : ∃ v u, vs = [v, u] ∧ Den W h v d ∧ Den W h u e := by
  cases x with | cons x r => cases r with | cons y r => cases r; exact ⟨_, _, rfl, x, y⟩
theorem JS1 {e : PySem.Expr} {pos : Pos} {d : D} (h : J c e d) (hs : starEach [e] c.env = [(false, eval e c.env)] := by rfl) : JS c (backTo pos (starEach [e] c.env)) [d] := by
  rw [hs]; exact JS.cons h JS.nil
theorem JS2 {e f : PySem.Expr} {pos : Pos} {d d' : D} (h : J c e d) (h' : J c f d') (hs : starEach [e, f] c.env = [(false, eval e c.env), (false, eval f c.env)] := by rfl) : JS c (backTo pos (starEach [e, f] c.env)) [d, d'] := by
  rw [hs]; exact JS.cons h (JS.cons h' JS.nil)
section
variable {o e f : PySem.Expr} {apos pos : Pos} {l : List UInt8} {a : UInt8}
theorem J_find (ho : J c o (.bytes l)) (he : J c e (.bytes [a])) (hbase : attributeBase o "find" c.env (eval o c.env) = eval o c.env := by rfl) (hs : starEach [e] c.env = [(false, eval e c.env)] := by rfl)
    (hline : (apos.endLine == pos.line) = true := by rfl) : J c (.Call (.Attribute o "find" apos) [e] [] pos) (.int (match idxB a l with | some i => (i : Int) | none => -1)) :=
  J_method FB.plainAttrs_bytes slot_find type_find ho bytes_recv (JS1 he hs) (fun s E v vs F x xs => by
    obtain ⟨t, rfl⟩ := denT_bytes x
    obtain ⟨u, rfl, y⟩ := denAll1 xs
    obtain ⟨k, rfl⟩ := denT_bytes y.top
    exact gets_call F.live slot_find (typeIs_bytes _ _ _) entry_find (args_find _ _) (gets_find l a t k)) hbase (by rw [hs]; rfl) hline
theorem J_index {i : Nat} (ho : J c o (.bytes l)) (he : J c e (.bytes [a])) (hi : idxB a l = some i) (hbase : attributeBase o "index" c.env (eval o c.env) = eval o c.env := by rfl) (hs : starEach [e] c.env = [(false, eval e c.env)] := by rfl)
    (hline : (apos.endLine == pos.line) = true := by rfl) : J c (.Call (.Attribute o "index" apos) [e] [] pos) (.int i) :=
  J_method FB.plainAttrs_bytes slot_index type_index ho bytes_recv (JS1 he hs) (fun s E v vs F x xs => by
    obtain ⟨t, rfl⟩ := denT_bytes x
    obtain ⟨u, rfl, y⟩ := denAll1 xs
    obtain ⟨k, rfl⟩ := denT_bytes y.top
    exact gets_call F.live slot_index (typeIs_bytes _ _ _) entry_index (args_index _ _) (gets_index l a t k hi)) hbase (by rw [hs]; rfl) hline
theorem J_starts (ho : J c o (.bytes l)) (he : J c e (.bytes [a])) (hbase : attributeBase o "startswith" c.env (eval o c.env) = eval o c.env := by rfl) (hs : starEach [e] c.env = [(false, eval e c.env)] := by rfl)
    (hline : (apos.endLine == pos.line) = true := by rfl) : J c (.Call (.Attribute o "startswith" apos) [e] [] pos) (.bool (l.head? == some a)) :=
  J_method FB.plainAttrs_bytes FB.slot_bytes_startswith type_startswith ho bytes_recv (JS1 he hs) (fun s E v vs F x xs => by
    obtain ⟨t, rfl⟩ := denT_bytes x
    obtain ⟨u, rfl, y⟩ := denAll1 xs
    obtain ⟨k, rfl⟩ := denT_bytes y.top
    exact gets_call F.live FB.slot_bytes_startswith (typeIs_bytes _ _ _) FB.entry_bytes_startswith (FB.args_bytes_startswith_2 _ _) (gets_starts l a t k)) hbase (by rw [hs]; rfl) hline
theorem J_ends (ho : J c o (.bytes l)) (he : J c e (.bytes [a])) (hbase : attributeBase o "endswith" c.env (eval o c.env) = eval o c.env := by rfl) (hs : starEach [e] c.env = [(false, eval e c.env)] := by rfl)
    (hline : (apos.endLine == pos.line) = true := by rfl) : J c (.Call (.Attribute o "endswith" apos) [e] [] pos) (.bool (l.getLast? == some a)) :=
  J_method FB.plainAttrs_bytes FB.slot_bytes_endswith type_endswith ho bytes_recv (JS1 he hs) (fun s E v vs F x xs => by
    obtain ⟨t, rfl⟩ := denT_bytes x
    obtain ⟨u, rfl, y⟩ := denAll1 xs
    obtain ⟨k, rfl⟩ := denT_bytes y.top
    exact gets_call F.live FB.slot_bytes_endswith (typeIs_bytes _ _ _) FB.entry_bytes_endswith (FB.args_bytes_endswith_2 _ _) (gets_ends l a t k)) hbase (by rw [hs]; rfl) hline
theorem J_split (ho : J c o (.bytes l)) (he : J c e (.bytes [a])) (hz : l.length < 16777216) (hbase : attributeBase o "split" c.env (eval o c.env) = eval o c.env := by rfl) (hs : starEach [e] c.env = [(false, eval e c.env)] := by rfl)
    (hline : (apos.endLine == pos.line) = true := by rfl) : J c (.Call (.Attribute o "split" apos) [e] [] pos) (.list ((splitB a l).map D.bytes)) :=
  J_method FB.plainAttrs_bytes slot_split type_split ho bytes_recv (JS1 he hs) (fun s E v vs F x xs => by
    obtain ⟨t, rfl⟩ := denT_bytes x
    obtain ⟨u, rfl, y⟩ := denAll1 xs
    obtain ⟨k, rfl⟩ := denT_bytes y.top
    exact gets_call F.live slot_split (typeIs_bytes _ _ _) entry_split (args_split2 _ _) (gets_split l a t k (by rw [sizeLine_eq]; exact hz))) hbase (by rw [hs]; rfl) hline
theorem J_split1 (ho : J c o (.bytes l)) (he : J c e (.bytes [a])) (hf : J c f (.int 1)) (hz : l.length < 16777216) (hbase : attributeBase o "split" c.env (eval o c.env) = eval o c.env := by rfl)
    (hs : starEach [e, f] c.env = [(false, eval e c.env), (false, eval f c.env)] := by rfl)
    (hline : (apos.endLine == pos.line) = true := by rfl) : J c (.Call (.Attribute o "split" apos) [e, f] [] pos) (.list ((splitOnceB a l).map D.bytes)) :=
  J_method FB.plainAttrs_bytes slot_split type_split ho bytes_recv (JS2 he hf hs) (fun s E v vs F x xs => by
    obtain ⟨t, rfl⟩ := denT_bytes x
    obtain ⟨u, q, rfl, y, z⟩ := denAll2 xs
    obtain ⟨k, rfl⟩ := denT_bytes y.top
    obtain ⟨j, rfl⟩ := denT_int z.top
    exact gets_call F.live slot_split (typeIs_bytes _ _ _) entry_split (args_split3 _ _ _) (gets_split1 l a t k j (by rw [sizeLine_eq]; exact hz))) hbase (by rw [hs]; rfl) hline
theorem J_replace {n : List UInt8} (ho : J c o (.bytes l)) (he : J c e (.bytes [a])) (hf : J c f (.bytes n)) (hz : l.length + (placesB a 0 l).length * n.length ≤ 16777216) (hbase : attributeBase o "replace" c.env (eval o c.env) = eval o c.env := by rfl)
    (hs : starEach [e, f] c.env = [(false, eval e c.env), (false, eval f c.env)] := by rfl)
    (hline : (apos.endLine == pos.line) = true := by rfl) : J c (.Call (.Attribute o "replace" apos) [e, f] [] pos) (.bytes (joinB n (splitB a l))) :=
  J_method FB.plainAttrs_bytes slot_replace type_replace ho bytes_recv (JS2 he hf hs) (fun s E v vs F x xs => by
    obtain ⟨t, rfl⟩ := denT_bytes x
    obtain ⟨u, q, rfl, y, z⟩ := denAll2 xs
    obtain ⟨k, rfl⟩ := denT_bytes y.top
    obtain ⟨j, rfl⟩ := denT_bytes z.top
    exact gets_call F.live slot_replace (typeIs_bytes _ _ _) entry_replace (args_replace _ _ _) (gets_replace l a n t k j hz)) hbase (by rw [hs]; rfl) hline
/-- join of a list or a tuple; the items may be barred at the top -/
theorem call_join {ps : List (List UInt8)} {t : Tok} {v : Value} {W : List Addr} {prog : Program} {w : World} {A : Around} {E : Value → Shared → Prop} {s : Shared} (hW : Live W s.heap) (x : DenT W s.heap v (.list (ps.map D.bytes)) ∨ DenT W s.heap v (.tuple (ps.map D.bytes)))
    (hz : (joinB l ps).length ≤ 16777216) : wpAny (model prog w) A (call (.builtin "bytes.join") [.bytes l.toArray t, v]) (fun r s' => Ext s s' ∧ Den W s'.heap r (.bytes (joinB l ps))) E s := by
  obtain ⟨ad, rfl, hj⟩ : ∃ ad, v = .ref ad ∧ JoinOn s ad ps := by
    rcases x with ⟨ad, vs, rfl, hl, r⟩ | ⟨ad, vs, rfl, hl, r⟩
    · exact ⟨ad, rfl, vs, .inl hl, r.sub (fun _ h => absurd h List.not_mem_nil)⟩
    · exact ⟨ad, rfl, vs, .inr hl, r.sub (fun _ h => absurd h List.not_mem_nil)⟩
  exact call_meets slot_join (typeIs_bytes _ _ _) entry_join (args_join _ _) (meets_join l t ad ps hz) ⟨hj, fun v s' e n => ⟨e, n W hW⟩⟩
theorem J_join {ps : List (List UInt8)} (ho : J c o (.bytes l)) (he : J c e (.list (ps.map D.bytes)) ∨ J c e (.tuple (ps.map D.bytes))) (hz : (joinB l ps).length ≤ 16777216) (hbase : attributeBase o "join" c.env (eval o c.env) = eval o c.env := by rfl)
    (hs : starEach [e] c.env = [(false, eval e c.env)] := by rfl)
    (hline : (apos.endLine == pos.line) = true := by rfl) : J c (.Call (.Attribute o "join" apos) [e] [] pos) (.bytes (joinB l ps)) := by
  rcases he with he | he
  all_goals
    refine J_method FB.plainAttrs_bytes slot_join type_join ho bytes_recv (JS1 he hs) (fun s E v vs F x xs => ?_) hbase (by rw [hs]; rfl) hline
    obtain ⟨t, rfl⟩ := denT_bytes x
    obtain ⟨u, rfl, y⟩ := denAll1 xs
  · exact call_join F.live (.inl y.top) hz
  · exact call_join F.live (.inr y.top) hz
end
end
end Mine
end
section
open PySem PySem.W PyProof.Rows PySem.Calls
set_option Elab.async false
set_option linter.unusedVariables false
set_option maxRecDepth 100000
namespace Mine
section
variable {c : Cx} {K : Frag} {mg mb : Str → Option Value}
theorem g_global {x : Str} {v : Value} {p : Pos} {s : Shared} {E : Value → Shared → Prop} {Q : Value → Shared → Prop} (T : TopH K mg mb c.s₀.heap) (hv : mg x = some v) (F : FrD c s) (h : Q v s)
    (hk : c.sc.kind = .function := by rfl) (hx : c.env.kindOf x = some .globalImplicit := by rfl) (hd : (x == ("__debug__" : Str)) = false := by decide) : wpAny c.M c.A (eval (.Name x p) c.env) Q E s :=
  Name_function_global hk hx (loadGlobal_global (F.top T).g hv h) hd
theorem g_builtin {x : Str} {v : Value} {p : Pos} {s : Shared} {E : Value → Shared → Prop} {Q : Value → Shared → Prop} (T : TopH K mg mb c.s₀.heap) (hm : mg x = none) (hb : bootBuiltins x = some v) (F : FrD c s) (h : Q v s)
    (hn : x ≠ "__name__" := by decide)
    (hk : c.sc.kind = .function := by rfl) (hx : c.env.kindOf x = some .globalImplicit := by rfl) (hd : (x == ("__debug__" : Str)) = false := by decide) : wpAny c.M c.A (eval (.Name x p) c.env) Q E s :=
  Name_function_global hk hx (loadGlobal_builtin (F.top T).g hm (F.top T).b ((F.top T).blt x hn ▸ hb) h) hd
structure IsName (c : Cx) (x : Str) (f : Value) : Prop where
  run : ∀ (s : Shared) (Q E : Value → Shared → Prop) (p : Pos), FrD c s → Q f s → wpAny c.M c.A (eval (.Name x p) c.env) Q E s
theorem IsName.global {x : Str} {v : Value} (T : TopH K mg mb c.s₀.heap) (hv : mg x = some v)
    (hk : c.sc.kind = .function := by rfl) (hx : c.env.kindOf x = some .globalImplicit := by rfl) (hd : (x == ("__debug__" : Str)) = false := by decide) : IsName c x v := .mk fun s Q E p F h => g_global T hv F h hk hx hd
theorem IsName.builtin {x : Str} {v : Value} (T : TopH K mg mb c.s₀.heap) (hm : mg x = none) (hb : bootBuiltins x = some v)
    (hn : x ≠ "__name__" := by decide)
    (hk : c.sc.kind = .function := by rfl) (hx : c.env.kindOf x = some .globalImplicit := by rfl) (hd : (x == ("__debug__" : Str)) = false := by decide) : IsName c x v := .mk fun s Q E p F h => g_builtin T hm hb F h hn hk hx hd
/-- a built-in function or type called with one -/
theorem call1 {x : Str} {f : Value} {e : PySem.Expr} {p pos : Pos} {d : D} {s : Shared} {E Q : Value → Shared → Prop} (F : FrD c s) (hf : IsName c x f) (hk : (∃ id, f = .builtin id) ∨ (∃ T, f = .type T)) (he : JT c e d)
    (h : ∀ (s' : Shared) (v : Value), Ext s s' → FrD c s' → DenT c.W s'.heap v d → wpAny c.M c.A (call f [v]) Q E s')
    (hs : starEach [e] c.env = [(false, eval e c.env)] := by rfl) : wpAny c.M c.A (eval (.Call (.Name x p) [e] [] pos) c.env) Q E s := by
  refine Call_Name1 (hf.run s _ E p F ?_) hs
  have fin : wpAny c.M c.A (evalArgs f true [(false, eval e c.env)] []) (fun a s₁ => wpAny c.M c.A (call f ([] ++ a.pos) a.kw) Q E s₁) E s := by
    refine evalArgs_plain (spliced_cons (wpAny_mono (he.run s E F) (fun v s₁ ⟨e1, x1⟩ => ?_) fun _ _ x => x))
    exact spliced_nil (h s₁ v e1 (F.go e1) x1)
  rcases hk with ⟨id, rfl⟩ | ⟨T, rfl⟩
  · exact callWith_builtin rfl fin
  · exact PyProof.Rows.callWith_type rfl fin
theorem J_call1 {x : Str} {f : Value} {e : PySem.Expr} {p pos : Pos} {d d' : D} (hf : IsName c x f) (hk : (∃ id, f = .builtin id) ∨ (∃ T, f = .type T)) (he : JT c e d)
    (h : ∀ (s : Shared) (E : Value → Shared → Prop) (v : Value), FrD c s → DenT c.W s.heap v d → wpAny c.M c.A (call f [v]) (fun r s' => Ext s s' ∧ Den c.W s'.heap r d') E s)
    (hs : starEach [e] c.env = [(false, eval e c.env)] := by rfl) : J c (.Call (.Name x p) [e] [] pos) d' := .mk fun s E F =>
  call1 F hf hk he (fun s' v e1 F' x => wpAny_mono (h s' E v F' x) (fun r s₂ ⟨e2, x2⟩ => ⟨e1.trans e2, x2⟩) fun _ _ x => x) hs
theorem J_lenL {e : PySem.Expr} {p pos : Pos} {ds : List D} (hf : IsName c "len" (.builtin "len")) (he : JT c e (.list ds)) (hz : ds.length ≤ 16777216) (hs : starEach [e] c.env = [(false, eval e c.env)] := by rfl) : J c (.Call (.Name "len" p) [e] [] pos) (.int ds.length) :=
  J_call1 hf (.inl ⟨_, rfl⟩) he (fun s E v F x => by
    obtain ⟨a, vs, rfl, hl, r⟩ := x
    have hlen := r.length
    refine call_len_list hl (by simp; omega) ⟨.toks _, ?_⟩
    have : (vs.toArray.size : Int) = ds.length := by simp [hlen]
    rw [this]; exact .int _ _) hs
theorem J_lenB {e : PySem.Expr} {p pos : Pos} {l : List UInt8} (hf : IsName c "len" (.builtin "len")) (he : J c e (.bytes l)) (hz : l.length ≤ 16777216) (hs : starEach [e] c.env = [(false, eval e c.env)] := by rfl) : J c (.Call (.Name "len" p) [e] [] pos) (.int l.length) :=
  J_call1 hf (.inl ⟨_, rfl⟩) he.top (fun s E v F x => by
    obtain ⟨t, rfl⟩ := denT_bytes x
    refine len_bytes (by simp; omega) ⟨.toks _, ?_⟩
    rw [List.size_toArray]; exact .int _ _) hs
theorem J_tupleOf {e : PySem.Expr} {p pos : Pos} {ds : List D} (hf : IsName c "tuple" (.type "tuple")) (he : JT c e (.list ds)) (hz : ds.length ≤ 1000) (hs : starEach [e] c.env = [(false, eval e c.env)] := by rfl) : J c (.Call (.Name "tuple" p) [e] [] pos) (.tuple ds) :=
  J_call1 hf (.inr ⟨_, rfl⟩) he (fun s E v F x => by
    obtain ⟨a, vs, rfl, hl, r⟩ := x
    have hlen := r.length
    refine call_tuple_list hl (fun h' hk => ?_) (by rw [sizeLine_eq]; simp; omega)
    have e1 : Ext s { s with heap := h' } := .heap' hk
    exact ⟨e1.trans (.push _), .tuple (F.live.ext e1).next ⟨_, Heap.get?_push_size _ rfl, rfl, 0, rfl⟩ ((r.ext e1).ext (.push _))⟩) hs
theorem J_listOf {e : PySem.Expr} {p pos : Pos} {ds : List D} (hf : IsName c "list" (.type "list")) (he : JT c e (.list ds)) (hz : ds.length ≤ 1000) (hs : starEach [e] c.env = [(false, eval e c.env)] := by rfl) : J c (.Call (.Name "list" p) [e] [] pos) (.list ds) :=
  J_call1 hf (.inr ⟨_, rfl⟩) he (fun s E v F x => by
    obtain ⟨a, vs, rfl, ⟨o, ho, hc, n, hd⟩, r⟩ := x
    have hlen := r.length
    refine call_list_seq (hsz := by rw [sizeLine_eq]; simp; omega) a (.inl rfl) ho hc hd fun h' c' hk hD => ?_
    have e1 : Ext s { s with heap := h' } := .heap' hk
    exact ⟨e1, .list F.live.next ⟨_, hD, rfl, c', rfl⟩ (r.ext e1)⟩) hs
theorem intsOf {W h vs} : ∀ {is : List Int}, DenAll W h vs (is.map D.int) → ∃ xs : List (Int × Tok), vs.toArray = intItems xs.toArray ∧ xs.map (·.1) = is := by
  intro is
  induction is generalizing vs with
  | nil => intro x; cases x; exact ⟨[], by simp [intItems], rfl⟩
  | cons i is ih =>
    intro x
    cases x with
    | cons x r =>
      cases x with
      | int _ t =>
        obtain ⟨xs, e1, e2⟩ := ih r
        refine ⟨(i, t) :: xs, ?_, by simp [e2]⟩
        simp [intItems] at e1 ⊢
        exact e1
theorem preSum_take (xs : List (Int × Tok)) : ∀ j, j ≤ xs.length → preSum (numAt xs.toArray) j = ((xs.map (·.1)).take j).sum
  | 0, _ => by simp [preSum]
  | j + 1, h => by
    rw [preSum, preSum_take xs j (by omega), List.take_add_one]
    have : (xs.map (·.1))[j]? = some (numAt xs.toArray j) := by
      simp [numAt, List.getElem?_eq_getElem (show j < xs.length by omega)]
    rw [this]
    simp
theorem J_sum {e : PySem.Expr} {p pos : Pos} {is : List Int} (hh : c.A.handled = none) (hf : IsName c "sum" (.builtin "sum")) (he : JT c e (.list (is.map D.int))) (hb : ∀ i ∈ is, 0 ≤ i ∧ i < 2 ^ 50) (hz : is.length ≤ 64) (hs : starEach [e] c.env = [(false, eval e c.env)] := by rfl) : J c (.Call (.Name "sum" p) [e] [] pos) (.int is.sum) :=
  J_call1 hf (.inl ⟨_, rfl⟩) he (fun s E v F x => by
    obtain ⟨a, vs, rfl, hl, r⟩ := x
    obtain ⟨xs, e1, e2⟩ := intsOf r
    rw [e1] at hl
    have bd : ∀ (l : List Int), (∀ i ∈ l, 0 ≤ i ∧ i < 2 ^ 50) → 0 ≤ l.sum ∧ l.sum ≤ l.length * 2 ^ 50 := by
      intro l
      induction l with
      | nil => intro _; simp
      | cons i l ih => intro h; have := ih fun j hj => h j (.tail _ hj); have := h i (.head _); simp only [List.sum_cons, List.length_cons]; omega
    have hlx : xs.length = is.length := by rw [← e2]; simp
    refine sum_intList hh hl (fun j hj => ?_) fun h' tk t' hk => ?_
    · have hj' : j < xs.length := by simpa using hj
      have hm : numAt xs.toArray j ∈ is := by
        rw [← e2]
        simp [numAt, List.getElem?_eq_getElem hj']
        exact ⟨_, List.getElem_mem hj'⟩
      have b1 := hb _ hm
      rw [preSum_take xs (j + 1) (by omega), e2]
      have b2 := bd (is.take (j + 1)) fun i hi => hb i (List.mem_of_mem_take hi)
      have b3 : (is.take (j + 1)).length ≤ 64 := by simp; omega
      unfold InLong
      omega
    · have : preSum (numAt xs.toArray) xs.toArray.size = is.sum := by
        rw [List.size_toArray, preSum_take xs _ (Nat.le_refl _), e2, hlx, List.take_length]
      rw [this]
      exact ⟨.heap _ hk, .int _ _⟩) hs
/-- a call of a def of the text's -/
theorem J_callF {x : Str} {f : Addr} {args : List PySem.Expr} {p pos : Pos} {ds : List D} {d : D} {o : Obj} {fd : FuncData} (hf : IsName c x (.ref f)) (ha : JS c (backTo pos (starEach args c.env)) ds) (hall : (backTo pos (starEach args c.env)).all (fun x => !x.1) = true)
    (ho : c.s₀.heap.get? f = some o) (hd : o.data = .func fd)
    (h : ∀ (s : Shared) (vs : List Value) (R : Result → Shared → Prop), FrD c s → DenAll c.W s.heap vs ds → (∀ v s', Ext s s' → Den c.W s'.heap v d → R (.ok (.ret v)) s') → codeAny c.M c.A (.call (.ref f) ⟨vs, []⟩) R s) :
    J c (.Call (.Name x p) args [] pos) d := .mk fun s E F => by
  refine Call_Name rfl (hf.run s _ E p F ?_)
  refine callWith_function (o := o) (fd := fd) (wpAny_mono (evalArgs_JS ha hall F) (fun a s₁ ⟨e1, vs, ea, x1⟩ => ?_) fun _ _ x => x)
  subst ea
  refine ⟨⟨e1.keep _ _ (F.ext.keep _ _ ho), hd⟩, wpAny_call (h s₁ vs _ (F.go e1) x1 fun v s' e2 x2 => ⟨e1.trans e2, x2⟩)⟩
end
end Mine
end
section
open PySem PySem.W PyProof.Rows PySem.Calls
set_option Elab.async false
set_option linter.unusedVariables false
set_option maxRecDepth 100000
namespace Mine
section
variable {c : Cx} {s : Shared}
theorem ns_notList {h : Heap} {L a : Addr} {m : Str → Option Value} {vs n} (x : h.Ns L m) (y : h.get? a = some (listOf vs n)) : a ≠ L := by
  rintro rfl
  obtain ⟨o, es, ep, ho, hd, _⟩ := x
  rw [ho] at y
  cases y
  cases hd
theorem free_of {c : Cx} {b : Addr} (h : c.s₀.heap.get? b = none ∧ ¬ c.lo b) : Free c b := ⟨h.1, .inl h.2⟩
theorem tl_change {h h' : Heap} {a b : Addr} (x : ∃ o, h.get? a = some o) (hs : ∀ a o, a ≠ b → h.get? a = some o → h'.get? a = some o) (hl : ∃ o, h'.get? b = some o) : ∃ o, h'.get? a = some o := by
  by_cases e : a = b
  · subst e; exact hl
  · obtain ⟨o, ho⟩ := x; exact ⟨o, hs a o e ho⟩
theorem Free.ne {c : Cx} {b a : Addr} {o : Obj} (h : Free c b) (e : c.s₀.heap.get? a = some o) : a ≠ b := fun q => by rw [q, h.1] at e; cases e
theorem Free.prot {c : Cx} {b : Addr} {o : Obj} (h : Free c b) (ht : NT o) : ¬ Prot c b o := fun p => by
  rcases p with ⟨h1, h2, _⟩ | h1
  · rcases h.2 with h3 | h3
    · exact h3 h1
    · exact h2 h3
  · exact ht h1
theorem FrD.krc {h' : Heap} {b : Addr} (F : FrD c s) (hb : ∀ o, s.heap.get? b = some o → ¬ Prot c b o) (hs : ∀ a o, a ≠ b → s.heap.get? a = some o → h'.get? a = some o) : ∀ a o, Prot c a o → c.s₁.heap.get? a = some o → h'.get? a = some o := fun a o hp e => by
  have e2 := F.kr a o hp e
  by_cases q : a = b
  · subst q; exact absurd hp (hb o e2)
  · exact hs a o q e2
theorem FrD.protL {m : Str → Option Value} (hm : Fr c.s₀.heap c.L s.heap m) : ∀ o, s.heap.get? c.L = some o → ¬ Prot c c.L o := fun o ho p => by
  rcases p with ⟨_, _, h1⟩ | ⟨_, i, n, hd⟩
  · exact h1 rfl
  · obtain ⟨o', es, ep, ho', hd', _⟩ := hm.ns
    rw [ho] at ho'
    cases ho'
    rw [hd] at hd'
    cases hd'
theorem FrD.weaken {μ' : Mu} (F : FrD c s) (h : ∀ x e, μ' x = some e → c.μ x = some e) : FrD (c.mu μ') s :=
  ⟨let ⟨m, h1, h2⟩ := F.fr; ⟨m, h1, fun x e hx => h2 x e (h x e hx)⟩, fun x y a ds es h1 h2 => F.inj x y a ds es (h _ _ h1) (h _ _ h2), fun x a ds h1 => F.new x a ds (h _ _ h1), F.tl, F.lw, F.live, F.ext, fun p hp => let ⟨a, b, d, e, t, f⟩ := F.hh p hp; ⟨a, b, d, e, t, f⟩, F.vv, F.gg, F.kr⟩
theorem Ext.change {s₀ s : Shared} {h' : Heap} {b : Addr} (x : Ext s₀ s) (tk : Nat) (hn : s₀.heap.get? b = none) (hs : ∀ a o, a ≠ b → s.heap.get? a = some o → h'.get? a = some o) : Ext s₀ { s with heap := h', toks := tk } :=
  ⟨fun a o e => hs a o (fun q => by rw [q, hn] at e; cases e) (x.keep a o e), x.os, x.gens, x.bare⟩
theorem Live.change {W : List Addr} {h h' : Heap} {b : Addr} (x : Live W h) (hs : ∀ a o, a ≠ b → h.get? a = some o → h'.get? a = some o) (hl : ∃ o, h'.get? b = some o) : Live W h' := fun a ha => by
  by_cases e : a = b
  · subst e; exact hl
  · obtain ⟨o, ho⟩ := x a ha; exact ⟨o, hs a o e ho⟩
theorem Kb.change {W : List Addr} {h h' : Heap} {b : Addr} (hb : b ∈ W) (hs : ∀ a o, a ≠ b → h.get? a = some o → h'.get? a = some o) : Kb W h h' := fun a o ha e => hs a o (fun q => ha (q ▸ hb)) e
theorem Heap.SameBut.to {h h' : Heap} {b : Addr} (x : Heap.SameBut b h h') : ∀ a o, a ≠ b → h.get? a = some o → h'.get? a = some o := fun a o n e => (x.2 a n).trans e
/-- a name is bound anew -/
theorem FrD.store {h' : Heap} {tk : Nat} {x : Str} {v : Value} {d : D} {m : Str → Option Value} (F : FrD c s) (hm : Fr c.s₀.heap c.L s.heap m) (hμ : ∀ y e, c.μ y = some e → ∃ v, m y = some v ∧ EntIn c.W s.heap v e)
    (hn : h'.Ns c.L (fun y => if y = x then some v else m y)) (hs : Heap.SameBut c.L s.heap h') (hd : Den c.W s.heap v d) : FrD (c.up x (some (.val d))) { s with heap := h', toks := tk } := by
  have k : Kb c.W s.heap h' := Kb.change F.lw (Heap.SameBut.to hs)
  have hl : ∃ o, h'.get? c.L = some o := let ⟨o, _, _, ho, _⟩ := hn; ⟨o, ho⟩
  refine ⟨⟨_, hm.set hn hs, fun y e hy => ?_⟩, fun y z a ds es h1 h2 => ?_, fun y a ds h1 => ?_, ⟨tl_change F.tl.1 (Heap.SameBut.to hs) hl, fun b hb => (F.tl.2 b hb).imp id fun h => tl_change h (Heap.SameBut.to hs) hl⟩, F.lw, F.live.change (Heap.SameBut.to hs) hl, F.ext.change tk (Heap.get?_none_of_le hm.above) (Heap.SameBut.to hs), fun p hp => let ⟨a, b, d, e, t, f⟩ := F.hh p hp; ⟨a, b, d, e, t, Heap.SameBut.to hs _ _ d f⟩, fun q hq => (F.vv q hq).kb k, F.gg, F.krc (FrD.protL hm) (Heap.SameBut.to hs)⟩
  · simp only [Cx.up, upd] at hy
    by_cases e1 : y = x
    · rw [if_pos e1] at hy
      cases hy
      exact ⟨v, by simp [e1], hd.kb k⟩
    · rw [if_neg e1] at hy
      obtain ⟨u, hu, he⟩ := hμ y e hy
      refine ⟨u, by simp [e1, hu], ?_⟩
      cases e with
      | val d => exact Den.kb k he
      | own a ds =>
        obtain ⟨r1, r2, vs, n, r3, r4⟩ := he
        exact ⟨r1, r2, vs, n, Heap.SameBut.to hs a _ (ns_notList hm.ns r3) r3, r4.kb k⟩
  · simp only [Cx.up, upd] at h1 h2
    split at h1
    · cases h1
    · split at h2
      · cases h2
      · exact F.inj _ _ _ _ _ h1 h2
  · simp only [Cx.up, upd] at h1
    split at h1
    · cases h1
    · exact F.new _ _ _ h1
/-- an own list is altered -/
theorem FrD.ownSet {h' : Heap} {tk : Nat} {x : Str} {a : Addr} {ds ds' : List D} {vs' : List Value} {n' : Nat} (F : FrD c s) (hx : c.μ x = some (.own a ds)) (hs : ∀ b o, b ≠ a → s.heap.get? b = some o → h'.get? b = some o)
    (ho : h'.get? a = some (listOf vs'.toArray n')) (hd : DenAll c.W s.heap vs' ds') : FrD (c.up x (some (.own a ds'))) { s with heap := h', toks := tk } := by
  obtain ⟨m, hm, hμ⟩ := F.fr
  obtain ⟨v, hv, rfl, hw, vs, n, hol, _⟩ := hμ x _ hx
  have haL : c.L ≠ a := (ns_notList hm.ns hol).symm
  have k : Kb c.W s.heap h' := Kb.change hw hs
  refine ⟨⟨m, ⟨let ⟨o, es, ep, h1, r⟩ := hm.ns; ⟨o, es, ep, hs _ _ haL h1, r⟩, fun b o e => hs b o (Free.ne (c := c) (free_of (F.new x a ds hx)) e) (hm.keep b o e), hm.above⟩, fun y e hy => ?_⟩, fun y z b es fs h1 h2 => ?_, fun y b es h1 => ?_, ⟨tl_change F.tl.1 hs ⟨_, ho⟩, fun b hb => (F.tl.2 b hb).imp id fun h => tl_change h hs ⟨_, ho⟩⟩, F.lw, F.live.change hs ⟨_, ho⟩, F.ext.change tk ((F.new x a ds hx).1) hs, fun p hp => let ⟨a1, b, d, e, t, f⟩ := F.hh p hp; ⟨a1, b, d, e, t, hs _ _ (fun q => e _ _ (by rw [q, hol] at f; exact (Option.some.inj f).symm)) f⟩, fun q hq => (F.vv q hq).kb k, F.gg, F.krc (fun o h1 => by rw [hol] at h1; cases h1; exact (free_of (F.new x a ds hx)).prot (.of (by show Value.type "list" ≠ Value.type "tuple"; decide))) hs⟩
  · simp only [Cx.up, upd] at hy
    by_cases e1 : y = x
    · rw [if_pos e1] at hy
      cases hy
      exact ⟨_, e1 ▸ hv, rfl, hw, vs', n', ho, hd.kb k⟩
    · rw [if_neg e1] at hy
      obtain ⟨u, hu, he⟩ := hμ y e hy
      refine ⟨u, hu, ?_⟩
      cases e with
      | val d => exact Den.kb k he
      | own b es =>
        obtain ⟨r1, r2, us, j, r3, r4⟩ := he
        have hb : b ≠ a := fun q => by subst q; exact e1 (F.inj _ _ _ _ _ hy hx)
        exact ⟨r1, r2, us, j, hs b _ hb r3, r4.kb k⟩
  · simp only [Cx.up, upd] at h1 h2
    by_cases e1 : y = x
    · by_cases e2 : z = x
      · rw [e1, e2]
      · rw [if_pos e1] at h1; rw [if_neg e2] at h2; cases h1
        exact e1 ▸ F.inj _ _ _ _ _ hx h2
    · by_cases e2 : z = x
      · rw [if_neg e1] at h1; rw [if_pos e2] at h2; cases h2
        exact e2 ▸ F.inj _ _ _ _ _ h1 hx
      · rw [if_neg e1] at h1; rw [if_neg e2] at h2
        exact F.inj _ _ _ _ _ h1 h2
  · simp only [Cx.up, upd] at h1
    by_cases e1 : y = x
    · rw [if_pos e1] at h1; cases h1; exact F.new x a ds hx
    · rw [if_neg e1] at h1; exact F.new _ _ _ h1
/-- a private object that no name bears is altered -/
theorem FrD.touch {h' : Heap} {tk : Nat} {b : Addr} {ob : Obj} (F : FrD c s) (hb : b ∈ c.W) (hn : Free c b) (hL : b ≠ c.L) (hg : s.heap.get? b = some ob) (hl : NL ob) (ht : NT ob)
    (hH : ∀ p ∈ c.H, p.1 ≠ b) (hs : ∀ a o, a ≠ b → s.heap.get? a = some o → h'.get? a = some o) (ho : ∃ o, h'.get? b = some o) : FrD c { s with heap := h', toks := tk } := by
  obtain ⟨m, hm, hμ⟩ := F.fr
  have k : Kb c.W s.heap h' := Kb.change hb hs
  refine ⟨⟨m, ⟨let ⟨o, es, ep, h1, r⟩ := hm.ns; ⟨o, es, ep, hs _ _ hL.symm h1, r⟩, fun a o e => hs a o (Free.ne hn e) (hm.keep a o e), hm.above⟩, fun y e hy => ?_⟩, F.inj, F.new, ⟨tl_change F.tl.1 hs ho, fun b hb => (F.tl.2 b hb).imp id fun h => tl_change h hs ho⟩, F.lw, F.live.change hs ho, F.ext.change tk hn.1 hs, fun p hp => let ⟨a1, b1, d, e, t, f⟩ := F.hh p hp; ⟨a1, b1, d, e, t, hs _ _ (fun q => hH p hp q) f⟩, fun q hq => (F.vv q hq).kb k, F.gg, F.krc (fun o h1 => by rw [hg] at h1; cases h1; exact hn.prot ht) hs⟩
  obtain ⟨u, hu, he⟩ := hμ y e hy
  refine ⟨u, hu, ?_⟩
  cases e with
  | val d => exact Den.kb k he
  | own a es =>
    obtain ⟨r1, r2, us, j, r3, r4⟩ := he
    have hab : a ≠ b := fun q => by subst q; rw [hg] at r3; exact hl _ _ (Option.some.inj r3)
    exact ⟨r1, r2, us, j, hs a _ hab r3, r4.kb k⟩
/-- a fresh object is barred -/
theorem FrD.barNew {s' : Shared} {b : Addr} (F : FrD c s) (e : Ext s s') (hb : s.heap.get? b = none) (hl : ∃ o, s'.heap.get? b = some o) : FrD { c with W := b :: c.W } s' := by
  obtain ⟨m, hm, hμ⟩ := F.fr
  have bar : ∀ a ∈ b :: c.W, a ∉ c.W → s.heap.get? a = none := fun a ha hn => by
    rcases List.mem_cons.mp ha with rfl | h
    · exact hb
    · exact absurd h hn
  refine ⟨⟨m, hm.keptAll e.keep, fun y en hy => ?_⟩, F.inj, F.new, ⟨let ⟨o, h⟩ := F.tl.1; ⟨o, e.keep _ _ h⟩, fun b hb => (F.tl.2 b hb).imp id fun ⟨o, h⟩ => ⟨o, e.keep _ _ h⟩⟩, .tail _ F.lw, fun a ha => ?_, F.ext.trans e, fun p hp => let ⟨a1, b1, d, e1, t, f⟩ := F.hh p hp; ⟨.tail _ a1, b1, d, e1, t, e.keep _ _ f⟩, fun q hq => (Den.bar bar (F.vv q hq)).ext e, fun p hp => e.gens _ _ (F.gg p hp), fun b o h1 h2 => e.keep _ _ (F.kr b o h1 h2)⟩
  · obtain ⟨u, hu, he⟩ := hμ y en hy
    refine ⟨u, hu, ?_⟩
    cases en with
    | val d => exact (Den.bar bar he).ext e
    | own a es =>
      obtain ⟨r1, r2, us, j, r3, r4⟩ := he
      exact ⟨r1, .tail _ r2, us, j, e.keep _ _ r3, (DenAll.bar bar r4).ext e⟩
  · rcases List.mem_cons.mp ha with rfl | h
    · exact hl
    · exact F.live.ext e a h
/-- fewer are barred -/
theorem FrD.sub {W' : List Addr} (F : FrD c s) (h : ∀ a ∈ W', a ∈ c.W) (hL : c.L ∈ W') (ho : ∀ x a ds, c.μ x = some (.own a ds) → a ∈ W') (hH : ∀ p ∈ c.H, p.1 ∈ W') : FrD { c with W := W' } s := by
  obtain ⟨m, hm, hμ⟩ := F.fr
  refine ⟨⟨m, hm, fun y en hy => ?_⟩, F.inj, F.new, F.tl, hL, fun a ha => F.live a (h a ha), F.ext, fun p hp => let ⟨a1, b1, d, e1, t, f⟩ := F.hh p hp; ⟨hH p hp, b1, d, e1, t, f⟩, fun q hq => (F.vv q hq).sub h, F.gg, F.kr⟩
  obtain ⟨u, hu, he⟩ := hμ y en hy
  refine ⟨u, hu, ?_⟩
  cases en with
  | val d => exact he.sub h
  | own a es =>
    obtain ⟨r1, r2, us, j, r3, r4⟩ := he
    exact ⟨r1, ho y a es hy, us, j, r3, r4.sub h⟩
/-- an own list becomes a plain one: nothing alters it any more -/
theorem FrD.disown {x : Str} {a : Addr} {ds : List D} {W' : List Addr} (F : FrD c s) (hx : c.μ x = some (.own a ds)) (h : ∀ b ∈ W', b ∈ c.W) (hL : c.L ∈ W') (ha : a ∉ W') (ho : ∀ y b es, y ≠ x → c.μ y = some (.own b es) → b ∈ W') (hH : ∀ p ∈ c.H, p.1 ∈ W') :
    FrD { c with W := W', μ := upd c.μ x (some (.val (.list ds))) } s := by
  obtain ⟨m, hm, hμ⟩ := F.fr
  refine ⟨⟨m, hm, fun y en hy => ?_⟩, fun y z b es fs h1 h2 => ?_, fun y b es h1 => ?_, F.tl, hL, fun a ha => F.live a (h a ha), F.ext, fun p hp => let ⟨a1, b1, d, e1, t, f⟩ := F.hh p hp; ⟨hH p hp, b1, d, e1, t, f⟩, fun q hq => (F.vv q hq).sub h, F.gg, F.kr⟩
  · simp only [Cx.up, upd] at hy
    by_cases e1 : y = x
    · rw [if_pos e1] at hy
      cases hy
      obtain ⟨v, hv, rfl, hw, vs, n, hol, r⟩ := hμ x _ hx
      exact ⟨_, e1 ▸ hv, .list ha ⟨_, hol, rfl, n, rfl⟩ (r.sub h)⟩
    · rw [if_neg e1] at hy
      obtain ⟨u, hu, he⟩ := hμ y en hy
      refine ⟨u, hu, ?_⟩
      cases en with
      | val d => exact he.sub h
      | own b es =>
        obtain ⟨r1, r2, us, j, r3, r4⟩ := he
        exact ⟨r1, ho y b es e1 hy, us, j, r3, r4.sub h⟩
  · simp only [Cx.up, upd] at h1 h2
    split at h1
    · cases h1
    · split at h2
      · cases h2
      · exact F.inj _ _ _ _ _ h1 h2
  · simp only [Cx.up, upd] at h1
    split at h1
    · cases h1
    · exact F.new _ _ _ h1
/-- a name is bound to a fresh own list -/
theorem FrD.storeOwn {h' : Heap} {tk : Nat} {x : Str} {a : Addr} {ds : List D} {vs : List Value} {n : Nat} {m : Str → Option Value} (F : FrD c s) (hm : Fr c.s₀.heap c.L s.heap m) (hμ : ∀ y e, c.μ y = some e → ∃ v, m y = some v ∧ EntIn c.W s.heap v e)
    (hn : h'.Ns c.L (fun y => if y = x then some (.ref a) else m y)) (hs : Heap.SameBut c.L s.heap h') (ha : a ∈ c.W) (hge : c.s₀.heap.get? a = none ∧ ¬ c.lo a) (hno : ∀ y es, c.μ y ≠ some (.own a es)) (ho : s.heap.get? a = some (listOf vs.toArray n)) (hd : DenAll c.W s.heap vs ds) :
    FrD (c.up x (some (.own a ds))) { s with heap := h', toks := tk } := by
  have k : Kb c.W s.heap h' := Kb.change F.lw (Heap.SameBut.to hs)
  have hl : ∃ o, h'.get? c.L = some o := let ⟨o, _, _, ho, _⟩ := hn; ⟨o, ho⟩
  refine ⟨⟨_, hm.set hn hs, fun y e hy => ?_⟩, fun y z b es fs h1 h2 => ?_, fun y b es h1 => ?_, ⟨tl_change F.tl.1 (Heap.SameBut.to hs) hl, fun b hb => (F.tl.2 b hb).imp id fun h => tl_change h (Heap.SameBut.to hs) hl⟩, F.lw, F.live.change (Heap.SameBut.to hs) hl, F.ext.change tk (Heap.get?_none_of_le hm.above) (Heap.SameBut.to hs), fun p hp => let ⟨a, b, d, e, t, f⟩ := F.hh p hp; ⟨a, b, d, e, t, Heap.SameBut.to hs _ _ d f⟩, fun q hq => (F.vv q hq).kb k, F.gg, F.krc (FrD.protL hm) (Heap.SameBut.to hs)⟩
  · simp only [Cx.up, upd] at hy
    by_cases e1 : y = x
    · rw [if_pos e1] at hy
      cases hy
      exact ⟨_, by simp [e1], rfl, ha, vs, n, Heap.SameBut.to hs a _ (ns_notList hm.ns ho) ho, hd.kb k⟩
    · rw [if_neg e1] at hy
      obtain ⟨u, hu, he⟩ := hμ y e hy
      refine ⟨u, by simp [e1, hu], ?_⟩
      cases e with
      | val d => exact Den.kb k he
      | own a ds =>
        obtain ⟨r1, r2, vs, n, r3, r4⟩ := he
        exact ⟨r1, r2, vs, n, Heap.SameBut.to hs a _ (ns_notList hm.ns r3) r3, r4.kb k⟩
  · simp only [Cx.up, upd] at h1 h2
    by_cases e1 : y = x
    · by_cases e2 : z = x
      · rw [e1, e2]
      · rw [if_pos e1] at h1; rw [if_neg e2] at h2; cases h1
        exact absurd h2 (hno _ _)
    · by_cases e2 : z = x
      · rw [if_neg e1] at h1; rw [if_pos e2] at h2; cases h2
        exact absurd h1 (hno _ _)
      · rw [if_neg e1] at h1; rw [if_neg e2] at h2
        exact F.inj _ _ _ _ _ h1 h2
  · simp only [Cx.up, upd] at h1
    by_cases e1 : y = x
    · rw [if_pos e1] at h1; cases h1; exact hge
    · rw [if_neg e1] at h1; exact F.new _ _ _ h1
/-- a fresh object is held -/
theorem FrD.hold {s' : Shared} {b : Addr} {o : Obj} (F : FrD c s) (e : Ext s s') (hb : s.heap.get? b = none) (hl : s'.heap.get? b = some o) (ho : o.cls ≠ .type "list") (ht : o.cls ≠ .type "tuple") (hL : b ≠ c.L) (hn : c.s₀.heap.get? b = none ∧ ¬ c.lo b) : FrD { c with W := b :: c.W, H := (b, o) :: c.H } s' := by
  have F1 := F.barNew e hb ⟨o, hl⟩
  refine ⟨F1.fr, F1.inj, F1.new, F1.tl, F1.lw, F1.live, F1.ext, fun p hp => ?_, F1.vv, F1.gg, F1.kr⟩
  rcases List.mem_cons.mp hp with rfl | hp
  · exact ⟨.head _, free_of hn, hL, .of ho, .of ht, hl⟩
  · exact let ⟨a1, b1, d, e1, t, f⟩ := F1.hh p hp; ⟨a1, b1, d, e1, t, f⟩
/-- a held object is altered -/
theorem FrD.reheld {h' : Heap} {tk : Nat} {b : Addr} {o o' : Obj} {H : List (Addr × Obj)} (F : FrD { c with H := (b, o) :: H } s) (hnot : ∀ p ∈ H, p.1 ≠ b) (hs : ∀ a o, a ≠ b → s.heap.get? a = some o → h'.get? a = some o) (ho : h'.get? b = some o') (hc : o'.cls ≠ .type "list") (hct : o'.cls ≠ .type "tuple") :
    FrD { c with H := (b, o') :: H } { s with heap := h', toks := tk } := by
  have hb := F.hh (b, o) (.head _)
  have F1 : FrD { c with H := H } s := ⟨F.fr, F.inj, F.new, F.tl, F.lw, F.live, F.ext, fun p hp => let ⟨a1, b1, d, e1, t, f⟩ := F.hh p (.tail _ hp); ⟨a1, b1, d, e1, t, f⟩, F.vv, F.gg, F.kr⟩
  have F2 := F1.touch (tk := tk) (h' := h') hb.w hb.n hb.l hb.g hb.c hb.t hnot hs ⟨_, ho⟩
  refine ⟨F2.fr, F2.inj, F2.new, F2.tl, F2.lw, F2.live, F2.ext, fun p hp => ?_, F2.vv, F2.gg, F2.kr⟩
  rcases List.mem_cons.mp hp with rfl | hp
  · exact ⟨hb.w, hb.n, hb.l, .of hc, .of hct, ho⟩
  · exact let ⟨a1, b1, d, e1, t, f⟩ := F2.hh p hp; ⟨a1, b1, d, e1, t, f⟩
theorem FrD.dropH {H : List (Addr × Obj)} (F : FrD c s) (h : ∀ p ∈ H, p ∈ c.H) : FrD { c with H := H } s := ⟨F.fr, F.inj, F.new, F.tl, F.lw, F.live, F.ext, fun p hp => let ⟨a1, b1, d, e1, t, f⟩ := F.hh p (h p hp); ⟨a1, b1, d, e1, t, f⟩, F.vv, F.gg, F.kr⟩
theorem FrD.addV {v : Value} {d : D} (F : FrD c s) (h : Den c.W s.heap v d) : FrD { c with V := (v, d) :: c.V } s := ⟨F.fr, F.inj, F.new, F.tl, F.lw, F.live, F.ext, fun p hp => let ⟨a1, b1, d, e1, t, f⟩ := F.hh p hp; ⟨a1, b1, d, e1, t, f⟩, fun q hq => by
  rcases List.mem_cons.mp hq with rfl | hq
  · exact h
  · exact F.vv q hq, F.gg, F.kr⟩
theorem FrD.dropV {V : List (Value × D)} (F : FrD c s) (h : ∀ p ∈ V, p ∈ c.V) : FrD { c with V := V } s := ⟨F.fr, F.inj, F.new, F.tl, F.lw, F.live, F.ext, fun p hp => let ⟨a1, b1, d, e1, t, f⟩ := F.hh p hp; ⟨a1, b1, d, e1, t, f⟩, fun q hq => F.vv q (h q hq), F.gg, F.kr⟩
/-- a barred object is given up -/
theorem FrD.forget {h' : Heap} {tk : Nat} {b : Addr} {ob : Obj} (F : FrD { c with W := b :: c.W } s) (hob : s.heap.get? b = some ob) (hcl' : ob.cls ≠ .type "list") (hct' : ob.cls ≠ .type "tuple") (hbL : b ≠ c.L) (hH : ∀ p ∈ c.H, p.1 ≠ b) (hn : Free c b)
    (hs : ∀ a o, a ≠ b → s.heap.get? a = some o → h'.get? a = some o) (hW : c.L ∈ c.W) (hbW : b ∉ c.W) (hbt : b ≠ c.top) (hblo : ¬ c.lo b) : FrD c { s with heap := h', toks := tk } := by
  obtain ⟨m, hm, hμ⟩ := F.fr
  have hcl : NL ob := .of hcl'
  have hct : NT ob := .of hct'
  have k : Kb (b :: c.W) s.heap h' := Kb.change (.head _) hs
  have sb : ∀ a ∈ c.W, a ∈ b :: c.W := fun a ha => .tail _ ha
  refine ⟨⟨m, ⟨let ⟨o, es, ep, h1, r⟩ := hm.ns; ⟨o, es, ep, hs _ _ hbL.symm h1, r⟩, fun a o e => hs a o (Free.ne hn e) (hm.keep a o e), hm.above⟩, fun y e hy => ?_⟩, F.inj, F.new, ⟨let ⟨o, h⟩ := F.tl.1; ⟨o, hs _ _ hbt.symm h⟩, fun a ha => ?_⟩, hW, fun a ha => ?_, F.ext.change tk hn.1 hs,
    fun p hp => let ⟨a1, b1, d, e, t, f⟩ := F.hh p hp; ⟨?_, b1, d, e, t, hs _ _ (hH p hp) f⟩, fun q hq => ((F.vv q hq).kb k).sub sb, F.gg, F.krc (fun o h1 => by rw [hob] at h1; cases h1; exact Free.prot (c := c) hn hct) hs⟩
  · obtain ⟨u, hu, he⟩ := hμ y e hy
    refine ⟨u, hu, ?_⟩
    cases e with
    | val d => exact (Den.kb k he).sub sb
    | own a es =>
      obtain ⟨r1, r2, us, j, r3, r4⟩ := he
      have hab : a ≠ b := fun q => by subst q; rw [hob] at r3; exact hcl _ _ (Option.some.inj r3)
      refine ⟨r1, ?_, us, j, hs a _ hab r3, (r4.kb k).sub sb⟩
      rcases List.mem_cons.mp r2 with h | h
      · exact absurd h hab
      · exact h
  · refine (F.tl.2 a ha).imp id fun ⟨o, h⟩ => ⟨o, hs a o (fun q => hblo (q ▸ ha)) h⟩
  · obtain ⟨o, ho⟩ := F.live a (.tail _ ha)
    have hab : a ≠ b := fun q => hbW (q ▸ ha)
    exact ⟨o, hs a o hab ho⟩
  · have := a1
    rcases List.mem_cons.mp this with h | h
    · exact absurd h (hH p hp)
    · exact h
end
end Mine
end
section
open PySem PySem.W PyProof.Rows PySem.Calls
set_option Elab.async false
set_option linter.unusedVariables false
set_option maxRecDepth 100000
namespace Mine
/-- a block from a frame that bears c -/
structure Blk (c : Cx) (b : List Stmt) (Q : Flow → Shared → Prop) (E : Value → Shared → Prop) : Prop where
  run : ∀ s, FrD c s → wpAny c.M c.A (execs b c.env) Q E s
def thn (c : Cx) (rest : List Stmt) (Q : Flow → Shared → Prop) (E : Value → Shared → Prop) : Flow → Shared → Prop := fun f s => match f with
  | .next => wpAny c.M c.A (execs rest c.env) Q E s
  | f => Q f s
theorem FrD.ge {c : Cx} {s : Shared} (F : FrD c s) : c.s₀.heap.get? s.heap.objs.size = none ∧ ¬ c.lo s.heap.objs.size := by
  obtain ⟨⟨o, ho⟩, h⟩ := F.tl
  refine ⟨?_, fun hl => ?_⟩
  · cases e : c.s₀.heap.get? s.heap.objs.size with
    | none => rfl
    | some o => have := F.ext.keep _ _ e; rw [get_size] at this; cases this
  · rcases h _ hl with h | ⟨o', h⟩
    · exact Nat.lt_irrefl _ (Nat.lt_of_lt_of_le (Heap.lt_size ho) h)
    · rw [get_size] at h; cases h
section
variable {c : Cx} {Q : Flow → Shared → Prop} {E : Value → Shared → Prop} {rest : List Stmt}
theorem Blk.nil (h : ∀ s, FrD c s → Q .next s) : Blk c [] Q E := .mk fun s F => wpAny_execs_nil (h s F)
theorem Blk.done (h : Blk c rest Q E) : Blk c [] (thn c rest Q E) E := Blk.nil fun s F => h.run s F
theorem Blk.stmt {st : Stmt} (h : ∀ s, FrD c s → wpAny c.M c.A (exec st c.env) (thn c rest Q E) E s) : Blk c (st :: rest) Q E := .mk fun s F =>
  wpAny_execs_cons (wpAny_mono (h s F) (fun f s' x => by cases f <;> exact x) fun _ _ x => x)
theorem Blk.weaken {μ : Mu} (h : Blk (c.mu μ) rest Q E) (hw : ∀ x e, μ x = some e → c.μ x = some e) : Blk c rest Q E := .mk fun s F => h.run s (F.weaken hw)
theorem Blk.mono {Q' : Flow → Shared → Prop} (h : Blk c rest Q' E) (hq : ∀ f s, Q' f s → Q f s) : Blk c rest Q E := .mk fun s F => wpAny_mono (h.run s F) hq fun _ _ x => x
theorem noCls (hk : c.sc.kind = .function) : (c.sc.kind == .class || (c.sc.kind == .module && c.L != mainGlobals)) = false := by rw [hk]; rfl
theorem storeD {x : Str} {v : Value} {d : D} {s : Shared} {Q : Unit → Shared → Prop} (F : FrD c s) (hd : Den c.W s.heap v d) (h : ∀ s', FrD (c.up x (some (.val d))) s' → Q () s')
    (hk : c.sc.kind = .function) (hl : c.env.kindOf x = some .local) : wpAny c.M c.A (storeName c.env x v) Q E s := by
  obtain ⟨m, hm, hμ⟩ := F.fr
  exact wpAny_storeName_local (env := c.env) hl hm.ns (fun h' hn hs => h _ (F.store hm hμ hn hs hd)) (noCls hk)
theorem Blk.assign {x : Str} {e : PySem.Expr} {p pos : Pos} {d : D} (h : J c e d) (r : Blk (c.up x (some (.val d))) rest Q E)
    (hk : c.sc.kind = .function := by rfl) (hl : c.env.kindOf x = some .local := by rfl) (hs : swapsWith e (some (.Name x p)) pos.line c.env = pure false := by rfl) : Blk c (.Assign [.Name x p] e pos :: rest) Q E :=
  Blk.stmt fun s F => wpAny_Assign_Name (wpAny_mono (h.run s E F) (fun v s₁ ⟨e1, x1⟩ => storeD (F.go e1) x1 (fun s' F' => r.run s' F') hk hl) fun _ _ x => x) hs
/-- a display makes a list of one's own -/
theorem Blk.assignOwn {x : Str} {elts : List PySem.Expr} {p pos lpos : Pos} {ds : List D} (h : JS c (backTo lpos (starEach elts c.env)) ds) (r : ∀ a, a ∉ c.W → Blk (c.wm (a :: c.W) (upd c.μ x (some (.own a ds)))) rest Q E) (hz : ds.length ≤ 1000 := by first | decide | simp)
    (hk : c.sc.kind = .function := by rfl) (hl : c.env.kindOf x = some .local := by rfl) (hs : swapsWith (.List elts lpos) (some (.Name x p)) pos.line c.env = pure false := by rfl) : Blk c (.Assign [.Name x p] (.List elts lpos) pos :: rest) Q E :=
  Blk.stmt fun s F => wpAny_Assign_Name (List_ (wpAny_mono (h.run s E F) (fun vs s₁ ⟨e1, x1⟩ => wpAny_newObj_type (by
    have F1 := F.go e1
    have hz' : s₁.heap.get? s₁.heap.objs.size = none := get_size _
    have hge := F1.ge
    have hnew : ({ s₁ with heap := s₁.heap.push (listOf vs.toArray 0) } : Shared).heap.get? s₁.heap.objs.size = some (listOf vs.toArray 0) := Heap.get?_push_size _ rfl
    have F2 : FrD { c with W := s₁.heap.objs.size :: c.W } { s₁ with heap := s₁.heap.push (listOf vs.toArray 0) } := F1.barNew (.push _) hz' ⟨_, hnew⟩
    have hd : DenAll (s₁.heap.objs.size :: c.W) (s₁.heap.push (listOf vs.toArray 0)) vs ds := DenAll.kb (Kb.of_keep fun _ _ e => Heap.get?_push_of_some _ e) (DenAll.bar (fun a ha hn => by
      rcases List.mem_cons.mp ha with rfl | h
      · exact hz'
      · exact absurd h hn) x1)
    obtain ⟨m, hm, hμ⟩ := F2.fr
    refine wpAny_storeName_local (env := c.env) hl hm.ns (fun h' hn hs => (r s₁.heap.objs.size F1.live.next).run _ (F2.storeOwn (x := x) hm hμ hn hs (.head _) hge (fun y es hy => ?_) hnew hd)) (noCls hk)
    obtain ⟨v, _, _, hw, _⟩ := F1.fr.choose_spec.2 y _ hy
    exact F1.live.next hw) (by show vs.toArray.size ≤ sizeLine; rw [List.size_toArray, x1.length, sizeLine_eq]; omega)) fun _ _ x => x)) hs
theorem Blk.if_ {t : PySem.Expr} {body orelse : List Stmt} {pos : Pos} {b : Bool} (h : JB c t b) (h1 : b = true → Blk c body (thn c rest Q E) E) (h2 : b = false → Blk c orelse (thn c rest Q E) E) : Blk c (.If t body orelse pos :: rest) Q E :=
  Blk.stmt fun s F => wpAny_If (wpAny_mono (h.run s E F) (fun r s₁ ⟨e0, e1⟩ => by
    subst e0
    cases r with
    | true => exact (h1 rfl).run s₁ (F.go e1)
    | false => exact (h2 rfl).run s₁ (F.go e1)) fun _ _ x => x)
theorem Blk.ret {e : PySem.Expr} {pos : Pos} {d : D} (h : J c e d) (r : ∀ v s, FrD c s → Den c.W s.heap v d → Q (.ret v) s) : Blk c (.Return (some e) pos :: rest) Q E :=
  Blk.stmt fun s F => wpAny_Return_some (wpAny_mono (h.run s E F) (fun v s₁ ⟨e1, x1⟩ => r v s₁ (F.go e1) x1) fun _ _ x => x)
theorem own_at {s : Shared} {x : Str} {a : Addr} {ds : List D} (F : FrD c s) (hx : c.μ x = some (.own a ds)) : ∃ vs n, s.heap.get? a = some (listOf vs.toArray n) ∧ DenAll c.W s.heap vs ds := by
  obtain ⟨m, hm, hμ⟩ := F.fr
  obtain ⟨v, hv, rfl, hw, vs, n, ho, hd⟩ := hμ x _ hx
  exact ⟨vs, n, ho, hd⟩
theorem own_name {s : Shared} {x : Str} {p : Pos} {a : Addr} {ds : List D} {Q : Value → Shared → Prop} (F : FrD c s) (hx : c.μ x = some (.own a ds)) (h : Q (.ref a) s) (hk : c.sc.kind = .function) (hl : c.env.kindOf x = some .local) (hd : (x == ("__debug__" : Str)) = false) : wpAny c.M c.A (eval (.Name x p) c.env) Q E s := by
  obtain ⟨m, hm, hμ⟩ := F.fr
  obtain ⟨v, hv, rfl, _⟩ := hμ x _ hx
  exact ldC hm hv h hk hl hd
/-- append to a list of one's own -/
theorem call_append {l : Addr} {its : Array Value} {n : Nat} {x : Value} {s : Shared} {Q : Value → Shared → Prop} {prog : Program} {w : World} {A : Around}
    (ho : s.heap.get? l = some (listOf its n)) (hQ : ∀ h' n', h'.get? l = some (listOf (its.push x) n') → Heap.SameBut l s.heap h' → Q .none { s with heap := h' }) (hsz : its.size ≤ sizeLine) :
    wpAny (model prog w) A (call (.builtin "list.append") [.ref l, x]) Q E s := by
  refine wpAny_call_entry slot_list_append (Heap.IsList.typeIs ⟨_, ho, rfl, n, rfl⟩) entry_list_append ?_ (args_list_append _ _)
  show wpAny _ _ (updateSeq l (·.push x) >>= fun _ => ret .none) _ _ s
  refine wpAny_bind ?_
  exact wpAny_updateSeq ho rfl (wpAny_pure ⟨.none, rfl, hQ _ _ (Heap.get?_update_self _ ho rfl) (Heap.SameBut.update ..)⟩)
theorem Blk.append {x : Str} {e : PySem.Expr} {p apos cpos pos : Pos} {a : Addr} {ds : List D} {d : D} (hx : c.μ x = some (.own a ds)) (h : J c e d) (r : Blk (c.up x (some (.own a (ds ++ [d])))) rest Q E) (hz : ds.length ≤ 1000)
    (hk : c.sc.kind = .function := by rfl) (hl : c.env.kindOf x = some .local := by rfl) (hd : (x == ("__debug__" : Str)) = false := by decide)
    (hbase : attributeBase (.Name x p) "append" c.env (eval (.Name x p) c.env) = eval (.Name x p) c.env := by rfl)
    (htrees : starEach [e] c.env = [(false, eval e c.env)] := by rfl) (hline : (apos.endLine == cpos.line) = true := by rfl)
    (hi : interactive c.env = false := by rfl) (hs : swapsWith (.Call (.Attribute (.Name x p) "append" apos) [e] [] cpos) none pos.line c.env = pure false := by rfl) :
    Blk c (.Expr (.Call (.Attribute (.Name x p) "append" apos) [e] [] cpos) pos :: rest) Q E :=
  Blk.stmt fun s F => wpAny_Expr (PySem.wpAny_Call_append hbase (by rw [htrees]; rfl) hline (by rw [htrees]; rfl) (own_name F hx (by
    obtain ⟨vs, n, ho, hds⟩ := own_at F hx
    refine ⟨a, _, rfl, ⟨_, n, ho, rfl, rfl, rfl⟩, wpAny_mono (h.run s E F) (fun y s₁ ⟨e1, x1⟩ => ?_) fun _ _ x => x⟩
    have F1 := F.go e1
    refine call_append (e1.keep _ _ ho) (fun h' n' ho' hsb => ?_) (by have := hds.length; rw [sizeLine_eq]; simp; omega)
    rw [List.push_toArray] at ho'
    exact r.run _ (F1.ownSet (tk := s₁.toks) (h' := h') hx (Heap.SameBut.to hsb) ho' ((hds.ext e1).append (.cons x1 .nil)))) hk hl hd)) hi hs
end
end Mine
end
section
open PySem PySem.W PyProof.Rows PySem.Calls
set_option Elab.async false
set_option linter.unusedVariables false
set_option maxRecDepth 100000
namespace Mine
section
variable {prog : Program} {w : World} {A : Around} {E : Value → Shared → Prop} {s : Shared}
theorem setItem_last {l : Addr} {items : Array Value} {n : Nat} {t : Tok} {v : Value} {Q : Unit → Shared → Prop} (ho : s.heap.get? l = some (listOf items n)) (hn : 0 < items.size)
    (hQ : ∀ h' n', h'.get? l = some (listOf (items.setIfInBounds (items.size - 1) v) n') → Heap.SameBut l s.heap h' → Q () { s with heap := h' }) :
    wpAny (model prog w) A (setItem (.ref l) (.int (-1) t) v) Q E s := by
  have hT : s.TypeIs (.ref l) "list" := ⟨_, ho, rfl⟩
  unfold setItem
  try with_reducible refine wpAny_holding ?_
  first | refine wpAny_bind (wpAny_pure ?_) | skip
  refine wpAny_bind (wpAny_sequenceKey hT (by decide) ?_)
  refine wpAny_bind (wpAny_callSpecial?_slot (name := Str.ofString "__setitem__") hT slot_list_setitem
    (wpAny_call_entry slot_list_setitem hT entry_list_setitem ?_ (args_list_setitem _ _ _)))
  show wpAny _ _ (Builtin.List.listSubscript? (.int (-1) t) >>= _) _ _ s
  refine wpAny_bind (wpAny_listSubscript_int (by decide) ?_)
  have hidx : seqIndex? (-1) items.size = some ((-1 + (items.size : Int)).toNat) := seqIndex_neg (by omega) (by omega)
  have hj : (-1 + (items.size : Int)).toNat = items.size - 1 := by omega
  rw [hj] at hidx
  have hx : items[items.size - 1]? = some (items[items.size - 1]'(by omega)) := Array.getElem?_eq_getElem _
  show wpAny _ _ ((Builtin.List.listItems (.ref l) >>= fun xs => pure ((seqIndex? (-1) xs.size).bind fun i => xs[i]?.map (i, ·))) >>= _) _ _ s
  refine wpAny_bind (wpAny_bind ?_)
  show wpAny _ _ (seqItems? (.ref l) >>= _) _ _ s
  refine wpAny_bind (wpAny_seqItems ho rfl (wpAny_pure (wpAny_pure ?_)))
  rw [hidx]
  simp only [Option.bind_some, hx, Option.map_some]
  show wpAny _ _ (setSeqItemAt l (items.size - 1) v >>= _) _ _ s
  have hfin := hQ (s.heap.update l (Obj.mapSeq (·.setIfInBounds (items.size - 1) v))) _ (Heap.get?_update_self _ ho rfl) (Heap.SameBut.update ..)
  refine wpAny_bind (wpAny_setSeqItemAt ho rfl ?_)
  first
    | exact wpAny_pure ⟨_, rfl, wpAny_pure hfin⟩
    | exact wpAny_bind (wpAny_letGo (wpAny_pure ⟨_, rfl, wpAny_pure hfin⟩))
    | exact wpAny_bind (wpAny_release (wpAny_pure ⟨_, rfl, wpAny_pure hfin⟩))
end
section
variable {c : Cx} {Q : Flow → Shared → Prop} {E : Value → Shared → Prop} {rest : List Stmt}
theorem Blk.setLast {x : Str} {e i : PySem.Expr} {p spos pos : Pos} {a : Addr} {ds : List D} {d : D} (hx : c.μ x = some (.own a ds)) (h : J c e d) (hi : J c i (.int (-1))) (hne : ds ≠ []) (r : Blk (c.up x (some (.own a (ds.set (ds.length - 1) d)))) rest Q E)
    (hk : c.sc.kind = .function := by rfl) (hl : c.env.kindOf x = some .local := by rfl) (hd : (x == ("__debug__" : Str)) = false := by decide)
    (hs : swapsWith e (some (.Subscript (.Name x p) i spos)) pos.line c.env = pure false := by rfl) :
    Blk c (.Assign [.Subscript (.Name x p) i spos] e pos :: rest) Q E :=
  Blk.stmt fun s F => wpAny_Assign_Subscript (wpAny_mono (h.run s E F) (fun v s₁ ⟨e1, x1⟩ => own_name (F.go e1) hx (wpAny_mono (hi.run s₁ E (F.go e1)) (fun iv s₂ ⟨e2, x2⟩ => by
    obtain ⟨t, rfl⟩ := denT_int x2.top
    have F2 := (F.go e1).go e2
    obtain ⟨vs, n, ho, hds⟩ := own_at F2 hx
    have hlen := hds.length
    have hp : 0 < ds.length := List.length_pos_iff.mpr hne
    refine setItem_last ho (by simp; omega) fun h' n' ho' hsb => ?_
    have e3 : vs.toArray.setIfInBounds (vs.toArray.size - 1) v = (vs.set (ds.length - 1) v).toArray := by simp [hlen]
    rw [e3] at ho'
    exact r.run _ (F2.ownSet (tk := s₂.toks) (h' := h') hx (Heap.SameBut.to hsb) ho' (hds.set _ (x1.ext e2)))) fun _ _ x => x) hk hl hd) fun _ _ x => x) hs
/-- unpacking -/
theorem ext_fresh {s : Shared} {h' : Heap} (he : Heap.ExtBut s.heap.objs.size s.heap h') : Ext s { s with heap := h' } := .heap' fun b o e => he b o (Nat.ne_of_lt (Heap.lt_size e)) e
theorem unpackT {s : Shared} {v : Value} {ds : List D} {n : Nat} {Q : List Value → Shared → Prop} (hh : c.A.handled = none) (F : FrD c s) (x : DenT c.W s.heap v (.tuple ds)) (hn : n = ds.length) (h : ∀ vs s', Ext s s' → DenAll c.W s'.heap vs ds → Q vs s') :
    wpAny c.M c.A (unpackItems v n none) Q E s := by
  obtain ⟨a, vs, rfl, hl, r⟩ := x
  have e : n = vs.toArray.size := by rw [hn, List.size_toArray, r.length]
  rw [e]
  exact wpAny_unpackItems_tuple hh hl fun h' he => h vs _ (ext_fresh he) (r.ext (ext_fresh he))
theorem unpackL {s : Shared} {v : Value} {ds : List D} {n : Nat} {Q : List Value → Shared → Prop} (hh : c.A.handled = none) (F : FrD c s) (x : DenT c.W s.heap v (.list ds)) (hn : n = ds.length) (h : ∀ vs s', Ext s s' → DenAll c.W s'.heap vs ds → Q vs s') :
    wpAny c.M c.A (unpackItems v n none) Q E s := by
  obtain ⟨a, vs, rfl, hl, r⟩ := x
  have e : n = vs.toArray.size := by rw [hn, List.size_toArray, r.length]
  rw [e]
  exact kun_itemsOf hh hl fun h' he => h vs _ (ext_fresh he) (r.ext (ext_fresh he))
theorem bindD {x : Str} {v : Value} {d : D} {s : Shared} {Q : Unit → Shared → Prop} (F : FrD c s) (hd : Den c.W s.heap v d) (h : ∀ s', Kb c.W s.heap s'.heap → FrD (c.up x (some (.val d))) s' → Q () s')
    (hk : c.sc.kind = .function) (hl : c.env.kindOf x = some .local) : wpAny c.M c.A (bindName c.env x v) Q E s := by
  obtain ⟨m, hm, hμ⟩ := F.fr
  exact wpAny_bindName (wpAny_storeName_local (env := c.env) hl hm.ns (fun h' hn hs => h _ (Kb.change F.lw (Heap.SameBut.to hs)) (F.store hm hμ hn hs hd)) (noCls hk))
theorem assignD {x : Str} {p : Pos} {v : Value} {d : D} {s : Shared} {Q : Unit → Shared → Prop} (F : FrD c s) (hd : Den c.W s.heap v d) (h : ∀ s', Kb c.W s.heap s'.heap → FrD (c.up x (some (.val d))) s' → Q () s')
    (hk : c.sc.kind = .function) (hl : c.env.kindOf x = some .local) : wpAny c.M c.A (assign (.Name x p) c.env v) Q E s := by
  rw [PySem.assign_Name]
  exact wpAny_bind (wpAny_standAt (bindD F hd h hk hl))
theorem pair_in_order {x y : Str} {px py : Pos} {d1 d2 : D} {vs : List Value} {s : Shared} {Q : Unit → Shared → Prop} (F : FrD c s) (hd : DenAll c.W s.heap vs [d1, d2]) (h : ∀ s', FrD ((c.up x (some (.val d1))).up y (some (.val d2))) s' → Q () s')
    (hk : c.sc.kind = .function) (hx : c.env.kindOf x = some .local) (hy : c.env.kindOf y = some .local) : wpAny c.M c.A (assignInOrder [assign (.Name x px) c.env, assign (.Name y py) c.env] vs) Q E s := by
  obtain ⟨v, u, rfl, xv, xu⟩ := denAll2 hd
  refine assignInOrder_cons (assignD F xv (fun s1 k1 F1 => ?_) hk hx)
  exact assignInOrder_cons (assignD (c := c.up x (some (.val d1))) F1 (xu.kb k1) (fun s2 k2 F2 => assignInOrder_nil (h s2 F2)) hk hy)
theorem assign_pairT {x y : Str} {px py pos : Pos} {k : Nat} {d1 d2 : D} {v : Value} {s : Shared} {Q : Unit → Shared → Prop} (hh : c.A.handled = none) (F : FrD c s) (hd : DenT c.W s.heap v (.tuple [d1, d2])) (h : ∀ s', FrD ((c.up x (some (.val d1))).up y (some (.val d2))) s' → Q () s')
    (hk : c.sc.kind = .function) (hx : c.env.kindOf x = some .local) (hy : c.env.kindOf y = some .local) : wpAny c.M c.A (assign (.Tuple [.Name x px, .Name y py] k pos) c.env v) Q E s := by
  rw [PyProof.Rows.assign_Tuple]
  refine wpAny_bind (wpAny_standAt ?_)
  exact wpAny_bind (m := holding [v] (unpackItems v 2 none)) (wpAny_holding (unpackT hh F hd rfl fun vs s1 e1 x1 => pair_in_order (F.go e1) x1 h hk hx hy))
theorem assign_pairL {x y : Str} {px py pos : Pos} {k : Nat} {d1 d2 : D} {v : Value} {s : Shared} {Q : Unit → Shared → Prop} (hh : c.A.handled = none) (F : FrD c s) (hd : DenT c.W s.heap v (.list [d1, d2])) (h : ∀ s', FrD ((c.up x (some (.val d1))).up y (some (.val d2))) s' → Q () s')
    (hk : c.sc.kind = .function) (hx : c.env.kindOf x = some .local) (hy : c.env.kindOf y = some .local) : wpAny c.M c.A (assign (.Tuple [.Name x px, .Name y py] k pos) c.env v) Q E s := by
  rw [PyProof.Rows.assign_Tuple]
  refine wpAny_bind (wpAny_standAt ?_)
  exact wpAny_bind (m := holding [v] (unpackItems v 2 none)) (wpAny_holding (unpackL hh F hd rfl fun vs s1 e1 x1 => pair_in_order (F.go e1) x1 h hk hx hy))
/-- x, y = e -/
theorem Blk.assignPair {x y : Str} {e : PySem.Expr} {px py tp pos : Pos} {k : Nat} {d1 d2 : D} (hh : c.A.handled = none) (h : J c e (.tuple [d1, d2])) (r : Blk ((c.up x (some (.val d1))).up y (some (.val d2))) rest Q E)
    (hk : c.sc.kind = .function := by rfl) (hx : c.env.kindOf x = some .local := by rfl) (hy : c.env.kindOf y = some .local := by rfl)
    (hs : swapsWithSole [.Tuple [.Name x px, .Name y py] k tp] e pos.line c.env = pure false := by rfl) (hw : swappedStores [.Tuple [.Name x px, .Name y py] k tp] e c.env = pure none := by rfl) :
    Blk c (.Assign [.Tuple [.Name x px, .Name y py] k tp] e pos :: rest) Q E :=
  Blk.stmt fun s F => Assign_Tuple (wpAny_mono (h.run s E F) (fun v s₁ ⟨e1, x1⟩ => assign_pairT hh (F.go e1) x1.top (fun s' F' => r.run s' F') hk hx hy) fun _ _ x => x) hs hw
/-- x, y, z = e -/
theorem Blk.assignTriple {x y z : Str} {e : PySem.Expr} {px py pz tp pos : Pos} {k : Nat} {d1 d2 d3 : D} (hh : c.A.handled = none) (h : J c e (.tuple [d1, d2, d3])) (r : Blk (((c.up x (some (.val d1))).up y (some (.val d2))).up z (some (.val d3))) rest Q E)
    (hk : c.sc.kind = .function := by rfl) (hx : c.env.kindOf x = some .local := by rfl) (hy : c.env.kindOf y = some .local := by rfl) (hz : c.env.kindOf z = some .local := by rfl)
    (hs : swapsWithSole [.Tuple [.Name x px, .Name y py, .Name z pz] k tp] e pos.line c.env = pure false := by rfl) (hw : swappedStores [.Tuple [.Name x px, .Name y py, .Name z pz] k tp] e c.env = pure none := by rfl) :
    Blk c (.Assign [.Tuple [.Name x px, .Name y py, .Name z pz] k tp] e pos :: rest) Q E :=
  Blk.stmt fun s F => Assign_Tuple (wpAny_mono (h.run s E F) (fun v s₁ ⟨e1, x1⟩ => by
    rw [PyProof.Rows.assign_Tuple]
    refine wpAny_bind (wpAny_standAt ?_)
    refine wpAny_bind (m := holding [v] (unpackItems v 3 none)) (wpAny_holding (unpackT hh (F.go e1) x1.top rfl fun vs s2 e2 x2 => ?_))
    cases x2 with | cons xa r2 =>
    obtain ⟨v2, v3, rfl, xb, xc⟩ := denAll2 r2
    refine assignInOrder_cons (assignD ((F.go e1).go e2) xa (fun s3 k3 F3 => ?_) hk hx)
    refine assignInOrder_cons (assignD (c := c.up x (some (.val d1))) F3 (xb.kb k3) (fun s4 k4 F4 => ?_) hk hy)
    exact assignInOrder_cons (assignD (c := (c.up x (some (.val d1))).up y (some (.val d2))) F4 ((xc.kb k3).kb k4) (fun s5 k5 F5 => assignInOrder_nil (r.run s5 F5)) hk hz)) fun _ _ x => x) hs hw
/-- x, y = (e, f): the last name first -/
theorem Blk.assignSwapped {x y : Str} {e : PySem.Expr} {px py tp pos : Pos} {k : Nat} {d1 d2 : D} (hh : c.A.handled = none) (h : J c e (.tuple [d1, d2])) (r : Blk ((c.up y (some (.val d2))).up x (some (.val d1))) rest Q E)
    (hk : c.sc.kind = .function := by rfl) (hx : c.env.kindOf x = some .local := by rfl) (hy : c.env.kindOf y = some .local := by rfl)
    (hs : swapsWithSole [.Tuple [.Name x px, .Name y py] k tp] e pos.line c.env = pure false := by rfl) (hw : swappedStores [.Tuple [.Name x px, .Name y py] k tp] e c.env = pure (some [x, y]) := by rfl) :
    Blk c (.Assign [.Tuple [.Name x px, .Name y py] k tp] e pos :: rest) Q E :=
  Blk.stmt fun s F => Assign_Tuple_swapped (names := [x, y]) (wpAny_mono (h.run s E F) (fun v s₁ ⟨e1, x1⟩ => unpackT hh (F.go e1) x1.top rfl fun vs s2 e2 x2 => by
    obtain ⟨v1, v2, rfl, xa, xb⟩ := denAll2 x2
    refine assignInOrder_cons (bindD ((F.go e1).go e2) xb (fun s3 k3 F3 => ?_) hk hy)
    exact assignInOrder_cons (bindD (c := c.up y (some (.val d2))) F3 (xa.kb k3) (fun s4 k4 F4 => assignInOrder_nil (r.run s4 F4)) hk hx)) fun _ _ x => x) hs hw
end
end Mine
end
section
open PySem PySem.W PyProof.Rows PySem.Calls
set_option Elab.async false
set_option linter.unusedVariables false
set_option maxRecDepth 100000
namespace Mine
section
variable {c : Cx} {Q : Flow → Shared → Prop} {E : Value → Shared → Prop} {rest : List Stmt}
/-- what a turn of a loop ends with -/
def turnQ (c : Cx) (Nxt : Shared → Prop) (rest : List Stmt) (Q : Flow → Shared → Prop) (E : Value → Shared → Prop) : Flow → Shared → Prop := fun f s => match f with
  | .next | .cont => Nxt s
  | .brk => wpAny c.M c.A (execs rest c.env) Q E s
  | .ret v => Q (.ret v) s
/-- iteration over a list that nothing alters -/
theorem Blk.forList {x : Str} {iter : PySem.Expr} {body : List Stmt} {px pos : Pos} {ds : List D} (hh : c.A.handled = none) (I : Nat → Mu) (P : Nat → Prop) (p0 : P 0) (h0 : ∀ x e, I 0 x = some e → c.μ x = some e) (h : J c iter (.list ds))
    (step : ∀ W' H' V', (∀ a ∈ c.W, a ∈ W') → ∀ i d, ds[i]? = some d → P i → ∀ E', Blk (c.all W' H' V' (upd (I i) x (some (.val d)))) body (turnQ c (fun s => P (i + 1) ∧ FrD (c.all W' H' V' (I (i + 1))) s) rest Q E) E')
    (done : P ds.length → Blk (c.mu (I ds.length)) rest Q E)
    (hk : c.sc.kind = .function := by rfl) (hl : c.env.kindOf x = some .local := by rfl) (hs : ∀ x, foldedSetIterable iter c.env x = pure x := by intro _; rfl)
    (ht : ∀ it v, letOwnedTupleGo (.Name x px) it v = pure () := by intro _ _; rfl) : Blk c (.For (.Name x px) iter body [] pos :: rest) Q E :=
  Blk.stmt fun s F => wpAny_For (wpAny_mono (h.run s E F) (fun v s₁ ⟨e1, x1⟩ => by
    have F1 := F.go e1
    cases x1 with
    | list hnw hl0 hds =>
    rename_i l vs0 _
    refine wpAny_pyIter_list hl0 ?_
    have hz := get_size s₁.heap
    have hobj : ({ s₁ with heap := s₁.heap.push { cls := .type "list_iterator", data := .fields #[.ref l, .int 0 0] } } : Shared).heap.get? s₁.heap.objs.size = some { cls := .type "list_iterator", data := .fields #[.ref l, .int 0 0] } := Heap.get?_push_size _ rfl
    have hLs : s₁.heap.objs.size ≠ c.L := by
      obtain ⟨m, hm, _⟩ := F1.fr
      exact (Nat.ne_of_lt hm.ns.lt).symm
    have F2 := (F1.addV (v := .ref l) (d := .list ds) (.list hnw hl0 hds)).hold (.push { cls := .type "list_iterator", data := .fields #[.ref l, .int 0 0] }) hz hobj (by show Value.type "list_iterator" ≠ Value.type "list"; decide) (by show Value.type "list_iterator" ≠ Value.type "tuple"; decide) hLs F1.ge
    generalize hit : s₁.heap.objs.size = it at F2 hLs hobj
    have hnotH : ∀ p ∈ c.H, p.1 ≠ it := fun p hp q => by
      have := (F1.hh p hp).g
      rw [q, ← hit, hz] at this
      cases this
    have hitW : it ∉ c.W := hit ▸ F1.live.next
    have hitlo : ¬ c.lo it := hit ▸ F1.ge.2
    have hitt : it ≠ c.top := fun q => by
      obtain ⟨o, ho⟩ := F1.tl.1
      rw [← q, ← hit, hz] at ho
      cases ho
    clear hobj
    generalize hW : it :: c.W = W' at F2
    have hsub : ∀ a ∈ c.W, a ∈ W' := fun a ha => hW ▸ .tail _ ha
    refine codeAny_forLoop (fun n s => ∃ i o, n + i = ds.length + 1 ∧ i ≤ ds.length ∧ P i ∧ FrD { c with W := W', H := (it, o) :: c.H, V := (.ref l, .list ds) :: c.V, μ := I i } s ∧ s.heap.IsListIter it l i) ?_ (ds.length + 1) ⟨0, _, rfl, Nat.zero_le _, p0, F2.weaken h0, _, (F2.hh _ (.head _)).g, rfl, rfl⟩ (ht _)
    rintro n s₂ ⟨i, o, hn, hile, hP, F3, hi⟩
    have hlst := F3.vv (.ref l, .list ds) (.head _)
    have hhd := F3.hh (it, o) (.head _)
    cases hlst with
    | list hnl hl3 hds3 =>
    rename_i vs3
    have hlen := hds3.length
    cases hd : ds[i]? with
    | some d =>
      obtain ⟨v, hv, hvd⟩ := hds3.get hd
      refine wpAny_pyNext_list_item hi hl3 (x := v) (by simpa using hv) fun h' hi' hsb => ?_
      obtain ⟨o', ho', hoc, hod⟩ := id hi'
      have F4 := FrD.reheld (c := { c with W := W', V := (.ref l, .list ds) :: c.V, μ := I i }) (H := c.H) F3 (tk := s₂.toks) (h' := h') hnotH (Heap.SameBut.to hsb) ho' (by rw [hoc]; decide) (by rw [hoc]; decide)
      have hkb : Kb W' s₂.heap h' := Kb.change hhd.w (Heap.SameBut.to hsb)
      obtain ⟨m, hm, hμ⟩ := F4.fr
      show wpAny c.M c.A (PySem.assign (.Name x px) c.env v) _ _ _
      rw [PySem.assign_Name]
      refine wpAny_bind (wpAny_standAt (wpAny_bindName ?_))
      refine wpAny_storeName_local (env := c.env) hl hm.ns (fun h'' hn'' hs'' => ?_) (noCls hk)
      have F5 := F4.store (x := x) (tk := s₂.toks + 1) hm hμ hn'' hs'' (hvd.kb hkb)
      have hiL : it ≠ c.L := hLs
      have hi5 : h''.IsListIter it l (i + 1) := by
        obtain ⟨o5, ho5, r5⟩ := hi'
        exact ⟨o5, Heap.SameBut.to hs'' _ _ hiL ho5, r5⟩
      have F5' := (step W' ((it, o') :: c.H) ((.ref l, .list ds) :: c.V) hsub i d hd hP (notedBy c.M c.A c.env fun e s' => cameBackBy c.M c.A c.env E e s')).run _ F5
      refine wpAny_mono F5' (fun f s₆ h6 => ?_) fun _ _ y => y
      have nx : P (i + 1) ∧ FrD { c with W := W', H := (it, o') :: c.H, V := (.ref l, .list ds) :: c.V, μ := I (i + 1) } s₆ → ∃ m, m < n ∧ ∃ i o, m + i = ds.length + 1 ∧ i ≤ ds.length ∧ P i ∧ FrD { c with W := W', H := (it, o) :: c.H, V := (.ref l, .list ds) :: c.V, μ := I i } s₆ ∧ s₆.heap.IsListIter it l i := fun ⟨hP6, F6⟩ =>
        ⟨n - 1, by have := (List.getElem?_eq_some_iff.mp hd).1; omega, i + 1, o', by have := (List.getElem?_eq_some_iff.mp hd).1; omega, (List.getElem?_eq_some_iff.mp hd).1, hP6, F6, o', (F6.hh _ (.head _)).g, hoc, hod⟩
      cases f with
      | next => exact nx h6
      | cont => exact nx h6
      | brk => exact h6
      | ret v => exact h6
    | none =>
      have hge : ds.length ≤ i := List.getElem?_eq_none_iff.mp hd
      refine wpAny_pyNext_list_end hh hi hl3 (by rw [List.getElem?_toArray]; exact List.getElem?_eq_none (by omega)) fun h' he => ?_
      have ei : i = ds.length := by omega
      subst ei
      obtain ⟨o0, ho0, hoc0, _⟩ := hi
      have F3' : FrD { c with W := it :: c.W, V := c.V, μ := I ds.length } s₂ := by
        rw [hW]
        exact (F3.dropH (H := c.H) fun p hp => .tail _ hp).dropV (V := c.V) fun p hp => .tail _ hp
      refine wpAny_execs_nil ?_
      exact (done hP).run _ (FrD.forget (c := { c with μ := I ds.length }) (tk := s₂.toks) (h' := h') F3' ho0 (by rw [hoc0]; decide) (by rw [hoc0]; decide) hLs hnotH hhd.n he F1.lw hitW hitt hitlo)) fun _ _ x => x) hs
/-- iteration over range(n) -/
theorem Blk.forRange {x : Str} {e : PySem.Expr} {body : List Stmt} {px rp rpos pos : Pos} {n : Nat} (hh : c.A.handled = none) (hf : IsName c "range" (.type "range")) (I : Nat → Mu) (P : Nat → Prop) (p0 : P 0) (h0 : ∀ x e, I 0 x = some e → c.μ x = some e) (h : J c e (.int n)) (hn62 : n < 1000000)
    (step : ∀ W' H' V', (∀ a ∈ c.W, a ∈ W') → ∀ i : Nat, i < n → P i → ∀ E', Blk (c.all W' H' V' (upd (I i) x (some (.val (.int i))))) body (turnQ c (fun s => P (i + 1) ∧ FrD (c.all W' H' V' (I (i + 1))) s) rest Q E) E')
    (done : P n → Blk (c.mu (I n)) rest Q E)
    (hk : c.sc.kind = .function := by rfl) (hl : c.env.kindOf x = some .local := by rfl) (hs : starEach [e] c.env = [(false, eval e c.env)] := by rfl)
    (hfs : ∀ x, foldedSetIterable (.Call (.Name "range" rp) [e] [] rpos) c.env x = pure x := by intro _; rfl)
    (ht : ∀ it v, letOwnedTupleGo (.Name x px) it v = pure () := by intro _ _; rfl) : Blk c (.For (.Name x px) (.Call (.Name "range" rp) [e] [] rpos) body [] pos :: rest) Q E :=
  Blk.stmt fun s F => wpAny_For (call1 F hf (.inr ⟨_, rfl⟩) h.top (fun s₁ v e1 F1 x1 => by
    obtain ⟨t, rfl⟩ := denT_int x1
    refine call_range_1 ?_
    have e2 : Ext s₁ { s₁ with heap := s₁.heap.push { cls := .type "range", data := .fields #[.int 0 s₁.toks, .int n t, .int 1 (s₁.toks + 1)] }, toks := s₁.toks + 1 + 1 } := .heap _ fun _ _ e => Heap.get?_push_of_some _ e
    have F1' := F1.go e2
    refine wpAny_pyIter_range (IsRange.new ..) (small_one (by decide) (by decide) (by omega) (by omega)) ?_
    have hsz : Builtin.Range.rangeSize 0 n 1 = n := by rw [rangeSize_one]; split <;> omega
    rw [hsz]
    generalize hs2 : ({ s₁ with heap := s₁.heap.push { cls := .type "range", data := .fields #[.int 0 s₁.toks, .int n t, .int 1 (s₁.toks + 1)] }, toks := s₁.toks + 1 + 1 } : Shared) = s₂ at F1' ⊢
    have hheap : s₁.heap.push { cls := .type "range", data := .fields #[.int 0 s₁.toks, .int n t, .int 1 (s₁.toks + 1)] } = s₂.heap := by rw [← hs2]
    have hgo : ∀ it : Addr, it = s₂.heap.objs.size → codeAny c.M c.A (.forLoop (.Name x px) (.ref it) body [] c.env) (fun r s' => match r with | .ok f => thn c rest Q E f s' | .error e => cameBackBy c.M c.A c.env E e s')
        { s₂ with heap := s₂.heap.push { cls := .type "range_iterator", data := .fields #[rawInt 0, rawInt n, rawInt 1] } } := by
      intro it hit
      have hz : s₂.heap.get? it = none := hit ▸ get_size s₂.heap
      have hobj : ({ s₂ with heap := s₂.heap.push { cls := .type "range_iterator", data := .fields #[rawInt 0, rawInt n, rawInt 1] } } : Shared).heap.get? it = some { cls := .type "range_iterator", data := .fields #[rawInt 0, rawInt n, rawInt 1] } := hit ▸ Heap.get?_push_size _ rfl
      have hLs : it ≠ c.L := by
        obtain ⟨m, hm, _⟩ := F1'.fr
        rw [hit]
        exact (Nat.ne_of_lt hm.ns.lt).symm
      have hitW : it ∉ c.W := hit ▸ F1'.live.next
      have hitlo : ¬ c.lo it := hit ▸ F1'.ge.2
      have hitt : it ≠ c.top := fun q => by
        obtain ⟨o, ho⟩ := F1'.tl.1
        rw [← q, hz] at ho
        cases ho
      have F2 := F1'.hold (.push { cls := .type "range_iterator", data := .fields #[rawInt 0, rawInt n, rawInt 1] }) hz hobj (by show Value.type "range_iterator" ≠ Value.type "list"; decide) (by show Value.type "range_iterator" ≠ Value.type "tuple"; decide) hLs (hit ▸ F1'.ge)
      have hnotH : ∀ p ∈ c.H, p.1 ≠ it := fun p hp q => by
        have := (F1'.hh p hp).g
        rw [q, hz] at this
        cases this
      generalize hW : it :: c.W = W' at F2
      have hsub : ∀ a ∈ c.W, a ∈ W' := fun a ha => hW ▸ .tail _ ha
      refine codeAny_forLoop (fun k s => ∃ (i : Nat) (o : Obj), k + i = n + 1 ∧ i ≤ n ∧ P i ∧ FrD { c with W := W', H := (it, o) :: c.H, μ := I i } s ∧ IsRangeIter s.heap it (i : Int) ((n : Int) - i) 1) ?_ (n + 1) ⟨0, _, rfl, Nat.zero_le _, p0, F2.weaken h0, by simpa [IsRangeIter] using (F2.hh _ (.head _)).g⟩ (ht _)
      rintro k s₂ ⟨i, o, hn, hile, hP, F3, hi⟩
      have hhd := F3.hh (it, o) (.head _)
      by_cases hin : i < n
      · refine wpAny_pyNext_range_item hi (by omega) fun h' hi' hsb => ?_
        have F4 := FrD.reheld (c := { c with W := W', μ := I i }) (H := c.H) F3 (tk := s₂.toks + 1) (h' := h') hnotH (Heap.SameBut.to hsb) (show h'.get? it = _ from hi') (by show Value.type "range_iterator" ≠ Value.type "list"; decide) (by show Value.type "range_iterator" ≠ Value.type "tuple"; decide)
        obtain ⟨m, hm, hμ⟩ := F4.fr
        show wpAny c.M c.A (PySem.assign (.Name x px) c.env _) _ _ _
        rw [PySem.assign_Name]
        refine wpAny_bind (wpAny_standAt (wpAny_bindName ?_))
        refine wpAny_storeName_local (env := c.env) hl hm.ns (fun h'' hn'' hs'' => ?_) (noCls hk)
        have F5 := F4.store (x := x) (tk := s₂.toks + 1 + 1) hm hμ hn'' hs'' (.int (i : Int) s₂.toks)
        have F5' := (step W' _ c.V hsub i hin hP (notedBy c.M c.A c.env fun e s' => cameBackBy c.M c.A c.env E e s')).run _ F5
        refine wpAny_mono F5' (fun f s₆ h6 => ?_) fun _ _ y => y
        have nx : ∀ o', o' = ({ cls := .type "range_iterator", data := .fields #[rawInt ((i : Int) + 1), rawInt ((n : Int) - i - 1), rawInt 1] } : Obj) → P (i + 1) ∧ FrD { c with W := W', H := (it, o') :: c.H, μ := I (i + 1) } s₆ → ∃ m, m < k ∧ ∃ (i : Nat) (o : Obj), m + i = n + 1 ∧ i ≤ n ∧ P i ∧ FrD { c with W := W', H := (it, o) :: c.H, μ := I i } s₆ ∧ IsRangeIter s₆.heap it (i : Int) ((n : Int) - i) 1 := fun o' eo ⟨hP6, F6⟩ =>
          ⟨k - 1, by omega, i + 1, o', by omega, hin, hP6, F6, by
            have := (F6.hh _ (.head _)).g
            rw [eo] at this
            unfold IsRangeIter
            have e : (n : Int) - ((i + 1 : Nat) : Int) = (n : Int) - i - 1 := by omega
            rw [e]
            exact this⟩
        cases f with
        | next => exact nx _ rfl h6
        | cont => exact nx _ rfl h6
        | brk => exact h6
        | ret v => exact h6
      · refine wpAny_pyNext_range_end hh hi (by omega) fun h' he => ?_
        have ei : i = n := by omega
        subst ei
        have F3' : FrD { c with W := it :: c.W, μ := I i } s₂ := by
          rw [hW]
          exact F3.dropH (H := c.H) fun p hp => .tail _ hp
        refine wpAny_execs_nil ?_
        exact (done hP).run _ (FrD.forget (c := { c with μ := I i }) (tk := s₂.toks) (h' := h') F3' hi (by show Value.type "range_iterator" ≠ Value.type "list"; decide) (by show Value.type "range_iterator" ≠ Value.type "tuple"; decide) hLs hnotH hhd.n he F1.lw hitW hitt hitlo)
    exact hgo _ rfl) hs) hfs
/-- an own list becomes plain -/
theorem Blk.disown {x : Str} {a : Addr} {ds : List D} {b : List Stmt} (hx : c.μ x = some (.own a ds)) (h : Blk (c.wm (c.W.filter (· ≠ a)) (upd c.μ x (some (.val (.list ds))))) b Q E) : Blk c b Q E := .mk fun s F => by
  obtain ⟨m, hm, hμ⟩ := F.fr
  obtain ⟨v, hv, _, hw, vs, n, hol, _⟩ := hμ x _ hx
  have haL : a ≠ c.L := ns_notList hm.ns hol
  have mem : ∀ {b}, b ∈ c.W → b ≠ a → b ∈ c.W.filter (· ≠ a) := fun hb hne => List.mem_filter.mpr ⟨hb, by simpa using hne⟩
  refine h.run s (F.disown hx (fun b hb => (List.mem_filter.mp hb).1) (mem F.lw haL.symm) (fun hm => by simpa using (List.mem_filter.mp hm).2) (fun y b es hy hyo => ?_) fun p hp => ?_)
  · obtain ⟨_, _, _, hwb, _⟩ := hμ y _ hyo
    exact mem hwb fun (q : b = a) => hy (F.inj _ _ _ _ _ (q ▸ hyo) hx)
  · have hp' := F.hh p hp
    refine mem hp'.w fun (q : p.1 = a) => ?_
    have := hp'.g
    rw [q, hol] at this
    exact hp'.c _ _ (Option.some.inj this).symm
theorem sub_filter {W W' : List Addr} {a : Addr} (h : ∀ b ∈ W, b ∈ W') (ha : a ∉ W) : ∀ b ∈ W, b ∈ W'.filter (· ≠ a) := fun b hb => List.mem_filter.mpr ⟨h b hb, by simpa using fun (q : b = a) => ha (q ▸ hb)⟩
/-- the next turn -/
theorem Blk.next {Nxt : Shared → Prop} {rest' : List Stmt} {c' : Cx} {E' : Value → Shared → Prop} (h : ∀ s, FrD c s → Nxt s) : Blk c [] (turnQ c' Nxt rest' Q E) E' := Blk.nil h
end
end Mine
end
section
open PySem PySem.W PyProof.Rows PySem.Calls
set_option Elab.async false
set_option linter.unusedVariables false
set_option maxRecDepth 100000
namespace Mine
/-- what the parameters bear -/
def muOf (ps : List (Str × D)) : Mu := fun x => (ps.reverse.lookup x).map .val
theorem lookup_zip {W : List Addr} {h : Heap} : ∀ (bs : List (Str × Value)) (ps : List (Str × D)), bs.map (·.1) = ps.map (·.1) → DenAll W h (bs.map (·.2)) (ps.map (·.2)) → ∀ x d, ps.lookup x = some d → ∃ v, bs.lookup x = some v ∧ Den W h v d := by
  intro bs
  induction bs with
  | nil => intro ps e _ x d hl; cases ps with | nil => cases hl | cons p ps => cases e
  | cons b bs ih =>
    intro ps e hd x d hl
    cases ps with
    | nil => cases e
    | cons p ps =>
      obtain ⟨n, v⟩ := b
      obtain ⟨n', d'⟩ := p
      simp only [List.map_cons, List.cons.injEq] at e
      obtain ⟨e1, e2⟩ := e
      subst e1
      cases hd with
      | cons x1 r =>
        rw [List.lookup_cons] at hl ⊢
        by_cases hx : x == n
        · rw [hx] at hl ⊢
          cases hl
          exact ⟨v, rfl, x1⟩
        · have hx' : (x == n) = false := by simpa using hx
          rw [hx'] at hl ⊢
          exact ih ps e2 r x d hl
theorem DenAll.rev {W : List Addr} {h : Heap} {vs : List Value} {ds : List D} (x : DenAll W h vs ds) : DenAll W h vs.reverse ds.reverse := by
  induction vs generalizing ds with
  | nil => cases x; exact .nil
  | cons v vs ih =>
    cases x with
    | cons x r =>
      rw [List.reverse_cons, List.reverse_cons]
      exact (ih r).append (.cons x .nil)
section
variable {prog : Program} {w : World} {A : Around} {s : Shared} {R : Result → Shared → Prop} {W : List Addr}
/-- the frame at a call's start -/
theorem FrD.start {name : Str} {scope : Scope} {a L : Addr} {cd : Value} {h₁ : Heap} {tk : Nat} {binds : List (Str × Value)} {ps : List (Str × D)} {A : Around} (hW : Live W s.heap) (F : Fr s.heap L h₁ (fun x => binds.reverse.lookup x)) (hL : L = s.heap.objs.size) (hn : binds.map (·.1) = ps.map (·.1)) (hd : DenAll W s.heap (binds.map (·.2)) (ps.map (·.2))) :
    FrD { prog := prog, w := w, A := A, nm := name, sc := scope, fa := a, cd := cd, W := L :: W, s₀ := s, L := L, μ := muOf ps, H := [], V := [], G := [], s₁ := s, lo := (· < L), top := L, z := L } { s with heap := h₁, toks := tk } := by
  have e : Ext s { s with heap := h₁, toks := tk } := .heap tk F.keep
  have bar : ∀ b ∈ L :: W, b ∉ W → s.heap.get? b = none := fun b hb hn => by
    rcases List.mem_cons.mp hb with rfl | h
    · rw [hL]; exact get_size _
    · exact absurd h hn
  have nv : ∀ (x : Str) (a : Addr) (ds : List D), muOf ps x ≠ some (.own a ds) := fun x a ds hx => by
    simp only [muOf, Option.map_eq_some_iff] at hx
    obtain ⟨d, _, hd⟩ := hx
    cases hd
  refine ⟨⟨_, F, fun x en hx => ?_⟩, fun x y b es fs h1 _ => absurd h1 (nv _ _ _), fun x b es h1 => absurd h1 (nv _ _ _), ⟨let ⟨o, _, _, ho, _⟩ := F.ns; ⟨o, ho⟩, fun b hb => .inl (Nat.le_of_lt hb)⟩, .head _, fun b hb => ?_, e, (fun p hp => nomatch hp), (fun p hp => nomatch hp), (fun p hp => nomatch hp), fun b o _ h => F.keep b o h⟩
  · simp only [muOf, Option.map_eq_some_iff] at hx
    obtain ⟨d, hl, rfl⟩ := hx
    obtain ⟨v, hv, hvd⟩ := lookup_zip binds.reverse ps.reverse (by rw [List.map_reverse, List.map_reverse, hn]) (by rw [List.map_reverse, List.map_reverse]; exact hd.rev) x d hl
    exact ⟨v, hv, (Den.bar bar hvd).ext e⟩
  · rcases List.mem_cons.mp hb with rfl | hb
    · obtain ⟨o, _, _, ho, _⟩ := F.ns
      exact ⟨o, ho⟩
    · exact hW.ext e b hb
/-- the call ends with a value that bears d -/
def retQ (s : Shared) (W : List Addr) (d : D) : Flow → Shared → Prop := fun f s' => ∃ v, f = .ret v ∧ Ext s s' ∧ Den W s'.heap v d
theorem Blk.retD {c : Cx} {e : PySem.Expr} {pos : Pos} {rest : List Stmt} {d : D} {E : Value → Shared → Prop} {W : List Addr} (h : J c e d) (hW : ∀ a ∈ W, a ∈ c.W) : Blk c (.Return (some e) pos :: rest) (retQ c.s₀ W d) E :=
  Blk.ret h fun v s F x => ⟨v, rfl, F.ext, x.sub hW⟩
/-- a def of the text's, called -/
theorem call_fn {K : Frag} {mg mb : Str → Option Value} {name : Str} {params : Arguments} {body : List Stmt} {scope : Scope} {pm cd doc : Value} {a : Addr} {o : Obj} {args : List Value} {binds : List (Str × Value)} {ps : List (Str × D)} {d : D} {k : Nat}
    (T : TopH K mg mb s.heap) (hW : Live W s.heap) (hr : Room A (k + 1)) (ho : s.heap.get? a = some o) (hdata : o.data = .func (docDef name params body scope pm cd doc)) (hcd : s.heap.CodeRec cd name)
    (hbind : bindArgs (docDef name params body scope pm cd doc) ⟨args, []⟩ = pure binds) (hn : binds.map (·.1) = ps.map (·.1)) (hd : DenAll W s.heap (binds.map (·.2)) (ps.map (·.2)))
    (hR : ∀ v s', Ext s s' → Den W s'.heap v d → R (.ok (.ret v)) s')
    (h : ∀ L E, L = s.heap.objs.size → Blk { prog := prog, w := w, A := A.deeper (envOf name scope L a cd), nm := name, sc := scope, fa := a, cd := cd, W := L :: W, s₀ := s, L := L, μ := muOf ps, H := [], V := [], G := [], s₁ := s, lo := (· < L), top := L, z := L } body
(retQ s W d) E)
    (hloc : ∀ x ∈ ps.map (·.1), scope.names.lookup x = some .local := by decide)
    (hco : scope.isCoroutine = false := by rfl) (hgen : scope.isGenerator = false := by rfl) (hk : scope.kind = .function := by rfl)
    (hcell : ∀ x ∈ scope.names, x.2 ≠ .cell := by decide) : codeAny (model prog w) A (.call (.ref a) ⟨args, []⟩) R s := by
  have hb : ∀ x ∈ binds, scope.names.lookup x.1 = some .local := fun x hx => hloc x.1 (hn ▸ List.mem_map_of_mem hx)
  refine call_plain hr.lim ho hdata T.lim hcd hbind hb (fun h₁ F => ?_) hco hgen hk hcell
  refine wpAny_mono ((h _ _ rfl).run _ (FrD.start hW F rfl hn hd)) (fun f s' h' => ?_) fun _ _ x => x
  obtain ⟨v, rfl, e, x⟩ := h'
  exact hR v s' e x
end
end Mine
end
section
open PySem PySem.W PyProof.Rows PySem.Calls
set_option Elab.async false
set_option linter.unusedVariables false
set_option maxRecDepth 100000
namespace Mine
/-- the text's heap, the table of the nested def's code left out -/
noncomputable def K0 (P : Params) : Frag := (hd.heap_39 P).filter fun p => p.1 != 88
noncomputable def fdOf (P : Params) (a : Addr) : FuncData := match (hd.heap_39 P).lookup a with
  | some ⟨_, _, .func f, _⟩ => f
  | _ => { name := "", qualname := "", params := ⟨[], [], none, [], [], none, []⟩, body := .stmts [], scope := ⟨.function, [], false, false, []⟩, globals := 0, closure := [], defaults := .none, kwdefaults := .none, doc := .none, pyModule := .none, code := .none, builtins := 0 }
/-- the text's n-th statement, and a def's parts -/
def stNo (n : Nat) : Stmt := match PySem.Challenge.pw_aq6019_01.main.body.drop n with
  | s :: _ => s
  | [] => .Pass ⟨0, 0, 0, 0⟩
def bdOf : Stmt → List Stmt
  | .FunctionDef _ _ b _ _ _ _ _ _ _ => b
  | .ClassDef _ _ _ b _ _ _ _ _ _ _ => b
  | _ => []
def scOf : Stmt → Scope
  | .FunctionDef _ _ _ _ _ _ s _ _ _ => s
  | _ => ⟨.function, [], false, false, []⟩
def paOf : Stmt → Arguments
  | .FunctionDef _ a _ _ _ _ _ _ _ _ => a
  | _ => ⟨[], [], none, [], [], none, []⟩
def naOf : Stmt → Str
  | .FunctionDef n _ _ _ _ _ _ _ _ _ => n
  | _ => ""
noncomputable abbrev docOf' (P : Params) (a : Addr) (st : Stmt) : FuncData := docDef (naOf st) (paOf st) (bdOf st) (scOf st) (fdOf P a).pyModule (fdOf P a).code (fdOf P a).doc
abbrev Top1 (w : World) (mg mb : Str → Option Value) (h : Heap) : Prop := TopH (K0 w.params) mg mb h
noncomputable abbrev fnObj (P : Params) (a : Addr) (st : Stmt) : Obj := { cls := .type "function", data := .func (docOf' P a st) }
/-- the frame of a call of the text's def at a -/
noncomputable abbrev cxOf (prog : Program) (w : World) (a : Addr) (st : Stmt) (A : Around) (W : List Addr) (s : Shared) (L : Addr) (ps : List (Str × D)) : Cx :=
  { prog := prog, w := w, A := A, nm := naOf st, sc := scOf st, fa := a, cd := (fdOf w.params a).code, W := L :: W, s₀ := s, L := L, μ := muOf ps, H := [], V := [], G := [], s₁ := s, lo := (· < L), top := L, z := L }
/-- the body of the def at a, given ps, ends with d -/
def BodyOk (prog : Program) (w : World) (mg mb : Str → Option Value) (a : Addr) (st : Stmt) (ps : List (Str × D)) (d : D) (k : Nat) : Prop :=
  ∀ s W A L E, Top1 w mg mb s.heap → Room A k → Blk (cxOf prog w a st A W s L ps) (bdOf st) (retQ s W d) E
def fnFine (st : Stmt) (xs : List Str) (gen : Bool) : Bool := xs.all (fun x => decide ((scOf st).names.lookup x = some NameKind.local)) && (!(scOf st).isCoroutine && ((scOf st).isGenerator == gen && (decide ((scOf st).kind = .function) && (scOf st).names.all (fun x => decide (x.2 ≠ .cell)))))
theorem fnFine_iff {st : Stmt} {xs : List Str} {g : Bool} (h : fnFine st xs g = true) : (∀ x ∈ xs, (scOf st).names.lookup x = some .local) ∧ (scOf st).isCoroutine = false ∧ (scOf st).isGenerator = g ∧ (scOf st).kind = .function ∧ ∀ x ∈ (scOf st).names, x.2 ≠ .cell := by
  unfold fnFine at h
  simp only [Bool.and_eq_true, List.all_eq_true, decide_eq_true_eq, Bool.not_eq_true', beq_iff_eq] at h
  obtain ⟨h1, h2, h3, h4, h5⟩ := h
  exact ⟨h1, h2, h3, h4, h5⟩
theorem J_fn {c : Cx} {mg mb : Str → Option Value} {x : Str} {a : Addr} {st : Stmt} {args : List PySem.Expr} {p pos : Pos} {ps : List (Str × D)} {d : D} {k : Nat} (T : Top1 c.w mg mb c.s₀.heap) (hr : Room c.A (k + 1)) (hx : IsName c x (.ref a))
    (ha : JS c (backTo pos (starEach args c.env)) (ps.map (·.2))) (hb : BodyOk c.prog c.w mg mb a st ps d k)
    (ho : (K0 c.w.params).lookup a = some (fnObj c.w.params a st)) (hcd : codeIn (K0 c.w.params) (fdOf c.w.params a).code (naOf st) = true)
    (hbind : ∀ vs : List Value, vs.length = ps.length → ∃ binds, bindArgs (docOf' c.w.params a st) ⟨vs, []⟩ = pure binds ∧ binds.map (·.1) = ps.map (·.1) ∧ binds.map (·.2) = vs)
    (hfine : fnFine st (ps.map (·.1)) false = true)
    (hall : (backTo pos (starEach args c.env)).all (fun x => !x.1) = true := by rfl) : J c (.Call (.Name x p) args [] pos) d :=
  J_callF hx ha hall (T.k _ _ ho) rfl fun s vs R F hvs hR => by
    have T1 := F.top T
    obtain ⟨hloc, hco, hgen, hk, hcell⟩ := fnFine_iff hfine
    obtain ⟨binds, e1, e2, e3⟩ := hbind vs (by have := hvs.length; simpa using this)
    refine call_fn (ps := ps) (d := d) T1 F.live hr (T1.k _ _ ho) rfl (codeRec_of T1.k hcd) e1 e2 (e3 ▸ hvs) hR (fun L E hL => ?_) hloc hco hgen hk hcell
    exact hb s c.W _ L E T1 hr.deeper
theorem nm_some {w : World} {mg mb : Str → Option Value} {h : Heap} {x : Str} {v : Value} (T : Top1 w mg mb h) (e : nsIn (K0 w.params) mainGlobals x = some (some v)) : mg x = some v := mg_of T.k T.g e
theorem nm_none {w : World} {mg mb : Str → Option Value} {h : Heap} {x : Str} (T : Top1 w mg mb h) (e : nsIn (K0 w.params) mainGlobals x = some none) : mg x = none := mg_none_of T.k T.g e
theorem fn86 (P : Params) : (K0 P).lookup 86 = some (fnObj P 86 (stNo 4)) := by kernel_rfl
theorem nm86 (P : Params) : nsIn (K0 P) mainGlobals "git_line" = some (some (.ref 86)) := by kernel_rfl
theorem cd86 (P : Params) : codeIn (K0 P) (fdOf P 86).code (naOf (stNo 4)) = true := by kernel_rfl
theorem fn93 (P : Params) : (K0 P).lookup 93 = some (fnObj P 93 (stNo 5)) := by kernel_rfl
theorem nm93 (P : Params) : nsIn (K0 P) mainGlobals "_parse_message" = some (some (.ref 93)) := by kernel_rfl
theorem cd93 (P : Params) : codeIn (K0 P) (fdOf P 93).code (naOf (stNo 5)) = true := by kernel_rfl
theorem fn100 (P : Params) : (K0 P).lookup 100 = some (fnObj P 100 (stNo 6)) := by kernel_rfl
theorem nm100 (P : Params) : nsIn (K0 P) mainGlobals "_format_message" = some (some (.ref 100)) := by kernel_rfl
theorem cd100 (P : Params) : codeIn (K0 P) (fdOf P 100).code (naOf (stNo 6)) = true := by kernel_rfl
theorem fn108 (P : Params) : (K0 P).lookup 108 = some (fnObj P 108 (stNo 9)) := by kernel_rfl
theorem nm108 (P : Params) : nsIn (K0 P) mainGlobals "_law_bad" = some (some (.ref 108)) := by kernel_rfl
theorem cd108 (P : Params) : codeIn (K0 P) (fdOf P 108).code (naOf (stNo 9)) = true := by kernel_rfl
theorem fn115 (P : Params) : (K0 P).lookup 115 = some (fnObj P 115 (stNo 10)) := by kernel_rfl
theorem nm115 (P : Params) : nsIn (K0 P) mainGlobals "_law_fields" = some (some (.ref 115)) := by kernel_rfl
theorem cd115 (P : Params) : codeIn (K0 P) (fdOf P 115).code (naOf (stNo 10)) = true := by kernel_rfl
theorem fn122 (P : Params) : (K0 P).lookup 122 = some (fnObj P 122 (stNo 11)) := by kernel_rfl
theorem nm122 (P : Params) : nsIn (K0 P) mainGlobals "_law_values" = some (some (.ref 122)) := by kernel_rfl
theorem cd122 (P : Params) : codeIn (K0 P) (fdOf P 122).code (naOf (stNo 11)) = true := by kernel_rfl
theorem fn129 (P : Params) : (K0 P).lookup 129 = some (fnObj P 129 (stNo 12)) := by kernel_rfl
theorem nm129 (P : Params) : nsIn (K0 P) mainGlobals "_law_bodies" = some (some (.ref 129)) := by kernel_rfl
theorem cd129 (P : Params) : codeIn (K0 P) (fdOf P 129).code (naOf (stNo 12)) = true := by kernel_rfl
theorem fn136 (P : Params) : (K0 P).lookup 136 = some (fnObj P 136 (stNo 13)) := by kernel_rfl
theorem nm136 (P : Params) : nsIn (K0 P) mainGlobals "_law_plain" = some (some (.ref 136)) := by kernel_rfl
theorem cd136 (P : Params) : codeIn (K0 P) (fdOf P 136).code (naOf (stNo 13)) = true := by kernel_rfl
theorem fn143 (P : Params) : (K0 P).lookup 143 = some (fnObj P 143 (stNo 14)) := by kernel_rfl
theorem nm143 (P : Params) : nsIn (K0 P) mainGlobals "_law_take" = some (some (.ref 143)) := by kernel_rfl
theorem cd143 (P : Params) : codeIn (K0 P) (fdOf P 143).code (naOf (stNo 14)) = true := by kernel_rfl
theorem fn148 (P : Params) : (K0 P).lookup 148 = some (fnObj P 148 (stNo 15)) := by kernel_rfl
theorem nm148 (P : Params) : nsIn (K0 P) mainGlobals "law" = some (some (.ref 148)) := by kernel_rfl
theorem cd148 (P : Params) : codeIn (K0 P) (fdOf P 148).code (naOf (stNo 15)) = true := by kernel_rfl
theorem nmNo_len (P : Params) : nsIn (K0 P) mainGlobals "len" = some none := by kernel_rfl
theorem nmNo_range (P : Params) : nsIn (K0 P) mainGlobals "range" = some none := by kernel_rfl
theorem nmNo_sum (P : Params) : nsIn (K0 P) mainGlobals "sum" = some none := by kernel_rfl
theorem nmNo_list (P : Params) : nsIn (K0 P) mainGlobals "list" = some none := by kernel_rfl
theorem nmNo_tuple (P : Params) : nsIn (K0 P) mainGlobals "tuple" = some none := by kernel_rfl
theorem nmNo_ValueError (P : Params) : nsIn (K0 P) mainGlobals "ValueError" = some none := by kernel_rfl
theorem bt_len : bootBuiltins "len" = some (.builtin "len") := by decide +kernel
theorem bt_range : bootBuiltins "range" = some (.type "range") := by decide +kernel
theorem bt_sum : bootBuiltins "sum" = some (.builtin "sum") := by decide +kernel
theorem bt_list : bootBuiltins "list" = some (.type "list") := by decide +kernel
theorem bt_tuple : bootBuiltins "tuple" = some (.type "tuple") := by decide +kernel
theorem bind108 (P : Params) : bindArgs (docOf' P 108 (stNo 9)) ⟨[], []⟩ = pure [] := by kernel_rfl
theorem fine108 : fnFine (stNo 9) [] false = true := by kernel_rfl
theorem bind115 (P : Params) : bindArgs (docOf' P 115 (stNo 10)) ⟨[], []⟩ = pure [] := by kernel_rfl
theorem fine115 : fnFine (stNo 10) [] false = true := by kernel_rfl
theorem bind122 (P : Params) : bindArgs (docOf' P 122 (stNo 11)) ⟨[], []⟩ = pure [] := by kernel_rfl
theorem fine122 : fnFine (stNo 11) [] false = true := by kernel_rfl
theorem bind129 (P : Params) : bindArgs (docOf' P 129 (stNo 12)) ⟨[], []⟩ = pure [] := by kernel_rfl
theorem fine129 : fnFine (stNo 12) [] false = true := by kernel_rfl
theorem bind136 (P : Params) : ∀ v0 : Value, bindArgs (docOf' P 136 (stNo 13)) ⟨[v0], []⟩ = pure ([("text", v0)] : List (Str × Value)) := by intros; kernel_rfl
theorem fine136 : fnFine (stNo 13) ["text"] false = true := by kernel_rfl
theorem bind143 (P : Params) : ∀ v0 : Value, bindArgs (docOf' P 143 (stNo 14)) ⟨[v0], []⟩ = pure ([("chunks", v0)] : List (Str × Value)) := by intros; kernel_rfl
theorem fine143 : fnFine (stNo 14) ["chunks"] false = true := by kernel_rfl
theorem bind148 (P : Params) : ∀ v0 : Value, bindArgs (docOf' P 148 (stNo 15)) ⟨[v0], []⟩ = pure ([("script", v0)] : List (Str × Value)) := by intros; kernel_rfl
theorem fine148 : fnFine (stNo 15) ["script"] false = true := by kernel_rfl
/-- what the row lists bear -/
def badB : List (List UInt8) := [[98, 97, 114, 101, 10], [13, 10], [109, 10]]
def fieldsB : List (List UInt8) := [[116, 114, 101, 101], [112, 97, 114, 101, 110, 116], [120, 45, 121], [255]]
def valuesB : List (List UInt8) := [[], [97], [97, 32, 98], [97, 10, 98], [10], [97, 10], [10, 10], [32], [32, 97, 10, 32, 98]]
def bodiesD : List D := [.none, .bytes [], .bytes [109], .bytes [109, 10, 10, 110], .bytes [10], .bytes [32, 120, 10]]
section
variable {prog : Program} {w : World} {mg mb : Str → Option Value}
theorem bad_ok : BodyOk prog w mg mb 108 (stNo 9) [] (.list (badB.map .bytes)) 0 := fun s W A L E T r =>
  Blk.retD (J_list (JS.cons J_bytes (JS.cons J_bytes (JS.cons J_bytes JS.nil)))) (fun _ h => .tail _ h)
theorem fields_ok : BodyOk prog w mg mb 115 (stNo 10) [] (.list (fieldsB.map .bytes)) 0 := fun s W A L E T r =>
  Blk.retD (J_list (JS.cons J_bytes (JS.cons J_bytes (JS.cons J_bytes (JS.cons J_bytes JS.nil))))) (fun _ h => .tail _ h)
theorem values_ok : BodyOk prog w mg mb 122 (stNo 11) [] (.list (valuesB.map .bytes)) 0 := fun s W A L E T r => by
  refine Blk.retD (J_list (ds := valuesB.map .bytes) ?_ (by decide)) (fun _ h => .tail _ h)
  repeat refine JS.cons J_bytes ?_
  exact JS.nil
theorem bodies_ok : BodyOk prog w mg mb 129 (stNo 12) [] (.list bodiesD) 0 := fun s W A L E T r =>
  Blk.retD (J_list (JS.cons J_none (JS.cons J_bytes (JS.cons J_bytes (JS.cons J_bytes (JS.cons J_bytes (JS.cons J_bytes JS.nil))))))) (fun _ h => .tail _ h)
end
section
variable {c : Cx} {mg mb : Str → Option Value} {p pos : Pos}
theorem J_bad (T : Top1 c.w mg mb c.s₀.heap) (hr : Room c.A 1) (hk : c.sc.kind = .function := by rfl) (hx : c.env.kindOf "_law_bad" = some .globalImplicit := by rfl) : J c (.Call (.Name "_law_bad" p) [] [] pos) (.list (badB.map .bytes)) :=
  J_fn (k := 0) (ps := []) T hr (.global T (nm_some T (nm108 _)) hk hx (by decide)) JS.nil bad_ok (fn108 _) (cd108 _) (fun vs h => by
    obtain rfl : vs = [] := List.eq_nil_of_length_eq_zero h
    exact ⟨[], bind108 _, rfl, rfl⟩) fine108
theorem J_fields (T : Top1 c.w mg mb c.s₀.heap) (hr : Room c.A 1) (hk : c.sc.kind = .function := by rfl) (hx : c.env.kindOf "_law_fields" = some .globalImplicit := by rfl) : J c (.Call (.Name "_law_fields" p) [] [] pos) (.list (fieldsB.map .bytes)) :=
  J_fn (k := 0) (ps := []) T hr (.global T (nm_some T (nm115 _)) hk hx (by decide)) JS.nil fields_ok (fn115 _) (cd115 _) (fun vs h => by
    obtain rfl : vs = [] := List.eq_nil_of_length_eq_zero h
    exact ⟨[], bind115 _, rfl, rfl⟩) fine115
theorem J_values (T : Top1 c.w mg mb c.s₀.heap) (hr : Room c.A 1) (hk : c.sc.kind = .function := by rfl) (hx : c.env.kindOf "_law_values" = some .globalImplicit := by rfl) : J c (.Call (.Name "_law_values" p) [] [] pos) (.list (valuesB.map .bytes)) :=
  J_fn (k := 0) (ps := []) T hr (.global T (nm_some T (nm122 _)) hk hx (by decide)) JS.nil values_ok (fn122 _) (cd122 _) (fun vs h => by
    obtain rfl : vs = [] := List.eq_nil_of_length_eq_zero h
    exact ⟨[], bind122 _, rfl, rfl⟩) fine122
theorem J_bodies (T : Top1 c.w mg mb c.s₀.heap) (hr : Room c.A 1) (hk : c.sc.kind = .function := by rfl) (hx : c.env.kindOf "_law_bodies" = some .globalImplicit := by rfl) : J c (.Call (.Name "_law_bodies" p) [] [] pos) (.list bodiesD) :=
  J_fn (k := 0) (ps := []) T hr (.global T (nm_some T (nm129 _)) hk hx (by decide)) JS.nil bodies_ok (fn129 _) (cd129 _) (fun vs h => by
    obtain rfl : vs = [] := List.eq_nil_of_length_eq_zero h
    exact ⟨[], bind129 _, rfl, rfl⟩) fine129
end
end Mine
end
section
open PySem PySem.W PyProof.Rows PySem.Calls
set_option Elab.async false
set_option linter.unusedVariables false
namespace Mine
section
variable {α : Type} (l : List α)
theorem clip_nat (n k : Nat) : clipAt n (k : Int) = min k n := by unfold clipAt; omega
theorem clip_neg1 (n : Nat) : clipAt n (-1) = n - 1 := by unfold clipAt; omega
theorem cut_to (n : Nat) : cut l none (some (n : Int)) = l.take n := by
  unfold cut
  simp only [Option.elim, clip_nat, List.drop_zero, Nat.sub_zero]
  rw [Nat.min_comm, List.take_eq_take_min, Nat.min_comm]
  simp [Nat.min_comm]
theorem cut_from (n : Nat) : cut l (some (n : Int)) none = l.drop n := by
  unfold cut
  simp only [Option.elim, clip_nat]
  rcases Nat.le_total n l.length with h | h
  · rw [Nat.min_eq_left h, List.take_of_length_le (by simp)]
  · rw [Nat.min_eq_right h, List.drop_of_length_le h, List.drop_length, List.take_nil]
theorem cut_init : cut l none (some (-1)) = l.dropLast := by
  unfold cut
  simp only [Option.elim, clip_neg1, List.drop_zero, Nat.sub_zero]
  rw [List.dropLast_eq_take]
theorem cut_tail1 : cut l (some (-1)) none = l.drop (l.length - 1) := by
  unfold cut
  simp only [Option.elim, clip_neg1]
  rw [List.take_of_length_le (by simp)]
theorem cut_mid (a b : Nat) : cut l (some (a : Int)) (some (b : Int)) = (l.drop a).take (b - a) := by
  unfold cut
  simp only [Option.elim, clip_nat]
  rcases Nat.le_total a l.length with h | h
  · rw [Nat.min_eq_left h]
    rcases Nat.le_total b l.length with h2 | h2
    · rw [Nat.min_eq_left h2]
    · rw [Nat.min_eq_right h2, List.take_of_length_le (i := l.length - a) (by simp), List.take_of_length_le (i := b - a) (by simp; omega)]
  · rw [Nat.min_eq_right h, List.drop_of_length_le h, List.drop_length, List.take_nil, List.take_nil]
end
/-- what a reading tells -/
inductive It where
  | row (k v : List UInt8)
  | fin (b : Option (List UInt8))
def It.d : It → D
  | .row k v => .tuple [.bytes k, .bytes v]
  | .fin none => .tuple [.none, .none]
  | .fin (some b) => .tuple [.none, .bytes b]
/-- a last end of a row taken off -/
def strip (v : List UInt8) : List UInt8 := if v.getLast? = some 10 then v.dropLast else v
def optD : Option Nat → D
  | none => .none
  | some i => .int i
/-- the first empty piece -/
def fstE : List (List UInt8) → Option Nat
  | [] => none
  | p :: ps => if p = [] then some 0 else (fstE ps).map (· + 1)
theorem fstE_snoc (l : List (List UInt8)) (p : List UInt8) : fstE (l ++ [p]) = (fstE l).or (if p = [] then some l.length else none) := by
  induction l with
  | nil => simp [fstE]
  | cons q l ih =>
    rw [List.cons_append, fstE, fstE, ih]
    split
    · rfl
    · cases fstE l with
      | some i => rfl
      | none => split <;> simp_all
theorem fstE_lt : ∀ {l : List (List UInt8)} {i : Nat}, fstE l = some i → i < l.length
  | [], _, h => by cases h
  | p :: ps, i, h => by
    unfold fstE at h
    split at h
    · simp at h; simp; omega
    · rw [Option.map_eq_some_iff] at h
      obtain ⟨j, hj, rfl⟩ := h
      have := fstE_lt hj
      simp; omega
/-- the groups of rows: a header's row and those that go on -/
def stepG (gs : List (List (List UInt8))) (row : List UInt8) : List (List (List UInt8)) :=
  if row.head? = some 32 then (if gs = [] then gs else gs.set (gs.length - 1) (gs.getLastD [] ++ [row.drop 1])) else gs ++ [[row]]
def groupsOf (rows : List (List UInt8)) : List (List (List UInt8)) := rows.foldl stepG []
def rowAt (n : Nat) (closing : List UInt8) (i : Nat) (g : List (List UInt8)) : Option It :=
  (idxB 32 (g.headD [])).map fun j => .row ((g.headD []).take j) (strip (joinB [10] ((g.headD []).drop (j + 1) :: g.drop 1) ++ if i + 1 = n then closing else [10]))
def toldN (gs : List (List (List UInt8))) (closing : List UInt8) (i : Nat) : List It := (List.range i).filterMap fun j => (gs[j]?).bind (rowAt gs.length closing j)
theorem toldN_succ {gs : List (List (List UInt8))} {closing : List UInt8} {i : Nat} {g : List (List UInt8)} {r : It} (hg : gs[i]? = some g) (h : rowAt gs.length closing i g = some r) : toldN gs closing (i + 1) = toldN gs closing i ++ [r] := by
  unfold toldN
  rw [List.range_succ, List.filterMap_append]
  simp [hg, h]
def blankOf (ps : List (List UInt8)) : Option Nat := fstE (ps.take (ps.length - 1))
def headOf (ps : List (List UInt8)) : List (List UInt8) := match blankOf ps with
  | some b => ps.take b
  | none => if ps.getLastD [] ≠ [] then ps else ps.dropLast
def closingOf (ps : List (List UInt8)) : List UInt8 := match blankOf ps with
  | some _ => [10]
  | none => if ps.getLastD [] ≠ [] then [] else [10]
/-- the first group whose row has no space -/
def badG (gs : List (List (List UInt8))) : Option Nat := gs.findIdx? fun g => (idxB 32 (g.headD [])).isNone
/-- the law's reading of a text -/
def plainP (text : List UInt8) : List It × Bool × Bool :=
  let ps := splitB 10 text
  let gs := groupsOf (headOf ps)
  match badG gs with
  | some i => (toldN gs (closingOf ps) i, true, false)
  | none => match blankOf ps with
    | none => (toldN gs (closingOf ps) gs.length ++ [.fin none], false, false)
    | some b => (toldN gs (closingOf ps) gs.length ++ [.fin (some (joinB [10] (ps.drop (b + 1))))], false, decide (headOf ps = [] ∨ ((headOf ps).headD []).head? ≠ some 32))
def plainD (text : List UInt8) : D := .tuple [.list ((plainP text).1.map It.d), .bool (plainP text).2.1, .bool (plainP text).2.2]
end Mine
end
section
open PySem PySem.W PyProof.Rows PySem.Calls
set_option Elab.async false
set_option linter.unusedVariables false
set_option maxRecDepth 100000
namespace Mine
/-- names and what they bear, as a row -/
def lk (l : List (Str × Ent)) : Mu := fun x => l.lookup x
def AllE (μ : Mu) : List (Str × Ent) → Prop
  | [] => True
  | p :: r => μ p.1 = some p.2 ∧ AllE μ r
theorem weak_of {μ : Mu} : ∀ {l : List (Str × Ent)}, AllE μ l → ∀ x e, lk l x = some e → μ x = some e
  | [], _, x, e, h => by cases h
  | p :: r, ⟨h1, h2⟩, x, e, h => by
    unfold lk at h
    rw [List.lookup_cons] at h
    by_cases hx : x == p.1
    · rw [hx] at h
      cases h
      rw [eq_of_beq hx]
      exact h1
    · have hx' : (x == p.1) = false := by simpa using hx
      rw [hx'] at h
      exact weak_of h2 x e h
section
variable {c : Cx} {Q : Flow → Shared → Prop} {E : Value → Shared → Prop} {rest : List Stmt}
def joinQ (c : Cx) (μ' : Mu) (Q : Flow → Shared → Prop) : Flow → Shared → Prop := fun f s => match f with
  | .next => FrD (c.mu μ') s
  | f => Q f s
theorem Blk.ifJoin {t : PySem.Expr} {body orelse : List Stmt} {pos : Pos} {b : Bool} (l : List (Str × Ent)) (h : JB c t b) (h1 : b = true → Blk c body (joinQ c (lk l) Q) E) (h2 : b = false → Blk c orelse (joinQ c (lk l) Q) E) (k : Blk (c.mu (lk l)) rest Q E) : Blk c (.If t body orelse pos :: rest) Q E := by
  have up : ∀ f s, joinQ c (lk l) Q f s → thn c rest Q E f s := fun f s x => by
    cases f with
    | next => exact k.run s x
    | _ => exact x
  exact Blk.if_ h (fun e => (h1 e).mono up) (fun e => (h2 e).mono up)
theorem Blk.join {c' : Cx} {l : List (Str × Ent)} (h : ∀ s, FrD c s → FrD (c'.mu (lk l)) s) : Blk c [] (joinQ c' (lk l) Q) E := Blk.nil h
theorem J_orB {x y : PySem.Expr} {pos : Pos} {a b : Bool} (h : J c x (.bool a)) (k : a = false → J c y (.bool b)) : J c (.BoolOp .Or [x, y] pos) (.bool (a || b)) := .mk fun s E F => by
  refine BoolOp_or (wpAny_mono (h.run s E F) (fun v s₁ ⟨e1, x1⟩ => ?_) fun _ _ x => x)
  have hv := denT_bool x1.top
  subst hv
  refine wpAny_truthy_bool ?_
  cases a with
  | true => exact ⟨e1, .bool _⟩
  | false => exact BoolOp_one (wpAny_mono ((k rfl).run s₁ E (F.go e1)) (fun v s₂ ⟨e2, x2⟩ => ⟨e1.trans e2, by simpa using x2⟩) fun _ _ x => x)
/-- comparison of a row list with none -/
theorem Cmp_neNil {ds : List D} (hu : c.A.units + 64 < cLine) : CmpOk c .NotEq (.list ds) (.list []) (!ds.isEmpty) := by
  cases ds with
  | nil => exact Cmp_neL (n := 0) (fun _ h => nomatch h) (by decide) hu
  | cons d ds => exact Cmp_neLen (by simp) hu
theorem Cmp_eqNil {ds : List D} (hu : c.A.units + 64 < cLine) : CmpOk c .Eq (.list ds) (.list []) ds.isEmpty := by
  cases ds with
  | nil => exact Cmp_eqL (n := 0) (fun _ h => nomatch h) (by decide) hu
  | cons d ds => exact Cmp_eqLen (by simp) hu
end
end Mine
end
section
open PySem PySem.W PyProof.Rows PySem.Calls
set_option Elab.async false
set_option linter.unusedVariables false
set_option maxRecDepth 100000
set_option maxHeartbeats 2000000
namespace Mine
/-- a group -/
def gD (g : List (List UInt8)) : D := .list (g.map .bytes)
theorem groups_snoc (rows : List (List UInt8)) (row : List UInt8) : groupsOf (rows ++ [row]) = stepG (groupsOf rows) row := by unfold groupsOf; rw [List.foldl_append]; rfl
theorem stepG_len (gs : List (List (List UInt8))) (row : List UInt8) : (stepG gs row).length ≤ gs.length + 1 := by
  unfold stepG
  split
  · split <;> simp
  · simp
theorem groups_len (rows : List (List UInt8)) : (groupsOf rows).length ≤ rows.length := by
  suffices h : ∀ (rows : List (List UInt8)) gs, (rows.foldl stepG gs).length ≤ gs.length + rows.length by have := h rows []; rw [List.length_nil, Nat.zero_add] at this; exact this
  intro rows
  induction rows with
  | nil => intro gs; simp
  | cons r rows ih =>
    intro gs
    have := ih (stepG gs r)
    have := stepG_len gs r
    simp only [List.foldl_cons, List.length_cons]
    omega
def Gok (M k : Nat) (gs : List (List (List UInt8))) : Prop := ∀ g ∈ gs, g ≠ [] ∧ g.length ≤ k ∧ ∀ p ∈ g, p.length ≤ M
theorem Gok.step {M k : Nat} {gs : List (List (List UInt8))} {r : List UInt8} (h : Gok M k gs) (hr : r.length ≤ M) : Gok M (k + 1) (stepG gs r) := by
  have wk : Gok M (k + 1) gs := fun g hg => let ⟨a, b, c⟩ := h g hg; ⟨a, Nat.le_succ_of_le b, c⟩
  unfold stepG
  split
  · split
    · exact wk
    · rename_i hne
      intro g hg
      rcases List.mem_or_eq_of_mem_set hg with h1 | h1
      · exact wk g h1
      · subst h1
        have hl : gs.getLastD [] ∈ gs := by
          rw [List.getLastD_eq_getLast?, List.getLast?_eq_some_getLast hne]; exact List.getLast_mem hne
        obtain ⟨a, b, c⟩ := h _ hl
        refine ⟨by simp, by rw [List.length_append]; exact Nat.succ_le_succ b, fun p hp => ?_⟩
        rcases List.mem_append.mp hp with h2 | h2
        · exact c p h2
        · simp at h2; subst h2; simp; omega
  · intro g hg
    rcases List.mem_append.mp hg with h1 | h1
    · exact wk g h1
    · simp at h1; subst h1; exact ⟨by simp, by simp, fun p hp => by simp at hp; subst hp; exact hr⟩
theorem groups_ok {M : Nat} (rows : List (List UInt8)) (h : ∀ r ∈ rows, r.length ≤ M) : Gok M rows.length (groupsOf rows) := by
  suffices hh : ∀ (rows : List (List UInt8)) gs k, (∀ r ∈ rows, r.length ≤ M) → Gok M k gs → Gok M (k + rows.length) (rows.foldl stepG gs) by
    have := hh rows [] 0 h (fun _ h => nomatch h)
    rw [Nat.zero_add] at this; exact this
  intro rows
  induction rows with
  | nil => intro gs k _ h; exact h
  | cons r rows ih =>
    intro gs k hr h
    have := ih (stepG gs r) (k + 1) (fun x hx => hr x (.tail _ hx)) (h.step (hr r (.head _)))
    rw [List.foldl_cons, List.length_cons, show k + (rows.length + 1) = k + 1 + rows.length by omega]
    exact this
theorem toldN_len (gs : List (List (List UInt8))) (cl : List UInt8) (i : Nat) : (toldN gs cl i).length ≤ i := by
  unfold toldN
  exact Nat.le_trans (List.length_filterMap_le _ _) (by simp)
theorem badG_some : ∀ {gs : List (List (List UInt8))} {i : Nat} {g : List (List UInt8)}, gs[i]? = some g → idxB 32 (g.headD []) = none → (∀ j < i, ∀ g, gs[j]? = some g → (idxB 32 (g.headD [])).isNone = false) → badG gs = some i := by
  intro gs i g hg hn hP
  unfold badG
  rw [List.findIdx?_eq_some_iff_getElem]
  obtain ⟨hi, e⟩ := List.getElem?_eq_some_iff.mp hg
  refine ⟨hi, by rw [e, hn]; rfl, fun j hj => ?_⟩
  have := hP j hj gs[j] (List.getElem?_eq_getElem (by omega))
  simp only [this]; simp
theorem badG_none {gs : List (List (List UInt8))} (hP : ∀ j < gs.length, ∀ g, gs[j]? = some g → (idxB 32 (g.headD [])).isNone = false) : badG gs = none := by
  unfold badG
  rw [List.findIdx?_eq_none_iff]
  intro g hg
  obtain ⟨j, hj, rfl⟩ := List.mem_iff_getElem.mp hg
  exact hP j hj _ (List.getElem?_eq_getElem hj)
def get_at {α : Type} (l : List α) (i : Nat) (h : i < l.length) : α := l[i]
theorem get_ex {α : Type} {l : List α} {i : Nat} (h : i < l.length) : l[i]? = some (get_at l i h) := List.getElem?_eq_getElem h
theorem totalB_le (M : Nat) : ∀ (ps : List (List UInt8)), (∀ p ∈ ps, p.length ≤ M) → totalB ps ≤ ps.length * M
  | [], _ => by simp [totalB]
  | p :: ps, h => by
    have := totalB_le M ps fun q hq => h q (.tail _ hq)
    have := h p (.head _)
    simp only [totalB, List.map_cons, List.sum_cons, List.length_cons] at *
    rw [Nat.add_mul]
    omega
theorem joinB_le (sep : List UInt8) (M : Nat) (ps : List (List UInt8)) (h : ∀ p ∈ ps, p.length ≤ M) {B : Nat} (hB : ps.length * M + sep.length * ps.length ≤ B) : (joinB sep ps).length ≤ B := by
  rw [joinB_len]
  have := totalB_le M ps h
  have : sep.length * (ps.length - 1) ≤ sep.length * ps.length := Nat.mul_le_mul_left _ (by omega)
  omega
theorem tail1_eq (l : List UInt8) : (l.drop (l.length - 1) == [10]) = decide (l.getLast? = some 10) := by
  cases h : l.reverse with
  | nil => have : l = [] := by simpa using h
           subst this; rfl
  | cons x r =>
    have : l = r.reverse ++ [x] := by have := congrArg List.reverse h; simpa using this
    subst this
    rw [Bool.eq_iff_iff]
    simp
theorem headOf_len (ps : List (List UInt8)) : (headOf ps).length ≤ ps.length := by
  unfold headOf
  split
  · simp; omega
  · split <;> simp
theorem take1_ne (r : List UInt8) : (r.take 1 != [32]) = (r.head? != some 32) := by
  cases r <;> simp [bne]
theorem last_set {α : Type} (gs : List α) (x y : α) : (gs ++ [x]).set ((gs ++ [x]).length - 1) y = gs ++ [y] := by simp
variable {prog : Program} {w : World} {mg mb : Str → Option Value}
theorem splitB_pos (c : UInt8) (l : List UInt8) : 1 ≤ (splitB c l).length := List.length_pos_iff.mpr (splitB_ne c l)
theorem bytes_get {ps : List (List UInt8)} {i : Nat} {p : List UInt8} (h : ps[i]? = some p) : (ps.map D.bytes)[i]? = some (.bytes p) := by rw [List.getElem?_map, h]; rfl
theorem plain_ok (text : List UInt8) (hz : text.length ≤ 900) : BodyOk prog w mg mb 136 (stNo 13) [("text", .bytes text)] (plainD text) 0 := by
  intro s W A L E T r
  have hhd : A.handled = none := r.hh
  have hu : A.units + 64 < cLine := r.units
  generalize hps : splitB 10 text = ps
  have hlen : 1 ≤ ps.length := hps ▸ splitB_pos 10 text
  have hlen9 : ps.length ≤ 901 := by have := splitB_length 10 text; rw [hps] at this; omega
  refine Blk.assign (J_split (J_name rfl) J_bytes (by omega)) ?_
  rw [hps]
  refine Blk.assign J_none ?_
  refine Blk.forRange (n := ps.length - 1) hhd (.builtin T (nm_none T (nmNo_range _)) bt_range) (fun i => lk [("text", .val (.bytes text)), ("pieces", .val (.list (ps.map .bytes))), ("blank", .val (optD (fstE (ps.take i))))]) (fun _ => True) trivial
    (weak_of ⟨rfl, rfl, rfl, trivial⟩) ((J_subI (J_lenL (.builtin T (nm_none T (nmNo_len _)) bt_len) (J.top (J_name rfl)) (by simp; omega)) J_int).cast (by simp; omega)) (by omega) ?_ ?_
  · intro W' H' V' hW' i hi _ E'
    obtain ⟨p, hp⟩ : ∃ p, ps[i]? = some p := ⟨ps[i], List.getElem?_eq_getElem (by omega)⟩
    have htk : ps.take (i + 1) = ps.take i ++ [p] := by rw [List.take_add_one, hp]; rfl
    have hlt : (ps.take i).length = i := by simp; omega
    have hsn := fstE_snoc (ps.take i) p
    rw [← htk, hlt] at hsn
    cases hf : fstE (ps.take i) with
    | some j =>
      rw [hf] at hsn
      refine Blk.if_ (b := false) ((JB_and (b := false) (JB_cmp (J.top (J_name rfl)) (J.top J_none) Cmp_isNoneI) (fun h => nomatch h)).cast rfl) (fun h => nomatch h) (fun _ => ?_)
      refine Blk.done (Blk.next fun s F => ⟨trivial, F.weaken (weak_of ⟨rfl, rfl, ?_, trivial⟩)⟩)
      rw [hsn]; rfl
    | none =>
      rw [hf] at hsn
      refine Blk.if_ (b := (p == ([] : List UInt8))) ((JB_and (JB_cmp (J.top (J_name rfl)) (J.top J_none) Cmp_isNone) (fun _ => JB_cmp (J.top (J_item (J.top (J_name rfl)) (J_name rfl) (by omega) (by omega) (bytes_get (by simpa using hp)))) (J.top J_bytes) Cmp_eqB)).cast rfl) (fun h => ?_) (fun h => ?_)
      · refine Blk.assign (J_name rfl) (Blk.done (Blk.next fun s F => ⟨trivial, F.weaken (weak_of ⟨rfl, rfl, ?_, trivial⟩)⟩))
        rw [hsn, if_pos (by simpa using h)]; rfl
      · refine Blk.done (Blk.next fun s F => ⟨trivial, F.weaken (weak_of ⟨rfl, rfl, ?_, trivial⟩)⟩)
        rw [hsn, if_neg (by simpa using h)]; rfl
  · intro _
    have hbl : fstE (ps.take (ps.length - 1)) = blankOf ps := rfl
    rw [hbl]
    refine Blk.assign J_bytes ?_
    refine Blk.assign (J_cutL (J.top (J_name rfl)) .none (.some (J_negI J_int)) (by simp; omega)) ?_
    have hlast : ps[ps.length - 1]? = some (ps.getLastD []) := by
      rw [List.getLastD_eq_getLast?, List.getLast?_eq_getElem?, List.getElem?_eq_getElem (show ps.length - 1 < ps.length by omega)]; rfl
    refine Blk.ifJoin (b := (blankOf ps).isSome) [("text", .val (.bytes text)), ("pieces", .val (.list (ps.map .bytes))), ("blank", .val (optD (blankOf ps))), ("closing", .val (.bytes (closingOf ps))), ("head", .val (.list ((headOf ps).map .bytes)))] ?_ (fun h => ?_) (fun h => ?_) ?_
    · cases hf : blankOf ps with
      | some j => exact JB_cmp (J.top ((J_name (d := .int j) rfl))) (J.top J_none) Cmp_isNotNoneI
      | none => exact JB_cmp (J.top ((J_name (d := .none) rfl))) (J.top J_none) Cmp_isNotNone
    · obtain ⟨j, hf⟩ := Option.isSome_iff_exists.mp h
      refine Blk.assign (J_cutL (J.top (J_name rfl)) .none (.some (J_name (d := .int j) (by rw [hf]; rfl))) (by simp; omega)) ?_
      refine Blk.join fun s F => F.weaken (weak_of ⟨rfl, rfl, rfl, ?_, ?_, trivial⟩)
      · rw [show closingOf ps = [10] by unfold closingOf; rw [hf]]; rfl
      · rw [show headOf ps = ps.take j by unfold headOf; rw [hf], List.map_take, ← cut_to]; rfl
    · have hf : blankOf ps = none := by simpa using h
      refine Blk.ifJoin (b := (ps.getLastD [] != ([] : List UInt8))) [("text", .val (.bytes text)), ("pieces", .val (.list (ps.map .bytes))), ("blank", .val (optD (blankOf ps))), ("closing", .val (.bytes (closingOf ps))), ("head", .val (.list ((headOf ps).map .bytes)))]
        (JB_cmp (J.top (J_itemNeg (J.top (J_name rfl)) (J_negI J_int) (by decide) (by simp; omega) (by decide) (bytes_get (p := ps.getLastD []) (by
          have e : (-1 + ((ps.map D.bytes).length : Int)).toNat = ps.length - 1 := by simp; omega
          rw [e]; exact hlast)))) (J.top J_bytes) Cmp_neB) (fun h2 => ?_) (fun h2 => ?_) (Blk.join fun s F => F)
      · have hne : ps.getLastD [] ≠ [] := by simpa using h2
        refine Blk.assign (J_name rfl) ?_
        refine Blk.assign J_bytes ?_
        refine Blk.join fun s F => F.weaken (weak_of ⟨rfl, rfl, rfl, ?_, ?_, trivial⟩)
        · rw [show closingOf ps = [] by unfold closingOf; rw [hf]; exact if_pos hne]; rfl
        · rw [show headOf ps = ps by unfold headOf; rw [hf]; exact if_pos hne]; rfl
      · have hne : ps.getLastD [] = [] := by simpa using h2
        refine Blk.join fun s F => F.weaken (weak_of ⟨rfl, rfl, rfl, ?_, ?_, trivial⟩)
        · rw [show closingOf ps = [10] by unfold closingOf; rw [hf]; exact if_neg (fun h => h hne)]; rfl
        · rw [show headOf ps = ps.dropLast by unfold headOf; rw [hf]; exact if_neg (fun h => h hne), List.map_dropLast, ← cut_init]; rfl
    · generalize hhs : headOf ps = hs
      have hmem : ∀ p ∈ ps, p.length ≤ 900 := fun p hp => by have := splitB_mem 10 text p (hps ▸ hp); omega
      have hsub : ∀ p ∈ hs, p ∈ ps := by
        rw [← hhs]
        unfold headOf
        split
        · exact fun p hp => List.mem_of_mem_take hp
        · split
          · exact fun p hp => hp
          · exact fun p hp => (List.dropLast_subset _) hp
      have hhl : hs.length ≤ 901 := by have := headOf_len ps; rw [hhs] at this; omega
      refine Blk.assignOwn (ds := []) JS.nil (fun ga hga => ?_)
      refine Blk.forList (ds := hs.map .bytes) hhd (fun i => lk [("text", .val (.bytes text)), ("pieces", .val (.list (ps.map .bytes))), ("blank", .val (optD (blankOf ps))), ("closing", .val (.bytes (closingOf ps))), ("head", .val (.list (hs.map .bytes))), ("groups", .own ga ((groupsOf (hs.take i)).map gD))]) (fun _ => True) trivial
        (weak_of ⟨rfl, rfl, rfl, rfl, rfl, rfl, trivial⟩) (J_name rfl) ?_ ?_
      · intro W' H' V' hW' i d hd _ E'
        obtain ⟨row, hrow, rfl⟩ : ∃ row, hs[i]? = some row ∧ d = .bytes row := by
          rw [List.getElem?_map, Option.map_eq_some_iff] at hd
          obtain ⟨row, h1, h2⟩ := hd
          exact ⟨row, h1, h2.symm⟩
        have hi := (List.getElem?_eq_some_iff.mp hrow).1
        have htk : hs.take (i + 1) = hs.take i ++ [row] := by rw [List.take_add_one, hrow]; rfl
        have hgs := groups_snoc (hs.take i) row
        rw [← htk] at hgs
        have hgl : (groupsOf (hs.take i)).length ≤ 901 := by have := groups_len (hs.take i); simp at this; omega
        have hok : Gok 900 901 (groupsOf (hs.take i)) := fun g hg => let ⟨a, b, c⟩ := groups_ok (M := 900) (hs.take i) (fun r hr => hmem r (hsub r (List.mem_of_mem_take hr))) g hg; ⟨a, by simp at b; omega, c⟩
        generalize groupsOf (hs.take i) = gs at hgs hgl hok
        refine Blk.if_ (b := (row.head? != some 32)) ((JB_cmp (J.top (J_cutB (J_name rfl) .none (.some J_int) ?_)) (J.top J_bytes) Cmp_neB).cast ?_) (fun h => ?_) (fun h => ?_)
        · have := hmem row (hsub row (List.mem_of_getElem? hrow)); omega
        · rw [show ((1 : Int)) = ((1 : Nat) : Int) from rfl, cut_to, take1_ne]
        · refine Blk.append rfl (J_list (ds := [.bytes row]) (JS.cons (J_name rfl) JS.nil)) ?_ (by simpa using Nat.le_trans hgl (by decide))
          refine Blk.done (Blk.next fun s F => ⟨trivial, F.weaken (weak_of ⟨rfl, rfl, rfl, rfl, rfl, ?_, trivial⟩)⟩)
          rw [hgs, show stepG gs row = gs ++ [[row]] by unfold stepG; rw [if_neg (by simpa using h)], List.map_append]
          rfl
        · have hsp : row.head? = some 32 := by simpa using h
          refine Blk.if_ (b := !gs.isEmpty) ((JB_cmp (JT_own rfl) (J.top (J_list JS.nil)) (Cmp_neNil hu)).cast (by simp)) (fun h2 => ?_) (fun h2 => ?_)
          · have hne : gs ≠ [] := by simpa using h2
            obtain ⟨gi, g, rfl⟩ : ∃ gi g, gs = gi ++ [g] := ⟨gs.dropLast, gs.getLast hne, (List.dropLast_concat_getLast hne).symm⟩
            refine Blk.setLast (ds := (gi ++ [g]).map gD) (d := gD (g ++ [row.drop 1])) rfl ((J_addL (J.top (J_itemNeg (d := gD g) (JT_own rfl) (J_negI J_int) (by decide) (by simp; omega) (by decide) ?_)) (J.top (J_list (ds := [.bytes (row.drop 1)]) (JS.cons ((J_cutB (J_name rfl) (.some J_int) .none ?_).cast ?_) JS.nil))) ?_).cast ?_) (J_negI J_int) (by simp) ?_
            · have e : (-1 + (((gi ++ [g]).map gD).length : Int)).toNat = gi.length := by simp; omega
              rw [e]; simp
            · have := hmem row (hsub row (List.mem_of_getElem? hrow)); omega
            · rw [show ((1 : Int)) = ((1 : Nat) : Int) from rfl, cut_from]
            · have := (hok g (by simp)).2.1
              simp; omega
            · simp [gD]
            · refine Blk.done (Blk.done (Blk.next fun s F => ⟨trivial, F.weaken (weak_of ⟨rfl, rfl, rfl, rfl, rfl, ?_, trivial⟩)⟩))
              have e1 : stepG (gi ++ [g]) row = gi ++ [g ++ [row.drop 1]] := by
                unfold stepG
                rw [if_pos hsp, if_neg hne, last_set]
                simp
              have e2 : ((gi ++ [g]).map gD).set (((gi ++ [g]).map gD).length - 1) (gD (g ++ [row.drop 1])) = (gi ++ [g ++ [row.drop 1]]).map gD := by
                rw [List.map_append, List.map_append]
                exact last_set _ _ _
              rw [hgs, e1, ← e2]
              rfl
          · have he : gs = [] := by simpa using h2
            refine Blk.done (Blk.done (Blk.next fun s F => ⟨trivial, F.weaken (weak_of ⟨rfl, rfl, rfl, rfl, rfl, ?_, trivial⟩)⟩))
            rw [hgs, show stepG gs row = gs by unfold stepG; rw [if_pos hsp, if_pos he]]
            rfl
      · intro _
        rw [List.length_map, List.take_length]
        have hok : Gok 900 901 (groupsOf hs) := fun g hg => let ⟨a, b, c⟩ := groups_ok (M := 900) hs (fun r hr => hmem r (hsub r hr)) g hg; ⟨a, by omega, c⟩
        have hgl : (groupsOf hs).length ≤ 901 := by have := groups_len hs; omega
        have hpl : plainP text = (match badG (groupsOf hs) with
            | some i => (toldN (groupsOf hs) (closingOf ps) i, true, false)
            | none => match blankOf ps with
              | none => (toldN (groupsOf hs) (closingOf ps) (groupsOf hs).length ++ [.fin none], false, false)
              | some b => (toldN (groupsOf hs) (closingOf ps) (groupsOf hs).length ++ [.fin (some (joinB [10] (ps.drop (b + 1))))], false, decide (hs = [] ∨ (hs.headD []).head? ≠ some 32))) := by
          unfold plainP; dsimp only; rw [hps, hhs]; try rfl
        unfold plainD
        rw [hpl]
        clear hpl
        generalize hgs : groupsOf hs = gs at hok hgl
        generalize hcl : closingOf ps = cl
        have hcll : cl.length ≤ 1 := by rw [← hcl]; unfold closingOf; split; simp; split <;> simp
        refine Blk.assignOwn (ds := []) JS.nil (fun ta hta => ?_)
        have htaW : ta ∉ W := fun h => hta (show ta ∈ ga :: L :: W from .tail _ (.tail _ h))
        refine Blk.forRange (n := gs.length) hhd (.builtin T (nm_none T (nmNo_range _)) bt_range) (fun i => lk [("text", .val (.bytes text)), ("pieces", .val (.list (ps.map .bytes))), ("blank", .val (optD (blankOf ps))), ("closing", .val (.bytes cl)), ("head", .val (.list (hs.map .bytes))), ("groups", .own ga (gs.map gD)), ("told", .own ta ((toldN gs cl i).map It.d))])
          (fun i => ∀ j < i, ∀ g, gs[j]? = some g → (idxB 32 (g.headD [])).isNone = false) (fun j hj => absurd hj (Nat.not_lt_zero _))
          (weak_of ⟨rfl, rfl, rfl, rfl, rfl, rfl, rfl, trivial⟩) ((J_lenL (.builtin T (nm_none T (nmNo_len _)) bt_len) (JT_own rfl) (by simp; omega)).cast (by simp)) (by omega) ?_ ?_
        · intro W' H' V' hW' i hi hP E'
          have key : ∀ g, gs[i]? = some g → True := fun _ _ => trivial
          refine Exists.elim (⟨_, get_ex hi⟩ : ∃ g, gs[i]? = some g) fun g hg => ?_
          have hgk := hok g (List.mem_of_getElem? hg)
          have htl : (toldN gs cl i).length ≤ 901 := Nat.le_trans (toldN_len gs cl i) (by omega)
          have hg0 : (g.map D.bytes)[(0 : Int).toNat]? = some (.bytes (g.headD [])) := by
            cases g with
            | nil => exact absurd rfl hgk.1
            | cons p g => rfl
          have hh9 : (g.headD []).length ≤ 900 := by
            cases g with
            | nil => simp
            | cons p g => exact hgk.2.2 p (.head _)
          refine Blk.assign (d := gD g) (J_item (JT_own rfl) (J_name rfl) (by omega) (by omega) (by simp [hg])) ?_
          refine Blk.if_ (b := !(idxB 32 (g.headD [])).isSome) (JB_cmp (J.top J_bytes) (J.top (J_item (J.top (J_name (d := gD g) rfl)) J_int (by decide) (by decide) hg0)) (Cmp_notInB hhd)) (fun h => ?_) (fun h => ?_)
          · have hno : idxB 32 (g.headD []) = none := by simpa using h
            have hbad : badG gs = some i := badG_some hg hno hP
            rw [hbad]
            refine Blk.disown (x := "told") rfl ?_
            refine Blk.ret (d := .tuple [.list ((toldN gs cl i).map It.d), .bool true, .bool false]) (J_tuple (ds := [.list ((toldN gs cl i).map It.d), .bool true, .bool false]) (JS.cons (J_name rfl) (JS.cons J_bool (JS.cons J_bool JS.nil)))) (fun v s' F' x => ?_)
            exact ⟨v, rfl, F'.ext, x.sub (sub_filter (fun b hb => hW' b (show b ∈ ta :: ga :: L :: W from .tail _ (.tail _ (.tail _ hb)))) htaW)⟩
          · obtain ⟨j, hj⟩ : ∃ j, idxB 32 (g.headD []) = some j := Option.isSome_iff_exists.mp (by simpa using h)
            have hgkl := hgk.2.1
            have hgk9 := hgk.2.2
            clear hgk
            have hj9 := idxB_lt 32 hj
            refine Blk.done ?_
            refine Blk.assign (d := .int (j : Int)) ?_ ?_
            · exact J_index (J_item (J.top (J_name (d := gD g) rfl)) J_int (by decide) (by decide) hg0) J_bytes hj
            have hdr : (g.headD []).drop (j + 1) = cut (g.headD []) (some ((j : Int) + 1)) none := by rw [show ((j : Int) + 1) = ((j + 1 : Nat) : Int) by omega, cut_from]
            have htl1 : (g.drop 1).map D.bytes = cut (g.map D.bytes) (some ((1 : Nat) : Int)) none := by rw [cut_from, List.map_drop]
            have hjl : (joinB [10] ((g.headD []).drop (j + 1) :: g.drop 1)).length ≤ 16777210 := by
              refine joinB_le [10] 900 _ (fun p hp => ?_) ?_
              · rcases List.mem_cons.mp hp with rfl | hp
                · rw [List.length_drop]; omega
                · exact hgk9 p (List.mem_of_mem_drop hp)
              · simp; omega
            generalize hfj : joinB [10] ((g.headD []).drop (j + 1) :: g.drop 1) = fj at hjl
            refine Blk.assign (d := .bytes fj) ?_ ?_
            · rw [← hfj]
              refine J_join (ps := (g.headD []).drop (j + 1) :: g.drop 1) J_bytes (.inl ?_) (by rw [hfj]; omega)
              refine J_addL (a := [.bytes ((g.headD []).drop (j + 1))]) (b := (g.drop 1).map .bytes) ?_ ?_ (by simp; omega)
              · refine J.top (J_list (ds := [.bytes ((g.headD []).drop (j + 1))]) (JS.cons ?_ JS.nil))
                rw [hdr]
                exact J_cutB (J_item (J.top (J_name (d := gD g) rfl)) J_int (by decide) (by decide) hg0) (.some (J_addI (J_name rfl) J_int)) .none (by omega)
              · refine J.top ?_
                rw [htl1]
                exact J_cutL (J.top (J_name (d := gD g) rfl)) (.some J_int) .none (by simp; omega)
            refine Blk.assign (d := .bytes (fj ++ if i + 1 = gs.length then cl else [10])) ?_ ?_
            · refine J_addB (J_name rfl) ?_ ?_
              · refine J_ifExp (b := decide (i + 1 = gs.length)) ((JB_cmp (J.top (J_name rfl)) (J.top (J_subI (J_lenL (ds := gs.map gD) (.builtin T (nm_none T (nmNo_len _)) bt_len) (JT_own rfl) (by simp; omega)) J_int)) Cmp_eqI).cast ?_) (fun h => ?_) (fun h => ?_)
                · rw [Bool.eq_iff_iff]; simp; omega
                · rw [if_pos (by simpa using h)]; exact J_name rfl
                · rw [if_neg (by simpa using h)]; exact J_bytes
              · split <;> (try simp only [List.length_cons, List.length_nil]) <;> omega
            have hful : (fj ++ if i + 1 = gs.length then cl else [10]).length ≤ 16777213 := by
              rw [List.length_append]; split <;> (try simp only [List.length_cons, List.length_nil]) <;> omega
            have hrow : rowAt gs.length cl i g = some (.row ((g.headD []).take j) (strip (fj ++ if i + 1 = gs.length then cl else [10]))) := by
              unfold rowAt; rw [hj, ← hfj]; rfl
            generalize (fj ++ if i + 1 = gs.length then cl else [10]) = full at hful hrow
            refine Blk.ifJoin (b := decide (full.getLast? = some 10)) [("text", .val (.bytes text)), ("pieces", .val (.list (ps.map .bytes))), ("blank", .val (optD (blankOf ps))), ("closing", .val (.bytes cl)), ("head", .val (.list (hs.map .bytes))), ("groups", .own ga (gs.map gD)), ("told", .own ta ((toldN gs cl i).map It.d)),
              ("group", .val (gD g)), ("opening", .val (.int j)), ("full", .val (.bytes (strip full)))]
              ((JB_cmp (J.top (J_cutB (J_name rfl) (.some (J_negI J_int)) .none (by omega))) (J.top J_bytes) Cmp_eqB).cast ?_) (fun h => ?_) (fun h => ?_) ?_
            · rw [cut_tail1, tail1_eq]
            · refine Blk.assign (J_cutB (J_name rfl) .none (.some (J_negI J_int)) (by omega)) ?_
              refine Blk.join fun s F => F.weaken (weak_of ⟨rfl, rfl, rfl, rfl, rfl, rfl, rfl, rfl, rfl, ?_, trivial⟩)
              unfold strip
              rw [if_pos (by simpa using h), ← cut_init]
              rfl
            · refine Blk.join fun s F => F.weaken (weak_of ⟨rfl, rfl, rfl, rfl, rfl, rfl, rfl, rfl, rfl, ?_, trivial⟩)
              unfold strip
              rw [if_neg (by simpa using h)]
              rfl
            · refine Blk.append (d := It.d (.row ((g.headD []).take j) (strip full))) rfl ?_ ?_ (by simpa using Nat.le_trans htl (by decide))
              · refine J_tuple (ds := [.bytes ((g.headD []).take j), .bytes (strip full)]) (JS.cons ?_ (JS.cons (J_name rfl) JS.nil))
                rw [← cut_to]
                exact J_cutB (J_item (J.top (J_name (d := gD g) rfl)) J_int (by decide) (by decide) hg0) .none (.some (J_name rfl)) (by omega)
              · refine Blk.next fun s F => ⟨fun k hk g' hg' => ?_, F.weaken (weak_of ⟨rfl, rfl, rfl, rfl, rfl, rfl, ?_, trivial⟩)⟩
                · rcases Nat.lt_succ_iff_lt_or_eq.mp hk with h1 | h1
                  · exact hP k h1 g' hg'
                  · subst h1
                    rw [hg] at hg'
                    cases hg'
                    rw [hj]; rfl
                · rw [toldN_succ hg hrow, List.map_append]
                  rfl
        · intro hP
          have hng : badG gs = none := badG_none hP
          have htl : (toldN gs cl gs.length).length ≤ 901 := Nat.le_trans (toldN_len gs cl _) hgl
          rw [hng]
          have hsubW : ∀ b ∈ W, b ∈ ta :: ga :: L :: W := fun b hb => .tail _ (.tail _ (.tail _ hb))
          have hp9 : ∀ b, (joinB [10] (ps.drop b)).length ≤ 16777216 := fun b => joinB_le [10] 900 _ (fun p hp => hmem p (List.mem_of_mem_drop hp)) (by simp; omega)
          cases hb : blankOf ps with
          | none =>
            refine Blk.if_ (b := true) (JB_cmp (J.top (J_name (d := .none) rfl)) (J.top J_none) Cmp_isNone) (fun _ => ?_) (fun h => nomatch h)
            refine Blk.ret (d := .tuple [.list ((toldN gs cl gs.length ++ [It.fin none]).map It.d), .bool false, .bool false]) (J_tuple (ds := [.list ((toldN gs cl gs.length ++ [It.fin none]).map It.d), .bool false, .bool false]) (JS.cons ?_ (JS.cons J_bool (JS.cons J_bool JS.nil)))) (fun v s' F' x => ⟨v, rfl, F'.ext, x.sub hsubW⟩)
            rw [List.map_append]
            refine J_addL (a := (toldN gs cl gs.length).map It.d) (b := [.tuple [.none, .none]]) (JT_own rfl) (J.top (J_list (ds := [.tuple [.none, .none]]) (JS.cons (J_tuple (ds := [.none, .none]) (JS.cons J_none (JS.cons J_none JS.nil))) JS.nil))) (by simp; omega)
          | some b =>
            refine Blk.if_ (b := false) (JB_cmp (J.top (J_name (d := .int b) rfl)) (J.top J_none) Cmp_isNoneI) (fun h => nomatch h) (fun _ => Blk.done ?_)
            have hbl2 := fstE_lt (show fstE (ps.take (ps.length - 1)) = some b from hb)
            refine Blk.assign (d := .bool (decide (hs = [] ∨ (hs.headD []).head? ≠ some 32))) ?_ ?_
            · refine J.cast (J_orB (a := (hs.map D.bytes).isEmpty) (b := ((hs.headD []).head? != some 32)) (J_cmp (J.top (J_name rfl)) (J.top (J_list JS.nil)) (Cmp_eqNil hu)) (fun hne => ?_)) ?_
              · cases hs with
                | nil => cases hne
                | cons p hs =>
                  refine (J_cmp (J.top (J_cutB (J_item (d := .bytes p) (J.top (J_name rfl)) J_int (by decide) (by decide) rfl) .none (.some J_int) ?_)) (J.top J_bytes) Cmp_neB).cast ?_
                  · have := hmem p (hsub p (.head _)); omega
                  · rw [show ((1 : Int)) = ((1 : Nat) : Int) from rfl, cut_to, take1_ne]; rfl
              · congr 1; rw [Bool.eq_iff_iff]; cases hs <;> simp
            · refine Blk.ret (d := .tuple [.list ((toldN gs cl gs.length ++ [It.fin (some (joinB [10] (ps.drop (b + 1))))]).map It.d), .bool false, .bool (decide (hs = [] ∨ (hs.headD []).head? ≠ some 32))])
                (J_tuple (ds := [.list ((toldN gs cl gs.length ++ [It.fin (some (joinB [10] (ps.drop (b + 1))))]).map It.d), .bool false, .bool (decide (hs = [] ∨ (hs.headD []).head? ≠ some 32))]) (JS.cons ?_ (JS.cons J_bool (JS.cons (J_name rfl) JS.nil)))) (fun v s' F' x => ⟨v, rfl, F'.ext, x.sub hsubW⟩)
              rw [List.map_append]
              refine J_addL (a := (toldN gs cl gs.length).map It.d) (b := [.tuple [.none, .bytes (joinB [10] (ps.drop (b + 1)))]]) (JT_own rfl) (J.top (J_list (ds := [.tuple [.none, .bytes (joinB [10] (ps.drop (b + 1)))]]) (JS.cons (J_tuple (ds := [.none, .bytes (joinB [10] (ps.drop (b + 1)))]) (JS.cons J_none (JS.cons (J_join (ps := ps.drop (b + 1)) J_bytes (.inl ?_) (hp9 _)) JS.nil))) JS.nil))) (by simp; omega)
              refine J.cast (J_cutL (J.top (J_name rfl)) (.some (J_addI (J_name (d := .int b) rfl) J_int)) .none (by simp; omega)) ?_
              rw [show ((b : Int) + 1) = ((b + 1 : Nat) : Int) by omega, cut_from, List.map_drop]
end Mine
end
section
open PySem PySem.W PyProof.Rows PySem.Calls
set_option Elab.async false
set_option linter.unusedVariables false
set_option maxRecDepth 100000
namespace Mine
theorem over_push (A : Around) {lc code : Code} {k : Result → Sem PySem.Fin} {g : Bool} {l kp : List Value} {p : Pos} {fs : List Frame} (h1 : lc.weight = 0 := by rfl) (h2 : lc.cUnits = 0 := by rfl) (h3 : lc.envs = [] := by rfl) (h4 : lc.guards = [] := by rfl) :
    A.over lc (.ret k none g l code p kp :: fs) = A.over code fs := by
  unfold Around.over
  rw [List.map_cons, show Frame.where_ (.ret k none g l code p kp) = (code, p) from rfl, frameCount_cons, envsOf_cons, guardsOf_cons, unitsOf_cons, h1, h2, h3, h4]
  have e1 : (marksOver (.ret k none g l code p kp :: fs) (A.handled, A.handled)).1 = (marksOver fs (A.handled, A.handled)).1 := by
    rfl
  rw [e1]
  congr 1
  · omega
  · rw [pushEnvs_eq, pushEnvs_eq, pushEnvs_eq, pushEnvs_eq]
    cases A.frames <;> simp
  · rw [pushGuards_eq, pushGuards_eq, pushGuards_eq, pushGuards_eq]
    cases A.guards <;> simp
  · omega
end Mine
end
section
open PySem PySem.W PyProof.Rows PySem.Calls
set_option Elab.async false
set_option linter.unusedVariables false
set_option maxRecDepth 100000
namespace Mine
/-- what a resumption keeps, as the one who resumes sees it -/
structure KP (L z N g : Nat) (s s' : Shared) : Prop where
  obj : ∀ b o, ((b < N ∧ b ≠ z ∧ b ≠ L) ∨ (o.cls = .type "tuple" ∧ ∃ i n, o.data = .seq i n)) → s.heap.get? b = some o → s'.heap.get? b = some o
  os : s'.os = s.os
  gens : ∀ i x, i < g → s.gens[i]? = some x → s'.gens[i]? = some x
  bare : AllBare s.gens → AllBare s'.gens
/-- an object that is no record -/
def NFat (h : Heap) (b : Addr) : Prop := ∃ o, h.get? b = some o ∧ ∀ vs, o.data ≠ .fields vs
/-- what the one who resumes keeps between two resumptions -/
structure Agree (Wc : List Addr) (g : Nat) (s s' : Shared) : Prop where
  obj : ∀ b o, b ∉ Wc → s.heap.get? b = some o → s'.heap.get? b = some o
  live : ∀ b ∈ Wc, (∃ o, s.heap.get? b = some o) → ∃ o, s'.heap.get? b = some o
  nf : ∀ b ∈ Wc, NFat s.heap b → NFat s'.heap b
  os : s'.os = s.os
  gens : ∀ i x, i ≠ g → s.gens[i]? = some x → s'.gens[i]? = some x
  bare : AllBare s.gens → AllBare s'.gens
/-- a generator's frame beside the one who resumes it -/
structure Side (c : Cx) (Wc : List Addr) (g N : Nat) : Prop where
  lo : ∀ b, c.lo b ↔ b < N
  sub : ∀ b ∈ Wc, b ∈ c.W
  hid : ∀ b ∈ Wc, c.s₀.heap.get? b = none
  lt : ∀ b ∈ Wc, b < N ∧ b ≠ c.z ∧ b ≠ c.L
  gs : c.s₀.gens.size = g + 1
  run : c.s₀.gens[g]? = some .running
  G : ∀ p ∈ c.G, p.1 ≠ g
def Cx.at (c : Cx) (s : Shared) : Cx := { c with s₁ := s }
theorem allBare_get {gens : Array GenState} : AllBare gens ↔ ∀ (i : Nat) x, gens[i]? = some x → x.bare = true := by
  constructor
  · intro h i x hx
    obtain ⟨hi, e⟩ := Array.getElem?_eq_some_iff.mp hx
    exact h x (e ▸ Array.getElem_mem hi)
  · intro h x hx
    obtain ⟨i, hi, e⟩ := Array.mem_iff_getElem.mp hx
    exact h i x (by rw [Array.getElem?_eq_getElem hi, e])
theorem FrD.kp {c : Cx} {s' : Shared} {Wc : List Addr} {g N : Nat} (e : Ext c.s₀ c.s₁) (F : FrD c s') (S : Side c Wc g N) : KP c.L c.z N g c.s₁ s' where
  obj := fun b o h e => F.kr b o (by rcases h with ⟨h1, h2⟩ | h; exact .inl ⟨(S.lo b).mpr h1, h2⟩; exact .inr h) e
  os := F.ext.os.trans e.os.symm
  gens := fun i x hi hx => by
    have hi' : i < c.s₀.gens.size := by rw [S.gs]; omega
    have h0 := Array.getElem?_eq_getElem hi'
    have h1 := e.gens _ _ h0
    rw [hx] at h1
    cases h1
    exact F.ext.gens _ _ h0
  bare := fun h => F.ext.bare (allBare_get.mpr fun i x hx => allBare_get.mp h i x (e.gens _ _ hx))
theorem FrD.resume {c : Cx} {s s' : Shared} {Wc : List Addr} {g N : Nat} (F : FrD c s) (S : Side c Wc g N) (a : Agree Wc g s s') (hrun : s'.gens[g]? = some .running) : Ext c.s₀ s' ∧ FrD (c.at s') s' := by
  obtain ⟨m, hm, hμ⟩ := F.fr
  have hL : c.L ∉ Wc := fun h => (S.lt _ h).2.2 rfl
  have k : Kb c.W s.heap s'.heap := fun b o hb e => a.obj b o (fun h => hb (S.sub b h)) e
  have hs₀ : ∀ b o, c.s₀.heap.get? b = some o → b ∉ Wc := fun b o e h => by rw [S.hid b h] at e; cases e
  have e0 : Ext c.s₀ s' := ⟨fun b o e => a.obj b o (hs₀ b o e) (F.ext.keep b o e), a.os.trans F.ext.os, fun i x hx => by
    by_cases q : i = g
    · subst q
      rw [S.run] at hx
      rw [hrun, ← hx]
    · exact a.gens i x q (F.ext.gens i x hx), fun h => a.bare (F.ext.bare h)⟩
  have live : ∀ b, (∃ o, s.heap.get? b = some o) → ∃ o, s'.heap.get? b = some o := fun b hb => by
    by_cases h : b ∈ Wc
    · exact a.live b h hb
    · obtain ⟨o, ho⟩ := hb; exact ⟨o, a.obj b o h ho⟩
  refine ⟨e0, ⟨m, ⟨let ⟨o, es, ep, h1, r⟩ := hm.ns; ⟨o, es, ep, a.obj _ _ hL h1, r⟩, e0.keep, hm.above⟩, fun y e hy => ?_⟩, F.inj, F.new, ⟨live _ F.tl.1, fun b hb => (F.tl.2 b hb).imp id (live b)⟩, F.lw, fun b hb => live b (F.live b hb), e0,
    fun p hp => let ⟨a1, b1, d, e1, t, f⟩ := F.hh p hp; ⟨a1, b1, d, e1, t, a.obj _ _ (fun h => ?_) f⟩, fun q hq => (F.vv q hq).kb k, fun p hp => a.gens _ _ (S.G p hp) (F.gg p hp), fun b o _ h => h⟩
  · obtain ⟨u, hu, he⟩ := hμ y e hy
    refine ⟨u, hu, ?_⟩
    cases e with
    | val d => exact Den.kb k he
    | own b ds =>
      obtain ⟨r1, r2, vs, n, r3, r4⟩ := he
      have hb : b ∉ Wc := fun h => (F.new y b ds hy).2 ((S.lo b).mpr (S.lt b h).1)
      exact ⟨r1, r2, vs, n, a.obj _ _ hb r3, r4.kb k⟩
  · rcases b1.2 with h3 | h3
    · exact h3 ((S.lo _).mpr (S.lt _ h).1)
    · exact (S.lt _ h).2.1 h3
/-- the items, told one by one -/
def YP (Wc W : List Addr) (L z N g : Nat) (its : List D) : Protocol := fun m s₀ v s' kap =>
  ∃ d, its[its.length - 1 - m]? = some d ∧ Den W s'.heap v d ∧ KP L z N g s₀ s' ∧ s'.gens[g]? = some .running ∧ ∀ s'', Agree Wc g s' s'' → s''.gens[g]? = some .running → kap (.send .none) s''
/-- a spot in a generator's code: no generator's frame above, nothing guarded -/
structure Sp (c : Cx) (A : Around) (code : Code) (fs : List Frame) : Prop where
  a : c.A = A.over code fs
  s : splitAtGen fs = none
  g : fs.any Frame.guarded = false
theorem Sp.push {c : Cx} {A : Around} {code lc : Code} {fs : List Frame} {k : Result → Sem PySem.Fin} {l kp : List Value} {p : Pos} (S : Sp c A code fs) (h1 : lc.weight = 0 := by rfl) (h2 : lc.cUnits = 0 := by rfl) (h3 : lc.envs = [] := by rfl) (h4 : lc.guards = [] := by rfl) :
    Sp c A lc (.ret k none false l code p kp :: fs) := by
  refine ⟨S.a.trans (over_push A h1 h2 h3 h4).symm, ?_, ?_⟩
  · show (splitAtGen fs).map _ = none
    rw [S.s]; rfl
  · show (false || fs.any Frame.guarded) = false
    rw [S.g]; rfl
abbrev KF := Flow → Sem PySem.Fin
abbrev HF := Value → Sem PySem.Fin
/-- a block of a generator's -/
structure SB (c : Cx) (A : Around) (R : GenEnd) (Y : Protocol) (n : Nat) (code : Code) (fs : List Frame) (K : KF) (H : HF) (b : List Stmt) : Prop where
  run : ∀ s, Ext c.s₀ c.s₁ → FrD c s → Seg c.M A R Y n c.s₁ code ((execs b c.env).wrap K H id id) fs s
section
variable {c : Cx} {A : Around} {R : GenEnd} {Y : Protocol} {n : Nat} {code : Code} {fs : List Frame} {K : KF} {H : HF} {rest : List Stmt}
def thnK (c : Cx) (rest : List Stmt) (K : KF) (H : HF) : KF := fun f => match f with
  | .next => (execs rest c.env).wrap K H id id
  | f => K f
theorem SB.nil (h : ∀ s, Ext c.s₀ c.s₁ → FrD c s → Seg c.M A R Y n c.s₁ code (K .next) fs s) : SB c A R Y n code fs K H [] := .mk fun s e F => seg_execs_nil (h s e F)
theorem SB.done (h : SB c A R Y n code fs K H rest) : SB c A R Y n code fs (thnK c rest K H) H [] := .nil fun s e F => h.run s e F
theorem execs_one {M : Model} {A : Around} {E : Value → Shared → Prop} {s : Shared} {st : Stmt} {env : Env} {Q : Flow → Shared → Prop} (h : wpAny M A (execs [st] env) Q E s) : wpAny M A (exec st env) Q E s := fun Γ p hΓ => by
  have := h Γ p hΓ
  rw [execs_cons, Sem.wp_bind'] at this
  refine Sem.wp_mono M Γ _ (fun f p' s' h' => ?_) (fun _ _ _ h' => h') _ _ this
  cases f with
  | next => exact h'
  | _ => exact h'
/-- a statement that yields nothing -/
theorem SB.plain {st : Stmt} (S : Sp c A code fs) (h : Ext c.s₀ c.s₁ → Blk c [st] (fun f s => Seg c.M A R Y n c.s₁ code (thnK c rest K H f) fs s) (fun x s => Seg c.M A R Y n c.s₁ code (H x) fs s)) : SB c A R Y n code fs K H (st :: rest) := .mk fun s e F => by
  refine seg_execs_cons (seg_wrap ?_)
  have h' := execs_one ((h e).run s F)
  rw [S.a] at h'
  exact wpAny_mono h' (fun f s' x => by cases f <;> exact x) fun _ _ x => x
theorem SB.step {st : Stmt} {c' : Cx} (S : Sp c A code fs) (r : SB c' A R Y n code fs K H rest) (h : ∀ Q E, (∀ s, FrD c' s → Q .next s) → Blk c [st] Q E) (hc : c'.s₁ = c.s₁ := by rfl) (hc0 : c'.s₀ = c.s₀ := by rfl) (hm : c'.M = c.M := by rfl) (he : c'.env = c.env := by rfl) : SB c A R Y n code fs K H (st :: rest) :=
  SB.plain S fun e => h _ _ fun s F => by
    have := r.run s (by rw [hc, hc0]; exact e) F
    rw [hc, hm, he] at this
    exact this
theorem SB.if_ {t : PySem.Expr} {body orelse : List Stmt} {pos : Pos} {b : Bool} (S : Sp c A code fs) (h : JB c t b) (h1 : b = true → SB c A R Y n code fs (thnK c rest K H) H body) (h2 : b = false → SB c A R Y n code fs (thnK c rest K H) H orelse) : SB c A R Y n code fs K H (.If t body orelse pos :: rest) := .mk fun s e F => by
  refine seg_execs_cons ?_
  rw [exec_If, Sem.bind_eq_wrap', Sem.wrap_wrap]
  refine seg_wrap (wpAny_standAt ?_)
  rw [Sem.bind_eq_wrap', Sem.wrap_wrap]
  have hh := h.run s (fun x s' => Seg c.M A R Y n c.s₁ code (H x) fs s') F
  rw [S.a] at hh
  refine seg_wrap (wpAny_mono hh (fun r s₁ ⟨e0, e1⟩ => ?_) fun _ _ x => x)
  subst e0
  cases r with
  | true => exact (h1 rfl).run s₁ e (F.go e1)
  | false => exact (h2 rfl).run s₁ e (F.go e1)
theorem SB.yield {Wc W : List Addr} {g N : Nat} {its : List D} {e : PySem.Expr} {ypos pos : Pos} {d : D} (S : Sp c A code fs) (D : Side c Wc g N) (h : J c e d) (hd : its[its.length - 1 - n]? = some d) (hW : ∀ a ∈ W, a ∈ c.W) (k : ∀ s, SB (c.at s) A R (YP Wc W c.L c.z N g its) n code fs K H rest)
    (hco : c.env.scope.isCoroutine = false := by rfl) (hi : interactive c.env = false := by rfl) :
    SB c A R (YP Wc W c.L c.z N g its) (n + 1) code fs K H (.Expr (.Yield (some e) ypos) pos :: rest) := .mk fun s e0 F => by
  refine seg_execs_cons (seg_Expr_Yield S.s rfl S.g ?_ hco hi)
  have hh := h.run s (fun x s' => Seg c.M A R (YP Wc W c.L c.z N g its) (n + 1) c.s₁ code (H x) fs s') F
  rw [S.a] at hh
  refine wpAny_mono hh (fun v s₁ ⟨e1, x1⟩ kap hk => ?_) fun _ _ x => x
  refine ⟨d, hd, x1.sub hW, (F.go e1).kp e0 D, (F.go e1).ext.gens _ _ D.run, fun s'' ha hr => hk _ _ ?_⟩
  obtain ⟨e2, F2⟩ := (F.go e1).resume D ha hr
  exact (k s'').run s'' e2 F2
end
end Mine
end
section
open PySem PySem.W PyProof.Rows PySem.Calls
set_option Elab.async false
set_option linter.unusedVariables false
set_option maxRecDepth 100000
namespace Mine
section
variable {prog : Program} {w : World} {A : Around} {R : GenEnd} {Y : Protocol} {n : Nat} {s₀ : Shared} {fs : List Frame} {s : Shared} {env : Env}
/-- how a loop passes an exception on -/
def passH (env : Env) : HF := fun e => (do noteFrame e env; theTreesLotGoes e : Sem Unit).wrap (fun _ => .raise e) .raise id id
def turnK (lc : Code) : KF := fun f => match f with
  | .next | .cont => .pure (.again lc)
  | .brk => .pure (.done .next)
  | .ret v => .pure (.done (.ret v))
theorem seg_forLoop {target : Expr} {it : Value} {body orelse : List Stmt}
    (h : wpAny (model prog w) (A.over (.forLoop target it body orelse env) fs) (pyNext it) (fun r s' => match r with
        | none => Seg (model prog w) A R Y n s₀ (.block orelse env) ((model prog w).den (.block orelse env)) fs s'
        | some v => wpAny (model prog w) (A.over (.forLoop target it body orelse env) fs) (letOwnedTupleGo target it v) (fun _ s₁ =>
            wpAny (model prog w) (A.over (.forLoop target it body orelse env) fs) (assign target env v) (fun _ s₂ =>
              Seg (model prog w) A R Y n s₀ (.forLoop target it body orelse env) ((execs body env).wrap (turnK (.forLoop target it body orelse env)) (passH env) id id) fs s₂)
              (fun x s' => Seg (model prog w) A R Y n s₀ (.forLoop target it body orelse env) (passH env x) fs s') s₁)
              (fun x s' => Seg (model prog w) A R Y n s₀ (.forLoop target it body orelse env) (passH env x) fs s') s')
      (fun x s' => Seg (model prog w) A R Y n s₀ (.forLoop target it body orelse env) (passH env x) fs s') s) :
    Seg (model prog w) A R Y n s₀ (.forLoop target it body orelse env) ((model prog w).den (.forLoop target it body orelse env)) fs s := by
  show Seg _ A R Y n s₀ _ ((forTurn target it body orelse env).onRaise (fun x => do noteFrame x env; theTreesLotGoes x)) fs s
  have hP : ∀ e, Sem.wrap (Sem.pure : PySem.Fin → Sem PySem.Fin) (fun e => ((do noteFrame e env; theTreesLotGoes e : Sem Unit)).bind fun _ => (Sem.raise e : Sem PySem.Fin)) id id (Sem.raise e) = passH env e := fun e => Sem.bind_eq_wrap _ _
  rw [Sem.onRaise_eq_wrap]
  unfold forTurn
  rw [Sem.bind_eq_wrap', Sem.wrap_wrap]
  refine seg_wrap (wpAny_standAt ?_)
  rw [Sem.bind_eq_wrap', Sem.wrap_wrap]
  refine seg_wrap (wpAny_onRaise (wpAny_mono h (fun r s₁ h₁ => ?_) fun x s' hx => wpAny_standAt ?_))
  · cases r with
    | none => exact seg_again rfl h₁
    | some v =>
      show Seg _ A R Y n s₀ _ (Sem.wrap _ _ _ _ (letOwnedTupleGo target it v >>= fun _ => assign target env v >>= fun _ => execs body env >>= fun f => match f with
        | .next | .cont => again (.forLoop target it body orelse env)
        | .brk => pure (.done .next)
        | .ret v => pure (.done (.ret v)))) fs s₁
      rw [Sem.bind_eq_wrap', Sem.wrap_wrap]
      refine seg_wrap (wpAny_mono h₁ (fun _ s₂ h₂ => ?_) fun x s' hx => ?_)
      · rw [Sem.bind_eq_wrap', Sem.wrap_wrap]
        refine seg_wrap (wpAny_mono h₂ (fun _ s₃ h₃ => ?_) fun x s' hx => ?_)
        · rw [Sem.bind_eq_wrap', Sem.wrap_wrap]
          refine Eq.mp (congrArg (fun t => Seg (model prog w) A R Y n s₀ (.forLoop target it body orelse env) t fs s₃) ?_) h₃
          exact Sem.wrap_congr (execs body env) id id (fun f => by cases f <;> rfl) (fun e => (hP e).symm)
        · exact (hP x).symm ▸ hx
      · exact (hP x).symm ▸ hx
  · exact (hP x).symm ▸ hx
theorem seg_block {b : List Stmt} (h : Seg (model prog w) A R Y n s₀ (.block b env) ((execs b env).wrap (fun f => .pure (.done f)) (passH env) id id) fs s) :
    Seg (model prog w) A R Y n s₀ (.block b env) ((model prog w).den (.block b env)) fs s := by
  show Seg _ A R Y n s₀ _ (((execs b env).onRaise (fun x => do noteFrame x env; theTreesLotGoes x)) >>= fun f => pure (.done f)) fs s
  rw [Sem.onRaise_eq_wrap, Sem.bind_eq_wrap', Sem.wrap_wrap]
  refine Eq.mp (congrArg (fun t => Seg (model prog w) A R Y n s₀ (.block b env) t fs s) ?_) h
  refine Sem.wrap_congr (execs b env) id id (fun f => rfl) (fun e => ?_)
  rw [Sem.bind_eq_wrap, Sem.wrap_wrap]
  rfl
theorem seg_done {M : Model} {c c₁ : Code} {k : Result → Sem PySem.Fin} {h g l p₁ kp} {f : Flow} (hk : Seg M A R Y n s₀ c₁ (k (.ok f)) fs s) : Seg M A R Y n s₀ c (.pure (.done f)) (.ret k h g l c₁ p₁ kp :: fs) s :=
  seg_leaf (.ok f) hk
/-- entering a loop: the frame that waits for it -/
def loopF (env : Env) (K : KF) (H : HF) (code : Code) (p : Pos) : Frame :=
  .ret (fun r => ((match r with | .ok f => (.pure f : Sem Flow) | .error e => .raise e).onRaise fun (x : Value) => do
        if (← field x 1) == Value.none then unsupported "frame.own-activation:exception-without-traceback"
        setFlight x env.frame).wrap K H id id) none false [] code p []
theorem seg_For {M : Model} {code : Code} {target iter : Expr} {body orelse : List Stmt} {pos : Pos} {K : KF} {H : HF}
    (h : wpAny M (A.over code fs) (eval iter env) (fun x s₁ => wpAny M (A.over code fs) (pyIter x) (fun it s₂ =>
        ∀ p, Seg M A R Y n s₀ (.forLoop target it body orelse env) (M.den (.forLoop target it body orelse env)) (loopF env K H code p :: fs) s₂)
        (fun x s' => Seg M A R Y n s₀ code (H x) fs s') s₁) (fun x s' => Seg M A R Y n s₀ code (H x) fs s') s)
    (hs : ∀ x, foldedSetIterable iter env x = pure x) :
    Seg M A R Y n s₀ code ((exec (.For target iter body orelse pos) env).wrap K H id id) fs s := by
  rw [exec_For, Sem.bind_eq_wrap', Sem.wrap_wrap]
  refine seg_wrap (wpAny_standAt ?_)
  rw [Sem.bind_eq_wrap', Sem.wrap_wrap]
  refine seg_wrap (wpAny_mono h (fun x s₁ h₁ => ?_) fun _ _ y => y)
  rw [Sem.bind_eq_wrap', Sem.wrap_wrap]
  refine seg_wrap (wpAny_of_eq (hs x) ?_)
  rw [Sem.bind_eq_wrap', Sem.wrap_wrap]
  refine seg_wrap (wpAny_standAt ?_)
  rw [Sem.bind_eq_wrap', Sem.wrap_wrap]
  refine seg_wrap (wpAny_holding (wpAny_mono h₁ (fun it s₂ h₂ => ?_) fun _ _ y => y))
  exact seg_call (fun p => h₂ p)
end
end Mine
end
section
open PySem PySem.W PyProof.Rows PySem.Calls
set_option Elab.async false
set_option linter.unusedVariables false
set_option maxRecDepth 100000
namespace Mine
def Cx.re (c : Cx) (W : List Addr) (H : List (Addr × Obj)) (V : List (Value × D)) (μ : Mu) (s : Shared) : Cx := { c with W := W, H := H, V := V, μ := μ, s₁ := s }
theorem letOwned_of {M : Model} {A : Around} {E : Value → Shared → Prop} {s : Shared} {target : PySem.Expr} {it : Addr} {v : Value} {Q : Unit → Shared → Prop} {o : Obj} {nm : String} (ho : s.heap.get? it = some o) (hc : o.cls = .type nm)
    (hn : (["enumerate", "zip", "dict_itemiterator", "dict_reverseitemiterator", "odict_iterator", "itertools.zip_longest", "itertools.pairwise"].contains nm) = false) (h : Q () s) : wpAny M A (letOwnedTupleGo target (.ref it) v) Q E s := by
  unfold letOwnedTupleGo
  cases target with
  | Tuple _ _ _ =>
    cases v with
    | ref a =>
      refine wpAny_bind (wpAny_load ho ?_)
      rw [hc]
      cases hd : o.data with
      | fields vs =>
        dsimp only
        rw [hn]
        exact wpAny_pure h
      | _ => exact wpAny_pure h
    | _ => exact wpAny_pure h
  | List _ _ =>
    cases v with
    | ref a =>
      refine wpAny_bind (wpAny_load ho ?_)
      rw [hc]
      cases hd : o.data with
      | fields vs =>
        dsimp only
        rw [hn]
        exact wpAny_pure h
      | _ => exact wpAny_pure h
    | _ => exact wpAny_pure h
  | _ => exact wpAny_pure h
theorem FrD.atS {c : Cx} {s : Shared} (F : FrD c s) {c' : Cx} (h1 : c'.W = c.W := by rfl) (h2 : c'.s₀ = c.s₀ := by rfl) (h3 : c'.L = c.L := by rfl) (h4 : c'.μ = c.μ := by rfl) (h5 : c'.H = c.H := by rfl) (h6 : c'.V = c.V := by rfl) (h7 : c'.G = c.G := by rfl) (h8 : c'.s₁ = c.s₁ := by rfl) (h9 : c'.lo = c.lo := by rfl) (h10 : c'.top = c.top := by rfl) (h11 : c'.z = c.z := by rfl) : FrD c' s := by
  obtain ⟨prog, w, A, nm, sc, fa, cd, W, s₀, L, μ, H, V, G, s₁, lo, top, z, fn, frm⟩ := c
  obtain ⟨prog', w', A', nm', sc', fa', cd', W', s₀', L', μ', H', V', G', s₁', lo', top', z', fn', frm'⟩ := c'
  simp only at h1 h2 h3 h4 h5 h6 h7 h8 h9 h10 h11
  subst h1 h2 h3 h4 h5 h6 h7 h8 h9 h10 h11
  exact ⟨F.fr, F.inj, F.new, F.tl, F.lw, F.live, F.ext, fun p hp => let ⟨a1, b1, d, e1, t, f⟩ := F.hh p hp; ⟨a1, b1, d, e1, t, f⟩, F.vv, F.gg, F.kr⟩
section
variable {c : Cx} {A : Around} {R : GenEnd} {Y : Protocol} {n : Nat} {code : Code} {fs : List Frame} {K : KF} {H : HF} {rest : List Stmt}
theorem SB.forList {target iter : PySem.Expr} {body : List Stmt} {pos : Pos} {ds : List D} (S : Sp c A code fs) (hh : c.A.handled = none) (I : Nat → Mu) (P : Nat → Prop) (Nn : Nat → Nat) (f : D → Mu → Mu)
    (p0 : P 0) (hn : n = Nn 0) (h0 : ∀ x e, I 0 x = some e → c.μ x = some e) (h : J c iter (.list ds))
    (asg : ∀ (W' : List Addr) (H' : List (Addr × Obj)) (V' : List (Value × D)) (μ : Mu) (s' s : Shared) (v : Value) (d : D) (E : Value → Shared → Prop) (Q : Unit → Shared → Prop), d ∈ ds → FrD (c.re W' H' V' μ s') s → Den W' s.heap v d →
      (∀ s₂, FrD (c.re W' H' V' (f d μ) s') s₂ → Q () s₂) → wpAny c.M c.A (assign target c.env v) Q E s)
    (step : ∀ W' H' V' s' i d, (∀ a ∈ c.W, a ∈ W') → ds[i]? = some d → P i → ∀ lc fs', Sp (c.re W' H' V' (f d (I i)) s') A lc fs' → ∀ K' : KF,
      (∀ s'', P (i + 1) → ∀ s, Ext c.s₀ s'' → FrD (c.re W' H' V' (I (i + 1)) s'') s → Seg c.M A R Y (Nn (i + 1)) s'' lc (K' .next) fs' s) →
      SB (c.re W' H' V' (f d (I i)) s') A R Y (Nn i) lc fs' K' (passH c.env) body)
    (done : ∀ s', P ds.length → SB (c.re c.W c.H c.V (I ds.length) s') A R Y (Nn ds.length) code fs K H rest)
    (hs : ∀ x, foldedSetIterable iter c.env x = pure x := by intro _; rfl) : SB c A R Y n code fs K H (.For target iter body [] pos :: rest) := .mk fun s e0 F => by
  subst hn
  refine seg_execs_cons ?_
  have hh' := h.run s (fun x s' => Seg c.M A R Y (Nn 0) c.s₁ code (H x) fs s') F
  rw [S.a] at hh'
  refine seg_For (wpAny_mono hh' (fun v s₁ ⟨e1, x1⟩ => ?_) fun _ _ y => y) hs
  have F1 := F.go e1
  cases x1 with
  | list hnw hl0 hds =>
  rename_i l vs0 _
  refine wpAny_pyIter_list hl0 fun p => ?_
  have hz := get_size s₁.heap
  have hobj : ({ s₁ with heap := s₁.heap.push { cls := .type "list_iterator", data := .fields #[.ref l, .int 0 0] } } : Shared).heap.get? s₁.heap.objs.size = some { cls := .type "list_iterator", data := .fields #[.ref l, .int 0 0] } := Heap.get?_push_size _ rfl
  have hLs : s₁.heap.objs.size ≠ c.L := by
    obtain ⟨m, hm, _⟩ := F1.fr
    exact (Nat.ne_of_lt hm.ns.lt).symm
  have F2 := (F1.addV (v := .ref l) (d := .list ds) (.list hnw hl0 hds)).hold (.push { cls := .type "list_iterator", data := .fields #[.ref l, .int 0 0] }) hz hobj (by show Value.type "list_iterator" ≠ Value.type "list"; decide) (by show Value.type "list_iterator" ≠ Value.type "tuple"; decide) hLs F1.ge
  generalize hit : s₁.heap.objs.size = it at F2 hLs hobj
  have hnotH : ∀ p ∈ c.H, p.1 ≠ it := fun p hp q => by
    have := (F1.hh p hp).g
    rw [q, ← hit, hz] at this
    cases this
  have hitW : it ∉ c.W := hit ▸ F1.live.next
  have hitt : it ≠ c.top := fun q => by
    obtain ⟨o, ho⟩ := F1.tl.1
    rw [← q, ← hit, hz] at ho
    cases ho
  clear hobj
  have hlw := F1.lw
  have hitlo : ¬ c.lo it := hit ▸ F1.ge.2
  generalize hW : it :: c.W = W' at F2
  have hsub : ∀ a ∈ c.W, a ∈ W' := fun a ha => hW ▸ .tail _ ha
  generalize hlc : Code.forLoop target (.ref it) body [] c.env = lc
  generalize hfs : loopF c.env (fun fl => match fl with | .next => (execs rest c.env).wrap K H id id | fl => K fl) H code p :: fs = fs'
  have S' : Sp c A lc fs' := by
    rw [← hlc, ← hfs]
    exact S.push
  -- what is behind the loop
  have after : ∀ s₁' s', P ds.length → Ext c.s₀ s₁' → FrD (c.re c.W c.H c.V (I ds.length) s₁') s' → ∀ lc', Seg c.M A R Y (Nn ds.length) s₁' lc' (.pure (.done .next)) fs' s' := fun s₁' s' hP e' F' lc' => by
    rw [← hfs]
    exact seg_done ((done s₁' hP).run s' e' F')
  have loop : ∀ k i s₁' s' o, k + i = ds.length → P i → Ext c.s₀ s₁' → FrD (c.re W' ((it, o) :: c.H) ((.ref l, .list ds) :: c.V) (I i) s₁') s' → s'.heap.IsListIter it l i → Seg c.M A R Y (Nn i) s₁' lc (c.M.den lc) fs' s' := by
    intro k
    induction k with
    | zero =>
      intro i s₁' s' o hk hP e' F' hi
      have ei : i = ds.length := by omega
      subst ei
      have hlst := F'.vv (.ref l, .list ds) (.head _)
      have hhd := F'.hh (it, o) (.head _)
      cases hlst with
      | list hnl hl3 hds3 =>
      rename_i vs3
      have hlen := hds3.length
      rw [← hlc]
      refine seg_forLoop ?_
      rw [hlc, ← S'.a]
      refine wpAny_pyNext_list_end hh hi hl3 (by rw [List.getElem?_toArray]; exact List.getElem?_eq_none (by omega)) fun h' he => ?_
      obtain ⟨o0, ho0, hoc0, _⟩ := hi
      have F3' : FrD { (c.re c.W c.H c.V (I ds.length) s₁') with W := it :: c.W } s' := by
        have := (F'.dropH (H := c.H) fun p hp => .tail _ hp).dropV (V := c.V) fun p hp => .tail _ hp
        rw [← hW] at this
        exact this
      have F4 := FrD.forget (c := c.re c.W c.H c.V (I ds.length) s₁') (tk := s'.toks) (h' := h') F3' ho0 (by rw [hoc0]; decide) (by rw [hoc0]; decide) hLs hnotH hhd.n he hlw hitW hitt hitlo
      exact seg_block (seg_execs_nil (after _ _ hP e' F4 _))
    | succ k ih =>
      intro i s₁' s' o hk hP e' F' hi
      have hilt : i < ds.length := by omega
      have hd : ds[i]? = some ds[i] := List.getElem?_eq_getElem hilt
      have hlst := F'.vv (.ref l, .list ds) (.head _)
      have hhd := F'.hh (it, o) (.head _)
      cases hlst with
      | list hnl hl3 hds3 =>
      rename_i vs3
      obtain ⟨v, hv, hvd⟩ := hds3.get hd
      rw [← hlc]
      refine seg_forLoop ?_
      rw [hlc, ← S'.a]
      refine wpAny_pyNext_list_item hi hl3 (x := v) (by simpa using hv) fun h' hi' hsb => ?_
      obtain ⟨o', ho', hoc, hod⟩ := id hi'
      have F4 := FrD.reheld (c := c.re W' c.H ((.ref l, .list ds) :: c.V) (I i) s₁') (H := c.H) F' (tk := s'.toks) (h' := h') hnotH (Heap.SameBut.to hsb) ho' (by rw [hoc]; decide) (by rw [hoc]; decide)
      have hkb : Kb W' s'.heap h' := Kb.change hhd.w (Heap.SameBut.to hsb)
      refine letOwned_of ho' hoc (by decide) ?_
      refine asg W' ((it, o') :: c.H) ((.ref l, .list ds) :: c.V) (I i) s₁' _ v ds[i] _ _ (List.getElem_mem _) F4 (hvd.kb hkb) fun s₂ F5 => ?_
      have S5 : Sp (c.re W' ((it, o') :: c.H) ((.ref l, .list ds) :: c.V) (f ds[i] (I i)) s₁') A lc fs' := ⟨S'.a, S'.s, S'.g⟩
      refine (step W' ((it, o') :: c.H) ((.ref l, .list ds) :: c.V) s₁' i ds[i] hsub hd hP lc fs' S5 (turnK lc) fun s'' hP' s₃ e3 F6 => ?_).run s₂ e' F5
      refine seg_again (by rw [← hlc]; rfl) ?_
      exact ih (i + 1) s'' s₃ o' (by omega) hP' e3 F6 ⟨o', (F6.hh _ (.head _)).g, hoc, hod⟩
  have F2' : FrD (c.re W' ((it, _) :: c.H) ((.ref l, .list ds) :: c.V) (I 0) c.s₁) { s₁ with heap := s₁.heap.push { cls := .type "list_iterator", data := .fields #[.ref l, .int 0 0] } } := F2.weaken h0
  exact loop ds.length 0 c.s₁ _ _ (by omega) p0 e0 F2' ⟨_, (F2.hh _ (.head _)).g, rfl, rfl⟩
theorem SB.assign {x : Str} {e : PySem.Expr} {p pos : Pos} {d : D} (S : Sp c A code fs) (h : J c e d) (r : SB (c.up x (some (.val d))) A R Y n code fs K H rest)
    (hk : c.sc.kind = .function := by rfl) (hl : c.env.kindOf x = some .local := by rfl) (hs : swapsWith e (some (.Name x p)) pos.line c.env = pure false := by rfl) : SB c A R Y n code fs K H (.Assign [.Name x p] e pos :: rest) :=
  SB.step S r (fun Q E q => Blk.assign h (Blk.nil q) hk hl hs)
theorem SB.yieldB {Wc W : List Addr} {g N : Nat} {its : List (List UInt8)} {e : PySem.Expr} {ypos pos : Pos} {r : List UInt8} {k : Nat} (S : Sp c A code fs) (Sd : Side c Wc g N) (hW : ∀ a ∈ W, a ∈ c.W) (h : J c e (.bytes r)) (hk : its[k]? = some r) (hn : n = its.length - k)
    (next : ∀ s, SB (c.at s) A R (YP Wc W c.L c.z N g (its.map D.bytes)) (its.length - (k + 1)) code fs K H rest)
    (hco : c.env.scope.isCoroutine = false := by rfl) (hi : interactive c.env = false := by rfl) :
    SB c A R (YP Wc W c.L c.z N g (its.map D.bytes)) n code fs K H (.Expr (.Yield (some e) ypos) pos :: rest) := by
  have hk' := (List.getElem?_eq_some_iff.mp hk).1
  have e : n = (its.length - (k + 1)) + 1 := by omega
  subst e
  refine SB.yield S Sd h ?_ hW next hco hi
  rw [List.length_map, show its.length - 1 - (its.length - (k + 1)) = k by omega, List.getElem?_map, hk]; rfl
end
end Mine
end
section
open PySem PySem.W PyProof.Rows PySem.Calls
set_option Elab.async false
set_option linter.unusedVariables false
set_option maxRecDepth 100000
namespace Mine
section
variable {prog : Program} {w : World} {A : Around} {s : Shared} {R : Result → Shared → Prop} {W : List Addr}
/-- a function called; the arguments bound with room for a tuple -/
theorem call_fnB {K : Frag} {mg mb : Str → Option Value} {name qual : Str} {params : Arguments} {body : List Stmt} {scope : Scope} {dV kV doc pm cd ct : Value} {an : Option Addr} {a : Addr} {o : Obj} {args : Args} {ps : List (Str × D)} {d : D} {k : Nat}
    (T : TopH K mg mb s.heap) (hW : Live W s.heap) (hr : Room A (k + 1)) (ho : s.heap.get? a = some o) (hdata : o.data = .func (fnOf name qual params body scope dV kV doc pm an cd ct)) (hcd : s.heap.CodeRec cd qual)
    (hbind : ∀ E, wpAny (model prog w) A.in1 (bindArgs (fnOf name qual params body scope dV kV doc pm an cd ct) args) (fun binds s₁ => Ext s s₁ ∧ binds.map (·.1) = ps.map (·.1) ∧ DenAll W s₁.heap (binds.map (·.2)) (ps.map (·.2))) E s)
    (hR : ∀ v s', Ext s s' → Den W s'.heap v d → R (.ok (.ret v)) s')
    (h : ∀ s₁ L E, Ext s s₁ → L = s₁.heap.objs.size → Blk { prog := prog, w := w, A := A.deeper (envOf qual scope L a cd), nm := qual, sc := scope, fa := a, cd := cd, W := L :: W, s₀ := s₁, L := L, μ := muOf ps, H := [], V := [], G := [], s₁ := s₁, lo := (· < L), top := L, z := L } body (retQ s₁ W d) E)
    (hloc : ∀ x ∈ ps.map (·.1), scope.names.lookup x = some .local)
    (hco : scope.isCoroutine = false) (hgen : scope.isGenerator = false) (hk : scope.kind = .function)
    (hcell : ∀ x ∈ scope.names, x.2 ≠ .cell) : codeAny (model prog w) A (.call (.ref a) args) R s := by
  refine codeAny_call_function (fd := fnOf name qual params body scope dV kV doc pm an cd ct) (body := body) hr.lim ho hdata hco hgen rfl hcd (wpAny_mono (hbind _) (fun binds s₁ ⟨e1, hn, hd⟩ => ?_) fun _ _ x => x)
  have hb : ∀ x ∈ binds, scope.names.lookup x.1 = some .local := fun x hx => hloc x.1 (hn ▸ List.mem_map_of_mem hx)
  refine wpAny_newFunctionEnv hcell hb (fun h₁ hns hsb => ⟨(T.ext e1).lim.fresh _ hsb, ?_⟩) hk
  refine codeAny_func ?_
  have F : Fr s₁.heap s₁.heap.objs.size h₁ (fun x => binds.reverse.lookup x) := ⟨hns, fun b o e => hsb.extBut b o (Nat.ne_of_lt (Heap.lt_size e)) (Heap.get?_push_of_some _ e), Nat.le_refl _⟩
  have hW1 : Live W s₁.heap := hW.ext e1
  refine wpAny_mono ((h s₁ _ _ e1 rfl).run _ (FrD.start hW1 F rfl hn hd)) (fun f s' h' => ?_) fun _ _ x => x
  obtain ⟨v, rfl, e, x⟩ := h'
  exact hR v s' (e1.trans e) x
end
end Mine
end
section
open PySem PySem.W PyProof.Rows PySem.Calls
set_option Elab.async false
set_option linter.unusedVariables false
set_option maxRecDepth 100000
set_option maxHeartbeats 1000000
namespace Mine
theorem bind86 (P : Params) (v u : Value) : bindArgs (docOf' P 86 (stNo 4)) ⟨[v, u], []⟩ = (do let t ← newTuple [v, u]; pure ([("items", t)] : List (Str × Value))) := by kernel_rfl
theorem fine86 : fnFine (stNo 4) ["items"] false = true := by kernel_rfl
section
variable {c : Cx} {mg mb : Str → Option Value}
theorem J_git {e1 e2 : PySem.Expr} {p pos : Pos} {a b : List UInt8} (T : Top1 c.w mg mb c.s₀.heap) (hr : Room c.A 1) (h1 : J c e1 (.bytes a)) (h2 : J c e2 (.bytes b)) (hz : a.length + b.length ≤ 1000000)
    (hk : c.sc.kind = .function := by rfl) (hx : c.env.kindOf "git_line" = some .globalImplicit := by rfl) (hs : starEach [e1, e2] c.env = [(false, eval e1 c.env), (false, eval e2 c.env)] := by rfl) :
    J c (.Call (.Name "git_line" p) [e1, e2] [] pos) (.bytes (a ++ [32] ++ b ++ [10])) := by
  refine J_callF (.global T (nm_some T (nm86 _)) hk hx (by decide)) (JS2 h1 h2 hs) (by rw [hs]; rfl) (T.k _ _ (fn86 _)) rfl fun s vs R F hvs hR => ?_
  have T1 := F.top T
  obtain ⟨v, u, rfl, xv, xu⟩ := denAll2 hvs
  obtain ⟨hloc, hco, hgen, hk, hcell⟩ := fnFine_iff fine86
  refine call_fnB (W := c.W) (ps := [("items", .tuple [.bytes a, .bytes b])]) T1 F.live hr (T1.k _ _ (fn86 _)) rfl (codeRec_of T1.k (cd86 _)) (fun E => ?_) hR (fun s₁ L E e1 hL => ?_) hloc hco hgen hk hcell
  · show wpAny _ _ (bindArgs (docOf' c.w.params 86 (stNo 4)) ⟨[v, u], []⟩) _ _ _
    rw [bind86]
    refine wpAny_bind (wpAny_newObj_type (wpAny_pure ⟨.push _, rfl, .cons ?_ .nil⟩) (by show ([v, u].toArray.size : Nat) ≤ sizeLine; rw [sizeLine_eq]; simp))
    exact .tuple F.live.next ⟨_, Heap.get?_push_size _ rfl, rfl, 0, rfl⟩ (.cons (xv.ext (.push _)) (.cons (xu.ext (.push _)) .nil))
  · refine Blk.retD (J_addB (J_join (ps := [a, b]) J_bytes (.inr (J_name rfl)) (by simp [joinB]; omega)) J_bytes (by simp; omega)) (fun _ h => .tail _ h)
end
/-- what is written of a header, and of headers with a message -/
def fmtH (p : List UInt8 × List UInt8) : List (List UInt8) := (p.1 ++ [32] ++ (splitB 10 p.2).headD [] ++ [10]) :: ((splitB 10 p.2).drop 1).map fun l => [32] ++ l ++ [10]
def bodyR : Option (List UInt8) → List (List UInt8)
  | some b => if b = [] then [] else [b]
  | none => []
def fmtAll (hs : List (List UInt8 × List UInt8)) (b : Option (List UInt8)) : List (List UInt8) := hs.flatMap fmtH ++ [10] :: bodyR b
def optB : Option (List UInt8) → D
  | some b => .bytes b
  | none => .none
def hdD (p : List UInt8 × List UInt8) : D := .tuple [.bytes p.1, .bytes p.2]
def doneH (hs : List (List UInt8 × List UInt8)) (i : Nat) : Nat := ((hs.take i).flatMap fmtH).length
theorem fmt_at {hs : List (List UInt8 × List UInt8)} {b : Option (List UInt8)} {i : Nat} {p : List UInt8 × List UInt8} (h : hs[i]? = some p) (j : Nat) (r : List UInt8) (hr : (fmtH p)[j]? = some r) : (fmtAll hs b)[doneH hs i + j]? = some r := by
  have e : hs = hs.take i ++ p :: hs.drop (i + 1) := by
    obtain ⟨hi, e⟩ := List.getElem?_eq_some_iff.mp h
    subst e
    simp
  have hj : j < (fmtH p).length := (List.getElem?_eq_some_iff.mp hr).1
  unfold fmtAll doneH
  generalize hs.take i = l1 at e
  generalize hs.drop (i + 1) = l2 at e
  subst e
  rw [List.flatMap_append, List.flatMap_cons, List.append_assoc, List.append_assoc, List.getElem?_append_right (by omega), Nat.add_sub_cancel_left, List.getElem?_append_left hj, hr]
theorem done_succ {hs : List (List UInt8 × List UInt8)} {i : Nat} {p : List UInt8 × List UInt8} (h : hs[i]? = some p) : doneH hs (i + 1) = doneH hs i + (fmtH p).length := by
  unfold doneH
  rw [List.take_add_one, h, List.flatMap_append]
  simp
theorem done_all (hs : List (List UInt8 × List UInt8)) : doneH hs hs.length = (hs.flatMap fmtH).length := by unfold doneH; rw [List.take_length]
theorem its_at {its : List (List UInt8)} {k n : Nat} {r : List UInt8} (h : its[k]? = some r) (hn : n = its.length - (k + 1)) : (its.map D.bytes)[(its.map D.bytes).length - 1 - n]? = some (.bytes r) := by
  have hk := (List.getElem?_eq_some_iff.mp h).1
  rw [List.length_map, show its.length - 1 - n = k by omega, List.getElem?_map, h]; rfl
variable {prog : Program} {w : World} {mg mb : Str → Option Value}
/-- a generator's frame -/
abbrev cxG (prog : Program) (w : World) (st : Stmt) (a : Addr) (cd : Value) (A : Around) (W : List Addr) (s₀ : Shared) (L : Addr) (ps : List (Str × D)) (s₁ : Shared) (N : Nat) (top z : Addr) : Cx :=
  { prog := prog, w := w, A := A, nm := naOf st, sc := scOf st, fa := a, cd := cd, W := W, s₀ := s₀, L := L, μ := muOf ps, H := [], V := [], G := [], s₁ := s₁, lo := (· < N), top := top, z := z }
theorem Side.re {c : Cx} {Wc : List Addr} {g N : Nat} (S : Side c Wc g N) {c' : Cx} (hW : ∀ a ∈ c.W, a ∈ c'.W) (h0 : c'.s₀ = c.s₀ := by rfl) (hN : c'.lo = c.lo := by rfl) (hz : c'.z = c.z := by rfl) (hL : c'.L = c.L := by rfl) (hG : c'.G = c.G := by rfl) : Side c' Wc g N :=
  ⟨by rw [hN]; exact S.lo, fun b hb => hW b (S.sub b hb), fun b hb => by rw [h0]; exact S.hid b hb, fun b hb => by rw [hL, hz]; exact S.lt b hb, by rw [h0]; exact S.gs, by rw [h0]; exact S.run, by rw [hG]; exact S.G⟩
theorem Sp.re {c c' : Cx} {A : Around} {code : Code} {fs : List Frame} (S : Sp c A code fs) (h : c'.A = c.A := by rfl) : Sp c' A code fs := ⟨h.trans S.a, S.s, S.g⟩
theorem splitB_mem' {c : UInt8} {l p : List UInt8} (h : p ∈ splitB c l) : p.length ≤ l.length := splitB_mem c l p h
theorem headD_mem {α : Type} {l : List α} {d : α} (h : l ≠ []) : l.headD d ∈ l := by cases l with | nil => exact absurd rfl h | cons a l => exact .head _
/-- the frame's body, told one by one -/
theorem fmt_body {cd : Value} {A A' : Around} {W' : List Addr} {s₀ s₁ : Shared} {L N top z : Nat} {R : GenEnd} {code : Code} {K : KF} {H : HF} {Wc W : List Addr} {g : Nat} (hs : List (List UInt8 × List UInt8)) (b : Option (List UInt8)) (T : Top1 w mg mb s₀.heap) (hr : Room A' 1) 
    (S : Sp (cxG prog w (stNo 6) 100 cd A' W' s₀ L [("headers", .list (hs.map hdD)), ("body", optB b)] s₁ N top z) A code []) (Sd : Side (cxG prog w (stNo 6) 100 cd A' W' s₀ L [("headers", .list (hs.map hdD)), ("body", optB b)] s₁ N top z) Wc g N) (hW : ∀ a ∈ W, a ∈ W')
    (hz : ∀ p ∈ hs, p.1.length ≤ 100000 ∧ p.2.length ≤ 100000) (hb : ∀ x, b = some x → x.length ≤ 100000)
    (fin : ∀ s s', Ext s₀ s' → KP L z N g s' s → Seg (model prog w) A R (YP Wc W L z N g ((fmtAll hs b).map D.bytes)) 0 s' code (K .next) [] s) :
    SB (cxG prog w (stNo 6) 100 cd A' W' s₀ L [("headers", .list (hs.map hdD)), ("body", optB b)] s₁ N top z) A R (YP Wc W L z N g ((fmtAll hs b).map D.bytes)) (fmtAll hs b).length code [] K H (bdOf (stNo 6)) := by
  have hhd : A'.handled = none := hr.hh
  generalize hits : fmtAll hs b = its at fin ⊢
  refine SB.forList (ds := hs.map hdD) S hhd (fun i => lk [("headers", .val (.list (hs.map hdD))), ("body", .val (optB b))]) (fun _ => True) (fun i => its.length - doneH hs i)
    (fun d μ => match d with | .tuple [d1, d2] => upd (upd μ "field" (some (.val d1))) "value" (some (.val d2)) | _ => μ) trivial (by simp [doneH]) (weak_of ⟨rfl, rfl, trivial⟩) (J_name rfl) ?_ ?_ ?_
  · intro W1 H1 V1 μ s' s v d E Q hd F x hQ
    obtain ⟨p, hp, rfl⟩ := List.mem_map.mp hd
    exact assign_pairT (c := Cx.re (cxG prog w (stNo 6) 100 cd A' W' s₀ L [("headers", .list (hs.map hdD)), ("body", optB b)] s₁ N top z) W1 H1 V1 μ s') hhd F x.top (fun s₂ F₂ => hQ s₂ F₂) rfl rfl rfl
  · intro W1 H1 V1 s' i d hW1 hd _ lc fs' S1 K' next
    rw [List.getElem?_map, Option.map_eq_some_iff] at hd
    obtain ⟨⟨fl, vl⟩, hp, rfl⟩ := hd
    have hz1 : fl.length ≤ 100000 ∧ vl.length ≤ 100000 := hz _ (List.mem_of_getElem? hp)
    have h0 := fmt_at (b := b) hp 0 _ rfl
    have hj : ∀ j l, ((splitB 10 vl).drop 1)[j]? = some l → its[doneH hs i + (j + 1)]? = some ([32] ++ l ++ [10]) := fun j l hl => hits ▸ fmt_at (b := b) hp (j + 1) _ (by simp only [fmtH, List.getElem?_cons_succ, List.getElem?_map, hl]; rfl)
    have hnx := done_succ hp
    have hlen : (fmtH (fl, vl)).length = ((splitB 10 vl).drop 1).length + 1 := by simp [fmtH]
    rw [hits] at h0
    have hlt := (List.getElem?_eq_some_iff.mp h0).1
    have hne := splitB_ne 10 vl
    have hsl := splitB_length 10 vl
    have hml : ∀ l ∈ splitB 10 vl, l.length ≤ 100000 := fun l hl => Nat.le_trans (splitB_mem' hl) hz1.2
    have hJl : ∀ {c : Cx} {o e : PySem.Expr} {ap pos : Pos}, J c o (.bytes vl) → J c e (.bytes [10]) → attributeBase o "split" c.env (eval o c.env) = eval o c.env → starEach [e] c.env = [(false, eval e c.env)] → (ap.endLine == pos.line) = true → J c (.Call (.Attribute o "split" ap) [e] [] pos) (.list ((splitB 10 vl).map D.bytes)) :=
      fun h1 h2 h3 h4 h5 => J_split h1 h2 (by omega) h3 h4 h5
    generalize splitB 10 vl = ls at *
    refine SB.assign (d := .list (ls.map .bytes)) S1 (hJl (J_name rfl) J_bytes rfl rfl rfl) ?_
    refine SB.yieldB (its := its) (k := doneH hs i) (r := fl ++ [32] ++ ls.headD [] ++ [10]) S1.re (Sd.re (fun a ha => hW1 a ha)) (fun a ha => hW1 a (hW a ha)) ?_ h0 rfl (fun s₂ => ?_)
    · refine J_git T hr (J_name rfl) (J_item (k := 0) (J.top (J_name rfl)) J_int (by decide) (by decide) ?_) ?_
      · cases ls with
        | nil => exact absurd rfl hne
        | cons l r => rfl
      · have := hml _ (headD_mem (d := []) hne); omega
    · refine SB.forList (ds := (ls.drop 1).map .bytes) S1.re hhd (fun j => lk [("headers", .val (.list (hs.map hdD))), ("body", .val (optB b)), ("lines", .val (.list (ls.map .bytes)))]) (fun _ => True) (fun j => its.length - (doneH hs i + 1 + j))
        (fun d μ => upd μ "line" (some (.val d))) trivial rfl (weak_of ⟨rfl, rfl, rfl, trivial⟩) ((J_cutL (J.top (J_name rfl)) (.some J_int) .none (by simp; omega)).cast (by rw [show (1 : Int) = ((1 : Nat) : Int) from rfl, cut_from, List.map_drop])) ?_ ?_ ?_
      · intro W2 H2 V2 μ s' s v d E Q hd F x hQ
        exact assignD (c := Cx.re _ W2 H2 V2 μ s') F x (fun s₃ _ F₃ => hQ s₃ F₃) rfl rfl
      · intro W2 H2 V2 s3 j d hW2 hd _ lc2 fs2 S2 K2 next2
        obtain ⟨l, hl, rfl⟩ : ∃ l, (ls.drop 1)[j]? = some l ∧ d = .bytes l := by
          rw [List.getElem?_map, Option.map_eq_some_iff] at hd
          obtain ⟨l, h1, h2⟩ := hd
          exact ⟨l, h1, h2.symm⟩
        have hl9 := hml l (List.mem_of_mem_drop (List.mem_of_getElem? hl))
        refine SB.yieldB (its := its) (k := doneH hs i + (j + 1)) (r := [32] ++ l ++ [10]) S2 (Sd.re (fun a ha => hW2 a (hW1 a ha))) (fun a ha => hW2 a (hW1 a (hW a ha))) (J_addB (J_addB J_bytes (J_name rfl) (by simp; omega)) J_bytes (by simp; omega)) (hj j l hl) (by omega) (fun s4 => ?_)
        refine SB.nil fun s5 e5 F5 => ?_
        have := next2 s4 trivial s5 e5 (F5.weaken (weak_of ⟨rfl, rfl, rfl, trivial⟩))
        exact (show its.length - (doneH hs i + 1 + (j + 1)) = its.length - (doneH hs i + (j + 1) + 1) by omega) ▸ this
      · intro s3 _
        refine SB.nil fun s5 e5 F5 => ?_
        have := next s3 trivial s5 e5 (F5.weaken (weak_of ⟨rfl, rfl, trivial⟩))
        have el : its.length - doneH hs (i + 1) = its.length - (doneH hs i + 1 + ((ls.drop 1).map D.bytes).length) := by rw [hnx, hlen, List.length_map]; omega
        rw [el] at this
        exact this
  · intro s' _
    have hall : ((hs.map hdD).length) = hs.length := by simp
    rw [hall]
    have h1 : its[doneH hs hs.length]? = some [10] := by rw [← hits, done_all]; unfold fmtAll; rw [List.getElem?_append_right (Nat.le_refl _), Nat.sub_self]; rfl
    refine SB.yieldB (its := its) (k := doneH hs hs.length) (r := [10]) S.re (Sd.re (fun a ha => ha)) hW J_bytes h1 rfl (fun s₂ => ?_)
    have hlen : its.length = doneH hs hs.length + 1 + (bodyR b).length := by rw [← hits, done_all]; unfold fmtAll; simp; omega
    cases b with
    | none =>
      refine SB.if_ (b := false) S.re (JB_plain (d := .none) (J.top (J_name rfl)) .none) (fun h => nomatch h) (fun _ => SB.nil fun s5 e5 F5 => ?_)
      have e0 : its.length - (doneH hs hs.length + 1) = 0 := by rw [hlen]; simp [bodyR]
      rw [e0]
      exact fin s5 s₂ e5 (FrD.kp e5 F5 (Sd.re (fun a ha => ha)))
    | some x =>
      refine SB.if_ (b := !x.isEmpty) S.re (JB_plain (d := .bytes x) (J.top (J_name rfl)) (.bytes _ (Nat.le_trans (hb x rfl) (by decide)))) (fun h => ?_) (fun h => SB.nil fun s5 e5 F5 => ?_)
      · have hx : x ≠ [] := by simpa using h
        have h2 : its[doneH hs hs.length + 1]? = some x := by
          have hb2 : bodyR (some x) = [x] := if_neg hx
          rw [← hits, done_all]; unfold fmtAll
          rw [hb2, List.getElem?_append_right (by omega), Nat.add_sub_cancel_left]; rfl
        refine SB.yieldB (its := its) (k := doneH hs hs.length + 1) (r := x) S.re (Sd.re (fun a ha => ha)) hW (J_name rfl) h2 rfl (fun s3 => SB.nil fun s5 e5 F5 => ?_)
        have e0 : its.length - (doneH hs hs.length + 1 + 1) = 0 := by rw [hlen]; simp [bodyR, hx]
        rw [e0]
        exact fin s5 s3 e5 (FrD.kp e5 F5 (Sd.re (fun a ha => ha)))
      · have hx : x = [] := by simpa using h
        have e0 : its.length - (doneH hs hs.length + 1) = 0 := by rw [hlen]; simp [bodyR, hx]
        rw [e0]
        exact fin s5 s₂ e5 (FrD.kp e5 F5 (Sd.re (fun a ha => ha)))
end Mine
end
section
open PySem PySem.W PyProof.Rows PySem.Calls
set_option Elab.async false
set_option linter.unusedVariables false
set_option maxRecDepth 100000
set_option maxHeartbeats 1000000
namespace Mine
/-- the end of a generator: it returns, Z as it stands then; or it raises, X then -/
def RN (Z : Heap → Prop) (X : Shared → Addr → Shared → Prop) (L z N g : Nat) : GenEnd := fun m s₀ r s' => m = 0 ∧ ((r = .ok (.ret .none) ∧ KP L z N g s₀ s' ∧ Z s'.heap) ∨ ∃ e, r = .error (.ref e) ∧ X s₀ e s')
theorem KP.refl {L z N g : Nat} (s : Shared) : KP L z N g s s := ⟨fun _ _ _ e => e, rfl, fun _ _ _ e => e, fun h => h⟩
theorem KP.trans {L z N g : Nat} {s s' s'' : Shared} (x : KP L z N g s s') (y : KP L z N g s' s'') : KP L z N g s s'' :=
  ⟨fun b o h e => y.obj b o h (x.obj b o h e), y.os.trans x.os, fun i v h e => y.gens i v h (x.gens i v h e), fun h => y.bare (x.bare h)⟩
theorem allBare_set {s : Shared} {g : Nat} {gs : GenState} (h : AllBare s.gens) (hb : gs.bare = true) : AllBare (s.setGen g gs).gens := by
  rw [allBare_get] at h ⊢
  intro i x hx
  by_cases e : i = g
  · subst e
    have hlt : i < s.gens.size := by
      have := (Array.getElem?_eq_some_iff.mp hx).1
      simpa [Shared.setGen] using this
    have := setGen_self (gs := s.gens[i]) (x := gs) (g := i) (s := s) (Array.getElem?_eq_getElem hlt)
    rw [this] at hx
    cases hx
    exact hb
  · have := (GenOnly.setGen s g gs).2 i e
    rw [this] at hx
    exact h i x hx
theorem setGen_ne {s : Shared} {g i : Nat} {gs : GenState} (h : i ≠ g) : (s.setGen g gs).gens[i]? = s.gens[i]? := (GenOnly.setGen s g gs).2 i h
theorem agree_run {Wc : List Addr} {g : Nat} (s : Shared) : Agree Wc g s (s.setGen g .running) :=
  ⟨fun _ _ _ e => e, fun _ _ h => h, fun _ _ h => h, rfl, fun i x h e => (setGen_ne h).trans e, fun h => allBare_set h rfl⟩
theorem Agree.trans {Wc : List Addr} {g : Nat} {s s' s'' : Shared} (x : Agree Wc g s s') (y : Agree Wc g s' s'') : Agree Wc g s s'' :=
  ⟨fun b o h e => y.obj b o h (x.obj b o h e), fun b h e => y.live b h (x.live b h e), fun b h e => y.nf b h (x.nf b h e), y.os.trans x.os, fun i v h e => y.gens i v h (x.gens i v h e), fun h => y.bare (x.bare h)⟩
theorem agree_set {Wc : List Addr} {g : Nat} {s : Shared} {gs : GenState} (hb : gs.bare = true) : Agree Wc g s (s.setGen g gs) :=
  ⟨fun _ _ _ e => e, fun _ _ h => h, fun _ _ h => h, rfl, fun i x h e => (setGen_ne h).trans e, fun h => allBare_set h hb⟩
theorem kp_run {L z N g : Nat} (s : Shared) {gs : GenState} (hb : gs.bare = true) : KP L z N g s (s.setGen g gs) :=
  ⟨fun _ _ _ e => e, rfl, fun i x h e => (setGen_ne (Nat.ne_of_lt h)).trans e, fun h => allBare_set h hb⟩
/-- a generator that has told k of its items -/
structure GIt (prog : Program) (w : World) (A : Around) (a g : Nat) (R : GenEnd) (Wc W : List Addr) (L z N : Nat) (its : List D) (k : Nat) (s : Shared) : Prop where
  obj : s.heap.IsGen a g
  lim : s.heap.NoLimit
  gs : ∃ gs, s.gens[g]? = some gs ∧ gs.bare = true ∧ ∀ s'', Agree Wc g s s'' → s''.gens[g]? = some .running → gs.Goes (model prog w) A.in1 R (YP Wc W L z N g its) (its.length - k) (.send .none) s''
section
variable {prog : Program} {w : World} {A : Around} {a g : Nat} {R : GenEnd} {Wc W : List Addr} {L z N : Nat} {its : List D} {k : Nat} {s : Shared} {E : Value → Shared → Prop}
theorem GIt.agree {s' : Shared} (G : GIt prog w A a g R Wc W L z N its k s) (h : Agree Wc g s s') (ha : a ∉ Wc) (hc : cStatics ∉ Wc) (hg : s'.gens[g]? = s.gens[g]?) : GIt prog w A a g R Wc W L z N its k s' := by
  obtain ⟨⟨o, nm, qn, ho, r⟩, ⟨mc, ⟨oc, es, ep, hoc, r2⟩, hn⟩, gs, hgs, hb, hgo⟩ := G
  exact ⟨⟨o, nm, qn, h.obj _ _ ha ho, r⟩, ⟨mc, ⟨oc, es, ep, h.obj _ _ hc hoc, r2⟩, hn⟩, gs, hg.trans hgs, hb, fun s'' h2 hr => hgo s'' (h.trans h2) hr⟩
theorem KP.isGen {s' : Shared} {a g' : Nat} (x : KP L z N g s s') (h : s.heap.IsGen a g') (ha : a < N ∧ a ≠ z ∧ a ≠ L) : s'.heap.IsGen a g' := by
  obtain ⟨o, nm, qn, ho, r⟩ := h
  exact ⟨o, nm, qn, x.obj _ _ (.inl ha) ho, r⟩
theorem KP.lim {s' : Shared} (x : KP L z N g s s') (h : s.heap.NoLimit) (ha : cStatics < N ∧ cStatics ≠ z ∧ cStatics ≠ L) : s'.heap.NoLimit := by
  obtain ⟨mc, ⟨oc, es, ep, hoc, r2⟩, hn⟩ := h
  exact ⟨mc, ⟨oc, es, ep, x.obj _ _ (.inl ha) hoc, r2⟩, hn⟩
theorem isSubtype_valStop : isSubtype (.type "ValueError") (.type "StopIteration") = pure false := by rw [isSubtype_type]; kernel_rfl
/-- one more item of a generator, or its end -/
theorem next_gen {Z : Heap → Prop} {X : Shared → Addr → Shared → Prop} {Q : Option Value → Shared → Prop} (hh : A.handled = none) (hroom : A.depth < recursionLimit) (ha : a < N ∧ a ≠ z ∧ a ≠ L) (hcs : cStatics < N ∧ cStatics ≠ z ∧ cStatics ≠ L) (hZ : ∀ h o, Z h → Z (h.push o)) (G : GIt prog w A a g (RN Z X L z N g) Wc W L z N its k s)
    (hY : ∀ v d s', k < its.length → its[k]? = some d → Den W s'.heap v d → KP L z N g s s' → GIt prog w A a g (RN Z X L z N g) Wc W L z N its (k + 1) s' → Q (some v) s')
    (hE : ∀ s', its.length ≤ k → KP L z N g s s' → Z s'.heap → Q none s')
    (hX : ∀ s₁ e, its.length ≤ k → X (s.setGen g .running) e s₁ → s₁.heap.IsGen a g ∧ s₁.TypeIs (.ref e) "ValueError" ∧ E (.ref e) (s₁.setGen g .finished)) : wpAny (model prog w) A (pyNext (.ref a)) Q E s := by
  obtain ⟨hobj, hl, gs, hgs, hb, hgo⟩ := id G
  have hgo' := hgo _ (agree_run s) (setGen_self hgs)
  unfold pyNext
  refine wpAny_bind (wpAny_attempt (wpAny_callSpecial?_slot (name := Str.ofString "__next__") hobj.typeIs slot_gen_next
    (wpAny_call_entry slot_gen_next hobj.typeIs entry_gen_next ?_ (args_gen_next _))))
  show wpAny _ A.in1 (Builtin.Generator.genWake (.ref a) (.send .none)) _ _ s
  unfold Builtin.Generator.genWake
  refine wpAny_bind (wpAny_holding (wpAny_genNumber hobj (wpAny_bind (wpAny_genState hgs ?_))))
  cases gs with
  | running => exact hgo'.elim
  | finished => exact hgo'.elim
  | _ =>
    refine wpAny_bind (wpAny_roomToWake hl hroom ?_)
    show wpAny _ A.in1 (.resume g (.send .none) [] _) _ _ s
    refine wpAny_resumeQ hgs hgo' (fun x s₁ hx => ?_) (fun v s₁ gs' hb' hv => ?_)
    · obtain ⟨hm, ⟨rfl, hp, hz⟩ | ⟨e, rfl, hx⟩⟩ := hx
      rotate_left
      · obtain ⟨h1, h2, h3⟩ := hX _ _ (by omega) hx
        show wpAny _ A.in1 (Builtin.Generator.genLeft (.ref a) (.ref e)) _ _ _
        unfold Builtin.Generator.genLeft Builtin.Generator.madeByALambda
        obtain ⟨o, nm, qn, ho, hcl, hdt, _⟩ := h1
        refine wpAny_bind (wpAny_bind (wpAny_load (s := s₁.setGen g .finished) ho (wpAny_pure ?_)))
        rw [hcl, hdt]
        refine wpAny_bind (wpAny_isInstance (b := false) h2 isSubtype_valStop ?_)
        rw [Bool.and_false, if_neg Bool.false_ne_true]
        unfold Builtin.Generator.genEscaped
        refine wpAny_bind (wpAny_isInstance (b := false) h2 isSubtype_valStop ?_)
        refine wpAny_throw ?_
        exact wpAny_bind (wpAny_isInstance (b := false) h2 isSubtype_valStop (wpAny_throw h3))
      show wpAny _ A.in1 (newExc (.type "StopIteration") [] >>= _) _ _ _
      refine wpAny_bind ?_
      simp only [newExc, newTuple]
      refine wpAny_bind (wpAny_newObj_type ?_ (by size_fits))
      refine wpAny_bind (m := firstArgMember _ _) (wpAny_of_eq (a := Value.none) (by first | rfl | (simp only [firstArgMember]; rfl)) ?_)
      refine wpAny_newObj_type ?_ (by size_fits)
      simp only [raiseNew]
      refine wpAny_bind (wpAny_bind (wpAny_handled ?_))
      rw [show A.in1.handled = none from hh]
      refine wpAny_throw ?_
      refine wpAny_bind (wpAny_isInstance (T := "StopIteration") (b := true) ⟨_, Heap.get?_push_size _ rfl, rfl⟩ isSubtype_stop ?_)
      refine wpAny_pure (hE _ (by omega) ?_ (hZ _ _ (hZ _ _ hz)))
      refine ((kp_run s rfl).trans hp).trans ((kp_run s₁ (gs := .finished) rfl).trans ⟨fun b o _ e => Heap.get?_push_of_some _ (Heap.get?_push_of_some _ e), rfl, fun _ _ _ e => e, fun h => h⟩)
    · obtain ⟨d, hd, hden, hkp, hrn, hkap⟩ := hv
      have hkl : k < its.length := by
        rcases Nat.lt_or_ge k its.length with h | h
        · exact h
        · have e0 : its.length - k = 0 := by omega
          rw [e0] at hkap
          exact (hkap s₁ ⟨fun _ _ _ e => e, fun _ _ h => h, fun _ _ h => h, rfl, fun _ _ _ e => e, fun h => h⟩ hrn).elim
      have eidx : its.length - 1 - (its.length - k - 1) = k := by omega
      rw [eidx] at hd
      have hkp' : KP L z N g s (s₁.setGen g gs') := ((kp_run s rfl).trans hkp).trans (kp_run s₁ hb')
      refine wpAny_pure ⟨v, rfl, wpAny_pure (hY v d _ hkl hd hden hkp' ⟨hkp'.isGen hobj ha, hkp'.lim hl hcs, gs', setGen_self hrn, hb', fun s'' hag hr2 => ?_⟩)⟩
      · have := hkap s'' ((agree_set hb').trans hag) hr2
        have em : its.length - k = (its.length - (k + 1)) + 1 := by omega
        rw [em] at this
        exact this
end
end Mine
end
section
open PySem PySem.W PyProof.Rows PySem.Calls
set_option Elab.async false
set_option linter.unusedVariables false
set_option maxRecDepth 100000
set_option maxHeartbeats 1000000
namespace Mine
/-- flat items: octets, none, and tuples of such -/
inductive Fl : D → Prop
  | none : Fl .none
  | bytes (b) : Fl (.bytes b)
  | tuple {ds} : (∀ d ∈ ds, d = .none ∨ ∃ b, d = .bytes b) → Fl (.tuple ds)
theorem Den.small {W W' : List Addr} {h h' : Heap} {v : Value} {d : D} (x : Den W h v d) (hd : d = .none ∨ ∃ b, d = .bytes b) : Den W' h' v d := by
  rcases hd with rfl | ⟨b, rfl⟩
  · cases x; exact .none
  · cases x; exact .bytes _ _
theorem DenAll.small {W W' : List Addr} {h h' : Heap} {vs : List Value} {ds : List D} (x : DenAll W h vs ds) (hd : ∀ d ∈ ds, d = .none ∨ ∃ b, d = .bytes b) : DenAll W' h' vs ds := by
  induction vs generalizing ds with
  | nil => cases x; exact .nil
  | cons v vs ih =>
    cases x with
    | cons x r => exact .cons (x.small (hd _ (.head _))) (ih r fun d h => hd d (.tail _ h))
theorem Den.kp {W : List Addr} {L z N g : Nat} {s s' : Shared} {v : Value} {d : D} (x : Den W s.heap v d) (hf : Fl d) (k : KP L z N g s s') : Den W s'.heap v d := by
  cases hf with
  | none => exact x.small (.inl rfl)
  | bytes b => exact x.small (.inr ⟨b, rfl⟩)
  | tuple h =>
    cases x with
    | tuple ha hl r =>
      obtain ⟨o, ho, hc, n, hd⟩ := hl
      exact .tuple ha ⟨o, k.obj _ _ (.inr ⟨hc, _, _, hd⟩) ho, hc, n, hd⟩ (r.small h)
theorem DenAll.kp {W : List Addr} {L z N g : Nat} {s s' : Shared} {vs : List Value} {ds : List D} (x : DenAll W s.heap vs ds) (hf : ∀ d ∈ ds, Fl d) (k : KP L z N g s s') : DenAll W s'.heap vs ds := by
  induction vs generalizing ds with
  | nil => cases x; exact .nil
  | cons v vs ih =>
    cases x with
    | cons x r => exact .cons (x.kp (hf _ (.head _)) k) (ih r fun d h => hf d (.tail _ h))
section
variable {prog : Program} {w : World} {A : Around} {a g : Nat} {W : List Addr} {L z N S : Nat} {its : List D} {E : Value → Shared → Prop}
theorem agree_list {S : Addr} {g : Nat} {s : Shared} {h' : Heap} (hs : ∀ b o, b ≠ S → s.heap.get? b = some o → h'.get? b = some o) (hl : ∃ o, h'.get? S = some o ∧ ∀ vs, o.data ≠ .fields vs) : Agree [S] g s { s with heap := h' } :=
  ⟨fun b o hb e => hs b o (fun q => hb (q ▸ .head _)) e, fun b hb _ => by rcases List.mem_cons.mp hb with rfl | h; exact let ⟨o, h1, _⟩ := hl; ⟨o, h1⟩; exact absurd h List.not_mem_nil, fun b hb _ => by rcases List.mem_cons.mp hb with rfl | h; exact hl; exact absurd h List.not_mem_nil, rfl, fun _ _ _ e => e, fun h => h⟩
theorem kp_list {S : Addr} {s : Shared} {h' : Heap} {c : Nat} {acc : Array Value} (hS : s.heap.get? S = some (listOf acc c)) (hs : ∀ b o, b ≠ S → s.heap.get? b = some o → h'.get? b = some o) : ∀ b o, b ≠ S ∨ (o.cls = .type "tuple" ∧ ∃ i n, o.data = .seq i n) → s.heap.get? b = some o → h'.get? b = some o := fun b o hb e => by
  by_cases q : b = S
  · subst q
    rcases hb with h | ⟨h, _⟩
    · exact absurd rfl h
    · rw [hS] at e; cases e; exact absurd (show Value.type "list" = Value.type "tuple" from h) (by decide)
  · exact hs b o q e
/-- what the run of a list's filling keeps: all but the list's own object and what the generator alters -/
structure KL (L z N g S : Nat) (s s' : Shared) : Prop where
  obj : ∀ b o, ((b < N ∧ b ≠ z ∧ b ≠ L ∧ b ≠ S) ∨ (o.cls = .type "tuple" ∧ ∃ i n, o.data = .seq i n)) → s.heap.get? b = some o → s'.heap.get? b = some o
  os : s'.os = s.os
  gens : ∀ i x, i < g → s.gens[i]? = some x → s'.gens[i]? = some x
  bare : AllBare s.gens → AllBare s'.gens
theorem KL.of_kp {L z N g S : Nat} {s s' : Shared} (x : KP L z N g s s') : KL L z N g S s s' := ⟨fun b o h e => x.obj b o (by rcases h with ⟨h1, h2, h3, _⟩ | h; exact .inl ⟨h1, h2, h3⟩; exact .inr h) e, x.os, x.gens, x.bare⟩
theorem KL.trans {L z N g S : Nat} {s s' s'' : Shared} (x : KL L z N g S s s') (y : KL L z N g S s' s'') : KL L z N g S s s'' :=
  ⟨fun b o h e => y.obj b o h (x.obj b o h e), y.os.trans x.os, fun i v h e => y.gens i v h (x.gens i v h e), fun h => y.bare (x.bare h)⟩
theorem KL.of_list {L z N g S : Nat} {s : Shared} {h' : Heap} {c : Nat} {acc : Array Value} (hS : s.heap.get? S = some (listOf acc c)) (hs : ∀ b o, b ≠ S → s.heap.get? b = some o → h'.get? b = some o) : KL L z N g S s { s with heap := h' } :=
  ⟨fun b o h e => kp_list hS hs b o (by rcases h with ⟨_, _, _, h4⟩ | h; exact .inl h4; exact .inr h) e, rfl, fun _ _ _ e => e, fun h => h⟩
theorem map_push (its : Array Value) (c : Nat) (v : Value) : ∃ c', Obj.mapSeq (·.push v) (listOf its c) = listOf (its.push v) c' := ⟨_, rfl⟩
theorem push_at {h : Heap} {S : Addr} {acc : List Value} {c : Nat} (v : Value) (hS : h.get? S = some (listOf acc.toArray c)) : ∃ c', (h.update S (Obj.mapSeq (·.push v))).get? S = some (listOf (acc ++ [v]).toArray c') := by
  obtain ⟨c', e⟩ := map_push acc.toArray c v
  refine ⟨c', ?_⟩
  rw [show (acc ++ [v]).toArray = acc.toArray.push v by simp, ← e]
  exact Heap.get?_update_self (Obj.mapSeq (·.push v)) hS rfl
theorem DenAll.kl {W : List Addr} {L z N g S : Nat} {s s' : Shared} {vs : List Value} {ds : List D} (x : DenAll W s.heap vs ds) (hf : ∀ d ∈ ds, Fl d) (k : KL L z N g S s s') : DenAll W s'.heap vs ds :=
  DenAll.kp (L := L) (z := z) (N := 0) (g := g) x hf ⟨fun b o h e => k.obj b o (by rcases h with ⟨h1, _⟩ | h; exact absurd h1 (Nat.not_lt_zero _); exact .inr h) e, k.os, k.gens, k.bare⟩
/-- no raise -/
abbrev noX : Shared → Addr → Shared → Prop := fun _ _ _ => False
/-- the loop that fills a list out of a generator -/
theorem extend_loop {Z : Heap → Prop} {R : Result → Shared → Prop} (hZ : ∀ h o, Z h → Z (h.push o)) (hh : A.handled = none) (hroom : A.depth < recursionLimit) (ha : a < N ∧ a ≠ z ∧ a ≠ L) (hcs : cStatics < N ∧ cStatics ≠ z ∧ cStatics ≠ L) (hS : S < N ∧ S ≠ z ∧ S ≠ L) (haS : a ≠ S) (hcS : cStatics ≠ S) (hfl : ∀ d ∈ its, Fl d) (hz : its.length ≤ 100000) (res : Value) :
    ∀ (j k : Nat) (s : Shared) (acc : List Value) (c : Nat), its.length - k = j → k ≤ its.length → GIt prog w A.in1 a g (RN Z noX L z N g) [S] W L z N its k s → s.heap.get? S = some (listOf acc.toArray c) → DenAll W s.heap acc (its.take k) →
      (∀ s' acc' c', KL L z N g S s s' → s'.heap.get? S = some (listOf acc'.toArray c') → DenAll W s'.heap acc' its → Z s'.heap → R (.ok (.ret res)) s') →
      codeAny (model prog w) A (.builtin "list.extend.loop" ⟨[.ref S, .ref a, res], []⟩) R s := by
  intro j
  induction j with
  | zero =>
    intro k s acc c hj hk G hSo hacc hR
    refine codeAny_builtin F.entry_extend_loop ?_
    rw [Around.under_plainId F.plain_extend_loop _]
    show wpAny _ A.in1 (pyNext (.ref a) >>= _) _ _ s
    refine wpAny_bind (next_gen hh hroom ha hcs hZ G (fun v d s' hk' => by omega) (fun s' hk' kp hz => ?_) (fun _ _ _ h => h.elim))
    have e : its.take k = its := List.take_of_length_le (by omega)
    rw [e] at hacc
    exact wpAny_pure (hR s' acc c (.of_kp kp) (kp.obj _ _ (.inl hS) hSo) (hacc.kp hfl kp) hz)
  | succ j ih =>
    intro k s acc c hj hk G hSo hacc hR
    refine codeAny_builtin F.entry_extend_loop ?_
    rw [Around.under_plainId F.plain_extend_loop _]
    show wpAny _ A.in1 (pyNext (.ref a) >>= _) _ _ s
    refine wpAny_bind (next_gen hh hroom ha hcs hZ G (fun v d s' hk' hd hden kp G' => ?_) (fun s' hk' => by omega) (fun _ _ _ h => h.elim))
    have hS' := kp.obj _ _ (.inl hS) hSo
    have hlen := hacc.length
    have hlk : acc.length = k := by rw [hlen, List.length_take]; omega
    show wpAny _ A.in1 (updateSeq S (·.push v) >>= _) _ _ _
    obtain ⟨c2, hc2⟩ := push_at v hS'
    refine wpAny_bind ?_
    refine wpAny_updateSeq hS' rfl (wpAny_pure ⟨plainId_quiet F.plain_extend_loop _, ih (k + 1) _ (acc ++ [v]) c2 (by omega) hk' (G'.agree (agree_list (fun b o hb e => (Heap.get?_update_other _ _ (Ne.symm hb)).trans e) ⟨_, Heap.get?_update_self _ hS' rfl, fun _ => nofun⟩) (by simpa using haS) (by simpa using hcS) rfl) ?_ ?_ fun s'' acc' c' hkl hS'' hacc' hz' => ?_⟩)
      (by rw [List.size_toArray, hlk, sizeLine_eq]; omega) (by show (acc.toArray.push v).size ≤ sizeLine + 1; rw [Array.size_push, List.size_toArray, hlk, sizeLine_eq]; omega)
    · exact hc2
    · have htk : its.take (k + 1) = its.take k ++ [d] := by rw [List.take_add_one, hd]; rfl
      rw [htk]
      have h1 : DenAll W s'.heap (acc ++ [v]) (its.take k ++ [d]) := ((hacc.kp (fun d hd => hfl d (List.mem_of_mem_take hd)) kp).append (.cons hden .nil))
      refine DenAll.kl (s := s') h1 (fun d' hd' => ?_) (KL.of_list (L := L) (z := z) (N := N) (g := g) hS' fun b o hb e => (Heap.get?_update_other _ _ (Ne.symm hb)).trans e)
      rcases List.mem_append.mp hd' with h | h
      · exact hfl d' (List.mem_of_mem_take h)
      · simp at h; subst h; exact hfl _ (List.mem_of_getElem? hd)
    · exact hR s'' acc' c' (((KL.of_kp kp).trans (KL.of_list hS' fun b o hb e => (Heap.get?_update_other _ _ (Ne.symm hb)).trans e)).trans hkl) hS'' hacc' hz'
end
end Mine
end
section
open PySem PySem.W PyProof.Rows PySem.Calls
set_option Elab.async false
set_option linter.unusedVariables false
set_option maxRecDepth 100000
set_option maxHeartbeats 1000000
namespace Mine
section
variable {prog : Program} {w : World} {A : Around} {a g : Nat} {W : List Addr} {L z N S : Nat} {its : List D} {E : Value → Shared → Prop}
theorem extendG {Z : Heap → Prop} {R : Result → Shared → Prop} {s : Shared} {c₀ : Nat} (hZ : ∀ h o, Z h → Z (h.push o)) (hh : A.handled = none) (hroom : A.depth < recursionLimit) (ha : a < N ∧ a ≠ z ∧ a ≠ L) (hcs : cStatics < N ∧ cStatics ≠ z ∧ cStatics ≠ L) (hS : S < N ∧ S ≠ z ∧ S ≠ L) (haS : a ≠ S) (hcS : cStatics ≠ S) (hfl : ∀ d ∈ its, Fl d) (hz : its.length ≤ 100000) (res : Value)
    (G : GIt prog w A.in1 a g (RN Z noX L z N g) [S] W L z N its 0 s) (hSo : s.heap.get? S = some (listOf #[] c₀))
    (hR : ∀ s' acc' c', KL L z N g S s s' → s'.heap.get? S = some (listOf acc'.toArray c') → DenAll W s'.heap acc' its → Z s'.heap → R (.ok (.ret res)) s') :
    wpAny (model prog w) A.in1 (Builtin.List.listExtendWith (.ref S) (.ref a) res)
      (fun fin s' => match fin with | .done f => R (.ok f) s' | .again c' => c'.quiet = true ∧ codeAny (model prog w) A c' R s') (fun e s' => R (.error e) s') s := by
  have hT : s.TypeIs (.ref a) "generator" := G.obj.typeIs
  unfold Builtin.List.listExtendWith
  refine wpAny_bind (wpAny_typeOf hT ?_)
  have h1 : Builtin.List.listSameRef (.ref S) (.ref a) = false := by simp [Builtin.List.listSameRef, Ne.symm haS]
  have h2 : (Value.type "generator" == Value.type "list") = false := by decide
  have h3 : (Value.type "generator" == Value.type "tuple") = false := by decide
  simp only [h1, h2, h3, Bool.or_false, Bool.false_eq_true, if_false]
  refine wpAny_bind (wpAny_pyIter_gen G.obj ?_)
  refine wpAny_bind (wpAny_holding ?_)
  unfold Builtin.List.listLengthHint
  refine wpAny_bind (wpAny_specialOf hT F.gen_no_len ?_)
  show wpAny _ A.in1 (specialOf (Value.ref a) (Str.ofString "__length_hint__") >>= _) _ _ _
  refine wpAny_bind (wpAny_specialOf hT F.gen_no_hint ?_)
  refine wpAny_pure ?_
  show wpAny _ A.in1 (rule "list.extend.makes-room" >>= fun _ => Builtin.List.listTouch (.ref S) >>= fun _ =>
    again (.builtin "list.extend.loop" ⟨[.ref S, .ref a, res], []⟩)) _ _ _
  refine wpAny_bind (wpAny_rule ?_)
  refine wpAny_bind ?_
  show wpAny _ A.in1 (updateSeq S (·.push .none) >>= fun _ => updateSeq S (·.pop)) _ _ _
  refine wpAny_bind (wpAny_updateSeq hSo rfl ?_)
  have hS₂ := Heap.get?_update_self (Obj.mapSeq (·.push Value.none)) hSo rfl
  refine wpAny_updateSeq (hz := by seq_fits) hS₂ rfl ?_
  have hS₃ := Heap.get?_update_self (Obj.mapSeq (·.pop)) hS₂ rfl
  have oth : ∀ b o, b ≠ S → s.heap.get? b = some o → ((s.heap.update S (Obj.mapSeq (·.push Value.none))).update S (Obj.mapSeq (·.pop))).get? b = some o :=
    fun b o hb e => (Heap.get?_update_other _ _ (Ne.symm hb)).trans ((Heap.get?_update_other _ _ (Ne.symm hb)).trans e)
  refine wpAny_pure ⟨plainId_quiet F.plain_extend_loop _, extend_loop hZ hh hroom ha hcs hS haS hcS hfl hz res its.length 0 _ [] _ rfl (Nat.zero_le _) (G.agree (agree_list oth ⟨_, hS₃, fun _ => nofun⟩) (by simpa using haS) (by simpa using hcS) rfl) hS₃ .nil fun s' acc' c' hkl hS' hacc hz => ?_⟩
  exact hR s' acc' c' ((KL.of_list hSo oth).trans hkl) hS' hacc hz
/-- list(g): all the items -/
theorem call_listG {Z : Heap → Prop} {s : Shared} {Q : Value → Shared → Prop} (hZ : ∀ h o, Z h → Z (h.push o)) (hh : A.handled = none) (hroom : A.depth < recursionLimit) (ha : a < N ∧ a ≠ z ∧ a ≠ L) (hcs : cStatics < N ∧ cStatics ≠ z ∧ cStatics ≠ L) (hS : S < N ∧ S ≠ z ∧ S ≠ L) (hSz : S = s.heap.objs.size) (haS : a ≠ S) (hcS : cStatics ≠ S) (hfl : ∀ d ∈ its, Fl d) (hz : its.length ≤ 100000)
    (G : GIt prog w A.in1.in1 a g (RN Z noX L z N g) [S] W L z N its 0 { s with heap := s.heap.push { cls := .type "list", data := .seq #[] } })
    (hQ : ∀ s' acc' c', KL L z N g S { s with heap := s.heap.push { cls := .type "list", data := .seq #[] } } s' → s'.heap.get? S = some (listOf acc'.toArray c') → DenAll W s'.heap acc' its → Z s'.heap → Q (.ref S) s') :
    wpAny (model prog w) A (call (.type "list") [.ref a]) Q E s := by
  refine callType_codes (Q₁ := fun obj s₁ => obj = .ref s.heap.objs.size ∧ s₁ = { s with heap := s.heap.push { cls := .type "list", data := .seq #[] } }) F.called_list (F.typeCall_list_1 _) F.entry_list_init
    (code_list_new _ ⟨rfl, rfl⟩) fun obj s₁ h₁ => ?_
  obtain ⟨rfl, rfl⟩ := h₁
  have hSo : (s.heap.push { cls := .type "list", data := .seq #[] }).get? s.heap.objs.size = some (listOf #[] 0) := Heap.get?_push_size _ rfl
  refine ⟨⟨_, hSo, rfl⟩, F.args_list_init_2 _ _, ?_⟩
  rw [← hSz] at hSo ⊢
  show wpAny _ A.in1.in1 (do let old ← Builtin.List.listItems (.ref S); Builtin.List.listUpdate (.ref S) (fun _ => #[]); letGo old.toList.reverse; Builtin.List.listExtendWith (.ref S) (.ref a) .none) _ _ _
  refine wpAny_bind ?_
  unfold Builtin.List.listItems
  refine wpAny_bind (wpAny_seqItems hSo rfl (wpAny_pure ?_))
  show wpAny _ A.in1.in1 (updateSeq S (fun _ => #[]) >>= fun _ => letGo (#[] : Array Value).toList.reverse >>= fun _ => Builtin.List.listExtendWith (.ref S) (.ref a) .none) _ _ _
  refine wpAny_bind (wpAny_updateSeq hSo rfl ?_)
  have hS₂ := Heap.get?_update_self (Obj.mapSeq (fun _ => (#[] : Array Value))) hSo rfl
  have oth : ∀ b o, b ≠ S → (s.heap.push { cls := .type "list", data := .seq #[] }).get? b = some o → ((s.heap.push { cls := .type "list", data := .seq #[] }).update S (Obj.mapSeq (fun _ => (#[] : Array Value)))).get? b = some o :=
    fun b o hb e => (Heap.get?_update_other _ _ (Ne.symm hb)).trans e
  refine wpAny_bind (wpAny_letGo ?_)
  refine extendG (A := A.in1) hZ hh hroom ha hcs hS haS hcS hfl hz .none (G.agree (s' := { s with heap := (s.heap.push { cls := .type "list", data := .seq #[] }).update S (Obj.mapSeq (fun _ => (#[] : Array Value))) }) (agree_list (s := { s with heap := s.heap.push { cls := .type "list", data := .seq #[] } }) oth ⟨_, hS₂, fun _ => nofun⟩) (by simpa using haS) (by simpa using hcS) rfl) hS₂ fun s' acc' c' hkl hS' hacc hz => ?_
  exact ⟨rfl, hQ s' acc' c' ((KL.of_list (s := { s with heap := s.heap.push { cls := .type "list", data := .seq #[] } }) hSo oth).trans hkl) hS' hacc hz⟩
end
end Mine
end
section
open PySem PySem.W PyProof.Rows PySem.Calls
set_option Elab.async false
set_option linter.unusedVariables false
set_option maxRecDepth 100000
set_option maxHeartbeats 1000000
namespace Mine
theorem over_func (A : Around) (b : List Stmt) (env : Env) (h : (Code.func b env).weight = 1 := by rfl) : A.over (.func b env) [] = A.deeper env := by
  rfl
/-- a generator, made in state s -/
structure Made (st : Stmt) (a : Addr) (cd : Value) (binds : List (Str × Value)) (s s' : Shared) : Prop where
  fr : Fr s.heap s.heap.objs.size s'.heap (fun x => binds.reverse.lookup x)
  gen : s'.heap.IsGen (s.heap.objs.size + 1) s.gens.size
  gens : s'.gens = s.gens.push (.fresh (.func (bdOf st) (envOf (naOf st) (scOf st) s.heap.objs.size a cd)))
  os : s'.os = s.os
  size : s'.heap.objs.size = s.heap.objs.size + 2
theorem Made.ext {st : Stmt} {a : Addr} {cd : Value} {binds : List (Str × Value)} {s s' : Shared} (M : Made st a cd binds s s') : Ext s s' :=
  ⟨M.fr.keep, M.os, fun i x hx => by
    rw [M.gens, Array.getElem?_push]
    have := (Array.getElem?_eq_some_iff.mp hx).1
    rw [if_neg (by omega)]; exact hx, fun h => by rw [M.gens]; exact h.push rfl⟩
section
variable {prog : Program} {w : World} {A : Around} {s : Shared} {R : Result → Shared → Prop}
theorem call_genfn {K : Frag} {mg mb : Str → Option Value} {st : Stmt} {pm cd doc : Value} {a : Addr} {o : Obj} {args : List Value} {binds : List (Str × Value)} {xs : List Str} {k : Nat}
    (T : TopH K mg mb s.heap) (hr : Room A (k + 1)) (ho : s.heap.get? a = some o) (hdata : o.data = .func (docDef (naOf st) (paOf st) (bdOf st) (scOf st) pm cd doc)) (hcd : s.heap.CodeRec cd (naOf st))
    (hbind : bindArgs (docDef (naOf st) (paOf st) (bdOf st) (scOf st) pm cd doc) ⟨args, []⟩ = pure binds) (hx : binds.map (·.1) = xs) (hf : fnFine st xs true = true)
    (hR : ∀ ga s', ga = s.heap.objs.size + 1 → Made st a cd binds s s' → R (.ok (.ret (.ref ga))) s') : codeAny (model prog w) A (.call (.ref a) ⟨args, []⟩) R s := by
  obtain ⟨hloc, hco, hgen, hk, hcell⟩ := fnFine_iff hf
  refine codeAny_call_generator (body := bdOf st) hr.lim ho hdata hco hgen rfl hcd ?_
  rw [hbind]
  refine wpAny_pure (wpAny_newFunctionEnv hcell (fun x hx' => hloc x.1 (hx ▸ List.mem_map_of_mem hx')) (fun h₁ hns hsb => ⟨T.lim.fresh _ hsb, ?_⟩) hk)
  have hsz : h₁.objs.size = s.heap.objs.size + 1 := by rw [hsb.1, Heap.size_push]
  have F : Fr s.heap s.heap.objs.size h₁ (fun x => binds.reverse.lookup x) := ⟨hns, fun b o e => hsb.extBut b o (Nat.ne_of_lt (Heap.lt_size e)) (Heap.get?_push_of_some _ e), Nat.le_refl _⟩
  refine hR h₁.objs.size _ hsz ⟨F.push _, ?_, rfl, rfl, ?_⟩
  · rw [← hsz]
    exact ⟨_, _, _, Heap.get?_push_size _ rfl, rfl, rfl, rfl⟩
  · show (h₁.push _).objs.size = _
    rw [Heap.size_push, hsz]
end
/-- the body of a generator's def tells its -/
def GenOk (prog : Program) (w : World) (mg mb : Str → Option Value) (a : Addr) (st : Stmt) (ps : List (Str × D)) (its : List D) (k : Nat) : Prop :=
  ∀ (A A' : Around) (W' : List Addr) (s₀ s₁ : Shared) (L N top z g : Nat) (R : GenEnd) (code : Code) (K : KF) (H : HF) (Wc W : List Addr), Top1 w mg mb s₀.heap → Room A' k →
    Sp (cxG prog w st a (fdOf w.params a).code A' W' s₀ L ps s₁ N top z) A code [] → Side (cxG prog w st a (fdOf w.params a).code A' W' s₀ L ps s₁ N top z) Wc g N → (∀ b ∈ W, b ∈ W') →
    (∀ s s', Ext s₀ s' → KP L z N g s' s → Seg (model prog w) A R (YP Wc W L z N g its) 0 s' code (K .next) [] s) →
    SB (cxG prog w st a (fdOf w.params a).code A' W' s₀ L ps s₁ N top z) A R (YP Wc W L z N g its) its.length code [] K H (bdOf st)
section
variable {prog : Program} {w : World} {mg mb : Str → Option Value}
theorem room_func {A : Around} {k : Nat} {b : List Stmt} {env : Env} (r : Room A (k + 1)) : Room (A.over (.func b env) []) k := by
  rw [over_func]
  exact r.deeper
theorem mem_or {α : Type} {x y : α} {l : List α} (h : x ∈ y :: l) : x = y ∨ x ∈ l := List.mem_cons.mp h
/-- a generator's frame; what it holds from the first -/
abbrev cxH (prog : Program) (w : World) (st : Stmt) (a : Addr) (cd : Value) (A : Around) (W : List Addr) (s₀ : Shared) (L : Addr) (ps : List (Str × D)) (s₁ : Shared) (N : Nat) (top z : Addr) (H0 : List (Addr × Obj)) : Cx :=
  { prog := prog, w := w, A := A, nm := naOf st, sc := scOf st, fa := a, cd := cd, W := W, s₀ := s₀, L := L, μ := muOf ps, H := H0, V := [], G := [], s₁ := s₁, lo := (· < N), top := top, z := z }
/-- the base that a generator's frame stands on -/
def baseG (s : Shared) (X : List Addr) : Shared := { s with heap := hideAll s.heap X, gens := s.gens.push .running }
/-- a generator just made, at rest -/
theorem git_made {A : Around} {st : Stmt} {a : Addr} {ps : List (Str × D)} {its : List D} {binds : List (Str × Value)} {s s' sG : Shared} {W X Wc : List Addr} {H0 : List (Addr × Obj)} {L N top z : Nat} {R : GenEnd} (M : Made st a (fdOf w.params a).code binds s s') (T : Top1 w mg mb s.heap) (hW : Live W s.heap) (hn : binds.map (·.1) = ps.map (·.1))
    (hd : DenAll W s.heap (binds.map (·.2)) (ps.map (·.2))) (hL : s.heap.objs.size = L) (e1 : Ext s' sG) (hgs : sG.gens[s.gens.size]? = s'.gens[s.gens.size]?)
    (hXW : ∀ b ∈ X, b ∈ W) (hWc : ∀ b ∈ Wc, (b ∈ X ∨ s.heap.get? b = none) ∧ (b < N ∧ b ≠ z ∧ b ≠ L) ∧ ∃ o, sG.heap.get? b = some o) (htop : ∃ o, sG.heap.get? top = some o) (hN : N ≤ top + 1)
    (hH : ∀ p ∈ H0, p.1 ∈ X ∧ p.1 = z ∧ p.1 ∉ Wc ∧ NL p.2 ∧ NT p.2 ∧ s.heap.get? p.1 = some p.2)
    (body : ∀ s'', FrD (cxH prog w st a (fdOf w.params a).code (A.in1.over (.func (bdOf st) (envOf (naOf st) (scOf st) L a (fdOf w.params a).code)) []) (L :: (Wc ++ W)) (baseG s X) L ps s'' N top z H0) s'' → Ext (baseG s X) s'' → Agree Wc s.gens.size sG s'' →
      Side (cxH prog w st a (fdOf w.params a).code (A.in1.over (.func (bdOf st) (envOf (naOf st) (scOf st) L a (fdOf w.params a).code)) []) (L :: (Wc ++ W)) (baseG s X) L ps s'' N top z H0) Wc s.gens.size N →
      Seg (model prog w) A.in1 R (YP Wc W L z N s.gens.size its) its.length s'' (.func (bdOf st) (envOf (naOf st) (scOf st) L a (fdOf w.params a).code)) ((model prog w).den (.func (bdOf st) (envOf (naOf st) (scOf st) L a (fdOf w.params a).code))) [] s'') :
    GIt prog w A (L + 1) s.gens.size R Wc W L z N its 0 sG := by
  have hLn : s.heap.get? L = none := hL ▸ get_size s.heap
  have fr := M.fr
  rw [hL] at fr
  have hLc : L ∉ Wc := fun h => (hWc L h).2.1.2.2 rfl
  have hga : s'.heap.IsGen (L + 1) s.gens.size := hL ▸ M.gen
  refine ⟨hga.keeps e1.keep, (T.ext (M.ext.trans e1)).lim, .fresh (.func (bdOf st) (envOf (naOf st) (scOf st) L a (fdOf w.params a).code)), ?_, rfl, fun s'' ag hrun => ⟨rfl, ?_⟩⟩
  · rw [hgs, M.gens, hL]
    simp
  · have keepS : ∀ b o, b ∉ Wc → s.heap.get? b = some o → s''.heap.get? b = some o := fun b o hb e => ag.obj b o hb (e1.keep _ _ (M.ext.keep _ _ e))
    have keep : ∀ b o, (hideAll s.heap X).get? b = some o → s''.heap.get? b = some o := fun b o e => keepS b o (fun hb => by
      have e2 := of_hideAll _ e
      rcases (hWc b hb).1 with h | h
      · rw [hideAll_none _ h] at e; cases e
      · rw [h] at e2; cases e2) (of_hideAll _ e)
    have e0 : Ext (baseG s X) s'' := by
      refine ⟨keep, ag.os.trans (e1.os.trans M.os), fun i x hx => ?_, fun h => ag.bare (e1.bare (M.ext.bare fun y hy => h y (by simp [baseG, hy])))⟩
      have hx' : (s.gens.push .running)[i]? = some x := hx
      rw [Array.getElem?_push] at hx'
      by_cases q : i = s.gens.size
      · rw [if_pos q] at hx'
        rw [q, hrun, ← hx']
      · rw [if_neg q] at hx'
        exact ag.gens i x q (e1.gens i x (M.ext.gens i x hx'))
    have hLns : s''.heap.Ns L (fun x => binds.reverse.lookup x) := by
      obtain ⟨o, es, ep, ho, r⟩ := fr.ns
      exact ⟨o, es, ep, ag.obj _ _ hLc (e1.keep _ _ ho), r⟩
    have liveW : ∀ b, (∃ o, sG.heap.get? b = some o) → ∃ o, s''.heap.get? b = some o := fun b hb => by
      by_cases h : b ∈ Wc
      · exact ag.live b h hb
      · obtain ⟨o, ho⟩ := hb; exact ⟨o, ag.obj b o h ho⟩
    have bar : ∀ b ∈ L :: (Wc ++ W), b ∉ W → s.heap.get? b = none := fun b hb hn => by
      rcases mem_or hb with rfl | hb
      · exact hLn
      · rcases List.mem_append.mp hb with hb | hb
        · rcases (hWc b hb).1 with h | h
          · exact absurd (hXW b h) hn
          · exact h
        · exact absurd hb hn
    have kb : Kb (L :: (Wc ++ W)) s.heap s''.heap := fun b o hb e => keepS b o (fun h => hb (.tail _ (List.mem_append_left _ h))) e
    have nv : ∀ (x : Str) (a : Addr) (ds : List D), muOf ps x ≠ some (.own a ds) := fun x a ds hx => by
      simp only [muOf, Option.map_eq_some_iff] at hx
      obtain ⟨d, _, hd⟩ := hx
      cases hd
    have hLo : ∃ o, s''.heap.get? L = some o := let ⟨o, _, _, ho, _⟩ := hLns; ⟨o, ho⟩
    refine body s'' ?_ e0 ag ?_
    · refine ⟨⟨_, ⟨hLns, keep, ?_⟩, fun x en hx => ?_⟩, fun x y b es fs h1 _ => absurd h1 (nv _ _ _), fun x b es h1 => absurd h1 (nv _ _ _), ⟨liveW _ htop, fun b hb => .inl (Nat.le_of_lt_succ (Nat.lt_of_lt_of_le hb hN))⟩, .head _, fun b hb => ?_, e0, fun p hp => ?_, (fun p hp => nomatch hp), (fun p hp => nomatch hp), fun b o _ h => h⟩
      · show (hideAll s.heap X).objs.size ≤ L
        rw [hideAll_size]
        exact Nat.le_of_eq hL
      · simp only [muOf, Option.map_eq_some_iff] at hx
        obtain ⟨d, hl, rfl⟩ := hx
        obtain ⟨v, hv, hvd⟩ := lookup_zip binds.reverse ps.reverse (by rw [List.map_reverse, List.map_reverse, hn]) (by rw [List.map_reverse, List.map_reverse]; exact hd.rev) x d hl
        exact ⟨v, hv, (Den.bar bar hvd).kb kb⟩
      · rcases mem_or hb with rfl | hb
        · exact hLo
        · rcases List.mem_append.mp hb with hb | hb
          · exact liveW _ (hWc b hb).2.2
          · obtain ⟨o, ho⟩ := hW b hb
            exact liveW _ ⟨o, e1.keep _ _ (M.ext.keep _ _ ho)⟩
      · obtain ⟨h1, h2, h3, h4, h5, h6⟩ := hH p hp
        have hpL : p.1 ≠ L := fun q => by rw [q, hLn] at h6; cases h6
        exact ⟨.tail _ (List.mem_append_right _ (hXW _ h1)), ⟨hideAll_none _ h1, .inr h2⟩, hpL, h4, h5, keepS _ _ h3 h6⟩
    · refine ⟨fun b => Iff.rfl, fun b hb => .tail _ (List.mem_append_left _ hb), fun b hb => ?_, fun b hb => (hWc b hb).2.1, by simp [baseG], by simp [baseG], fun p hp => nomatch hp⟩
      show (hideAll s.heap X).get? b = none
      rcases (hWc b hb).1 with h | h
      · exact hideAll_none _ h
      · cases e : (hideAll s.heap X).get? b with
        | none => rfl
        | some o => have := of_hideAll _ e; rw [h] at this; cases this
/-- the body of a plain generator's def, told from its first row on -/
theorem GenOk.seg {A : Around} {st : Stmt} {a : Addr} {ps : List (Str × D)} {its : List D} {s s'' : Shared} {W Wc : List Addr} {L N top g k : Nat} {Z : Heap → Prop} {X : Shared → Addr → Shared → Prop} (ok : GenOk prog w mg mb a st ps its k) (T : Top1 w mg mb (baseG s []).heap) (hr : Room A (k + 2)) (hZ : ∀ h, Z h) (hWc : ∀ b ∈ W, b ∈ L :: (Wc ++ W))
    (F : FrD (cxH prog w st a (fdOf w.params a).code (A.in1.over (.func (bdOf st) (envOf (naOf st) (scOf st) L a (fdOf w.params a).code)) []) (L :: (Wc ++ W)) (baseG s []) L ps s'' N top L []) s'') (e0 : Ext (baseG s []) s'')
    (S : Side (cxH prog w st a (fdOf w.params a).code (A.in1.over (.func (bdOf st) (envOf (naOf st) (scOf st) L a (fdOf w.params a).code)) []) (L :: (Wc ++ W)) (baseG s []) L ps s'' N top L []) Wc g N) :
    Seg (model prog w) A.in1 (RN Z X L L N g) (YP Wc W L L N g its) its.length s'' (.func (bdOf st) (envOf (naOf st) (scOf st) L a (fdOf w.params a).code)) ((model prog w).den (.func (bdOf st) (envOf (naOf st) (scOf st) L a (fdOf w.params a).code))) [] s'' := by
  refine seg_func ((ok A.in1 _ (L :: (Wc ++ W)) (baseG s []) s'' L N top L g _ _ _ _ Wc W T (room_func hr.in1) ⟨rfl, rfl, rfl⟩ S hWc fun s₂ s₂' e2 kp => ?_).run s'' e0 F)
  exact seg_end (.ok (.ret .none)) ⟨rfl, .inl ⟨rfl, kp, hZ _⟩⟩
end
end Mine
end
section
open PySem PySem.W PyProof.Rows PySem.Calls
set_option Elab.async false
set_option linter.unusedVariables false
set_option maxRecDepth 100000
set_option maxHeartbeats 1000000
namespace Mine
section
variable {prog : Program} {w : World} {mg mb : Str → Option Value}
theorem cstat_lt {mg mb : Str → Option Value} {s : Shared} (T : Top1 w mg mb s.heap) : cStatics < s.heap.objs.size := by
  obtain ⟨mc, hn, _⟩ := T.lim
  exact hn.lt
/-- a step that keeps all that stood but z -/
structure KZ (z : Addr) (s s' : Shared) : Prop where
  obj : ∀ b o, b ≠ z → s.heap.get? b = some o → s'.heap.get? b = some o
  os : s'.os = s.os
  gens : ∀ (i : Nat) x, s.gens[i]? = some x → s'.gens[i]? = some x
  bare : AllBare s.gens → AllBare s'.gens
theorem KZ.ext {z : Addr} {s s' : Shared} (x : KZ z s s') (h : s.heap.get? z = none) : Ext s s' := ⟨fun b o e => x.obj b o (fun q => by rw [q, h] at e; cases e) e, x.os, x.gens, x.bare⟩
/-- list(g) of a generator just made -/
theorem list_madeX {Z : Heap → Prop} {A : Around} {E : Value → Shared → Prop} {st : Stmt} {a : Addr} {ps : List (Str × D)} {its : List D} {binds : List (Str × Value)} {s s' : Shared} {W X : List Addr} {H0 : List (Addr × Obj)} {ga L z : Nat} (hZ : ∀ h o, Z h → Z (h.push o)) (M : Made st a (fdOf w.params a).code binds s s') (T : Top1 w mg mb s.heap) (hW : Live W s.heap) (hn : binds.map (·.1) = ps.map (·.1))
    (hd : DenAll W s.heap (binds.map (·.2)) (ps.map (·.2))) (hh : A.handled = none) (hroom : A.depth < recursionLimit) (hL : s.heap.objs.size = L) (hga : ga = L + 1) (hfl : ∀ d ∈ its, Fl d) (hz : its.length ≤ 100000)
    (hXW : ∀ b ∈ X, b ∈ W) (hz1 : z ≠ L + 1) (hz2 : z ≠ L + 2) (hz3 : z ≠ cStatics) (hH : ∀ p ∈ H0, p.1 ∈ X ∧ p.1 = z ∧ NL p.2 ∧ NT p.2 ∧ s.heap.get? p.1 = some p.2)
    (body : ∀ s'', FrD (cxH prog w st a (fdOf w.params a).code (A.in1.in1.in1.over (.func (bdOf st) (envOf (naOf st) (scOf st) L a (fdOf w.params a).code)) []) (L :: ([L + 2] ++ W)) (baseG s X) L ps s'' (L + 3) (L + 2) z H0) s'' → Ext (baseG s X) s'' →
      Side (cxH prog w st a (fdOf w.params a).code (A.in1.in1.in1.over (.func (bdOf st) (envOf (naOf st) (scOf st) L a (fdOf w.params a).code)) []) (L :: ([L + 2] ++ W)) (baseG s X) L ps s'' (L + 3) (L + 2) z H0) [L + 2] s.gens.size (L + 3) →
      Seg (model prog w) A.in1.in1.in1 (RN Z noX L z (L + 3) s.gens.size) (YP [L + 2] W L z (L + 3) s.gens.size its) its.length s'' (.func (bdOf st) (envOf (naOf st) (scOf st) L a (fdOf w.params a).code)) ((model prog w).den (.func (bdOf st) (envOf (naOf st) (scOf st) L a (fdOf w.params a).code))) [] s'') :
    wpAny (model prog w) A (call (.type "list") [.ref ga]) (fun v s₂ => KZ z s s₂ ∧ Z s₂.heap ∧ (∃ S c acc, v = .ref S ∧ S ∉ W ∧ s₂.heap.get? S = some (listOf acc c)) ∧ Den W s₂.heap v (.list its)) E s' := by
  subst hga
  have hcl := cstat_lt T
  have hSs := M.size
  have hfr := M.fr
  rw [hL] at hcl hSs hfr
  have hSn : s.heap.get? (L + 2) = none := Heap.get?_none_of_le (by rw [hL]; omega)
  have hSo : (s'.heap.push { cls := .type "list", data := .seq #[] }).get? (L + 2) = some { cls := .type "list", data := .seq #[] } := by rw [← hSs]; exact Heap.get?_push_size _ rfl
  have G := git_made (A := A.in1.in1) (sG := { s' with heap := s'.heap.push { cls := .type "list", data := .seq #[] } }) (Wc := [L + 2]) (N := L + 3) (top := L + 2) (R := RN Z noX L z (L + 3) s.gens.size) M T hW hn hd hL (.push _) rfl hXW (fun b hb => by
    rcases mem_or hb with rfl | h
    · exact ⟨.inr hSn, ⟨Nat.lt_succ_self _, hz2.symm, Nat.ne_of_gt (Nat.lt_add_of_pos_right (by decide))⟩, _, hSo⟩
    · exact absurd h List.not_mem_nil) ⟨_, hSo⟩ (Nat.le_refl _) (fun p hp => by
      obtain ⟨h1, h2, h3, h4, h5⟩ := hH p hp
      refine ⟨h1, h2, fun hm => ?_, h3, h4, h5⟩
      rcases mem_or hm with h | h
      · exact hz2 (h2.symm.trans h)
      · exact absurd h List.not_mem_nil) (fun s'' F e0 _ S => body s'' F e0 S)
  refine call_listG (S := L + 2) hZ hh hroom (a := L + 1) (g := s.gens.size) (L := L) (z := z) (N := L + 3) (W := W) (its := its) ⟨by omega, hz1.symm, Nat.ne_of_gt (Nat.lt_succ_self _)⟩ ⟨Nat.lt_of_lt_of_le hcl (Nat.le_add_right _ _), hz3.symm, Nat.ne_of_lt hcl⟩ ⟨by omega, hz2.symm, Nat.ne_of_gt (by omega)⟩ hSs.symm (Nat.ne_of_lt (by omega)) (Nat.ne_of_lt (Nat.lt_of_lt_of_le hcl (Nat.le_add_right _ _))) hfl hz G fun s₂ acc c hkl hS hden hz2 => ?_
  have e1 : Ext s { s' with heap := s'.heap.push { cls := .type "list", data := .seq #[] } } := M.ext.trans (.push _)
  have hSW : L + 2 ∉ W := fun h => by obtain ⟨o, ho⟩ := hW _ h; rw [hSn] at ho; cases ho
  refine ⟨⟨fun b o hbz e => ?_, hkl.os.trans e1.os, fun i x hx => ?_, fun h => hkl.bare (e1.bare h)⟩, hz2, ⟨L + 2, c, _, rfl, hSW, hS⟩, .list hSW ⟨_, hS, rfl, c, rfl⟩ hden⟩
  · have hb : b < L := hL ▸ Heap.lt_size e
    exact hkl.obj b o (.inl ⟨Nat.lt_of_lt_of_le hb (Nat.le_add_right _ _), hbz, Nat.ne_of_lt hb, Nat.ne_of_lt (Nat.lt_of_lt_of_le hb (Nat.le_add_right _ _))⟩) (e1.keep _ _ e)
  · exact hkl.gens i x (Array.getElem?_eq_some_iff.mp hx).1 (e1.gens i x hx)
theorem list_made {A : Around} {E : Value → Shared → Prop} {st : Stmt} {a : Addr} {ps : List (Str × D)} {its : List D} {binds : List (Str × Value)} {s s' : Shared} {W : List Addr} {k : Nat} {ga : Addr} (M : Made st a (fdOf w.params a).code binds s s') (T : Top1 w mg mb s.heap) (hW : Live W s.heap) (hn : binds.map (·.1) = ps.map (·.1))
    (hd : DenAll W s.heap (binds.map (·.2)) (ps.map (·.2))) (ok : GenOk prog w mg mb a st ps its k) (hr : Room A (k + 4)) (hga : ga = s.heap.objs.size + 1) (hfl : ∀ d ∈ its, Fl d) (hz : its.length ≤ 100000) :
    wpAny (model prog w) A (call (.type "list") [.ref ga]) (fun v s₂ => Ext s s₂ ∧ (∃ S c acc, v = .ref S ∧ S ∉ W ∧ s₂.heap.get? S = some (listOf acc c)) ∧ Den W s₂.heap v (.list its)) E s' := by
  have hcl := cstat_lt T
  refine wpAny_mono (list_madeX (Z := fun _ => True) (X := []) (H0 := []) (L := s.heap.objs.size) (z := s.heap.objs.size) (fun _ _ _ => trivial) M T hW hn hd hr.hh hr.lim rfl hga hfl hz (fun _ h => nomatch h) (Nat.ne_of_lt (by omega)) (Nat.ne_of_lt (by omega)) (Nat.ne_of_gt hcl) (fun _ h => nomatch h) fun s'' F e0 S => ?_) (fun v s₂ ⟨kz, _, h1, h2⟩ => ⟨kz.ext (get_size _), h1, h2⟩) fun _ _ x => x
  exact ok.seg (A := A.in1.in1) T hr.in1.in1 (fun _ => trivial) (fun b hb => .tail _ (List.mem_append_right _ hb)) F e0 S
end
section
variable {c : Cx} {mg mb : Str → Option Value}
/-- a generator's def called by its name -/
theorem eval_gen {x : Str} {a : Addr} {st : Stmt} {args : List PySem.Expr} {p pos : Pos} {ps : List (Str × D)} {k : Nat} {s : Shared} {E : Value → Shared → Prop} {Q : Value → Shared → Prop} (T : Top1 c.w mg mb c.s₀.heap) (hr : Room c.A (k + 1)) (hx : IsName c x (.ref a))
    (ha : JS c (backTo pos (starEach args c.env)) (ps.map (·.2))) (ho : (K0 c.w.params).lookup a = some (fnObj c.w.params a st)) (hcd : codeIn (K0 c.w.params) (fdOf c.w.params a).code (naOf st) = true)
    (hbind : ∀ vs : List Value, vs.length = ps.length → ∃ binds, bindArgs (docOf' c.w.params a st) ⟨vs, []⟩ = pure binds ∧ binds.map (·.1) = ps.map (·.1) ∧ binds.map (·.2) = vs)
    (hfine : fnFine st (ps.map (·.1)) true = true) (hall : (backTo pos (starEach args c.env)).all (fun x => !x.1) = true) (F : FrD c s)
    (h : ∀ s₁ s' binds ga, Ext s s₁ → FrD c s₁ → ga = s₁.heap.objs.size + 1 → Made st a (fdOf c.w.params a).code binds s₁ s' → binds.map (·.1) = ps.map (·.1) → DenAll c.W s₁.heap (binds.map (·.2)) (ps.map (·.2)) → Q (.ref ga) s') :
    wpAny c.M c.A (eval (.Call (.Name x p) args [] pos) c.env) Q E s := by
  refine Call_Name rfl (hx.run s _ E p F ?_)
  have ho' := T.k _ _ ho
  refine callWith_function (o := fnObj c.w.params a st) (fd := docOf' c.w.params a st) (wpAny_mono (evalArgs_JS ha hall F) (fun as s₁ ⟨e1, vs, ea, x1⟩ => ?_) fun _ _ x => x)
  subst ea
  have F1 := F.go e1
  have T1 := F1.top T
  obtain ⟨binds, b1, b2, b3⟩ := hbind vs (by have := x1.length; simpa using this)
  refine ⟨⟨T1.k _ _ ho, rfl⟩, wpAny_call ?_⟩
  refine call_genfn (xs := ps.map (·.1)) T1 hr (T1.k _ _ ho) rfl (codeRec_of T1.k hcd) b1 b2 hfine fun ga s' hga M => ?_
  exact h s₁ s' binds ga e1 F1 hga M b2 (b3 ▸ x1)
/-- list(f(..)) of a generator's def f -/
theorem J_listGen {x : Str} {a : Addr} {st : Stmt} {args : List PySem.Expr} {p lp pos lpos : Pos} {ps : List (Str × D)} {its : List D} {k : Nat} (T : Top1 c.w mg mb c.s₀.heap) (hr : Room c.A (k + 4)) (hl : IsName c "list" (.type "list")) (hx : IsName c x (.ref a))
    (ha : JS c (backTo pos (starEach args c.env)) (ps.map (·.2))) (ok : GenOk c.prog c.w mg mb a st ps its k) (ho : (K0 c.w.params).lookup a = some (fnObj c.w.params a st)) (hcd : codeIn (K0 c.w.params) (fdOf c.w.params a).code (naOf st) = true)
    (hbind : ∀ vs : List Value, vs.length = ps.length → ∃ binds, bindArgs (docOf' c.w.params a st) ⟨vs, []⟩ = pure binds ∧ binds.map (·.1) = ps.map (·.1) ∧ binds.map (·.2) = vs)
    (hfine : fnFine st (ps.map (·.1)) true = true) (hfl : ∀ d ∈ its, Fl d) (hz : its.length ≤ 100000)
    (hall : (backTo pos (starEach args c.env)).all (fun x => !x.1) = true := by rfl) (hs : starEach [.Call (.Name x p) args [] pos] c.env = [(false, eval (.Call (.Name x p) args [] pos) c.env)] := by rfl) :
    J c (.Call (.Name "list" lp) [.Call (.Name x p) args [] pos] [] lpos) (.list its) := .mk fun s E F => by
  refine Call_Name1 (hl.run s _ E lp F ?_) hs
  refine PyProof.Rows.callWith_type rfl (evalArgs_plain (spliced_cons ?_))
  refine eval_gen (k := k) T (hr.le (by omega)) hx ha ho hcd hbind hfine hall F fun s₁ s' binds ga e1 F1 hga M b2 b3 => ?_
  refine spliced_nil ?_
  exact wpAny_mono (list_made M (F1.top T) F1.live b2 b3 ok hr hga hfl hz) (fun v s₂ ⟨e2, _, x2⟩ => ⟨e1.trans e2, x2⟩) fun _ _ x => x
/-- sep.join(f(..)) of a generator's def f -/
theorem J_joinGen {x : Str} {o : PySem.Expr} {a : Addr} {st : Stmt} {args : List PySem.Expr} {p ap pos jpos : Pos} {ps : List (Str × D)} {its : List (List UInt8)} {sep : List UInt8} {k : Nat} (T : Top1 c.w mg mb c.s₀.heap) (hr : Room c.A (k + 5)) (hx : IsName c x (.ref a)) (hj : J c o (.bytes sep))
    (ha : JS c (backTo pos (starEach args c.env)) (ps.map (·.2))) (ok : GenOk c.prog c.w mg mb a st ps (its.map D.bytes) k) (ho : (K0 c.w.params).lookup a = some (fnObj c.w.params a st)) (hcd : codeIn (K0 c.w.params) (fdOf c.w.params a).code (naOf st) = true)
    (hbind : ∀ vs : List Value, vs.length = ps.length → ∃ binds, bindArgs (docOf' c.w.params a st) ⟨vs, []⟩ = pure binds ∧ binds.map (·.1) = ps.map (·.1) ∧ binds.map (·.2) = vs)
    (hfine : fnFine st (ps.map (·.1)) true = true) (hz : its.length ≤ 100000) (hzj : (joinB sep its).length ≤ 16777216)
    (hall : (backTo pos (starEach args c.env)).all (fun x => !x.1) = true := by rfl) (hs : starEach [.Call (.Name x p) args [] pos] c.env = [(false, eval (.Call (.Name x p) args [] pos) c.env)] := by rfl)
    (hbase : attributeBase o "join" c.env (eval o c.env) = eval o c.env := by rfl) (hline : (ap.endLine == jpos.line) = true := by rfl) :
    J c (.Call (.Attribute o "join" ap) [.Call (.Name x p) args [] pos] [] jpos) (.bytes (joinB sep its)) := .mk fun s E F => by
  refine PySem.wpAny_Call_method hbase (by rw [hs]; rfl) hline FB.plainAttrs_bytes slot_join type_join (wpAny_mono (hj.run s E F) (fun v s₁ ⟨e1, x1⟩ => ?_) fun _ _ x => x)
  obtain ⟨t, rfl⟩ := denT_bytes x1.top
  refine ⟨typeIs_bytes _ _ _, (fun _ e => nomatch e), ?_⟩
  rw [hs]
  refine callWith_builtin rfl (evalArgs_plain (spliced_cons ?_))
  have F1 := F.go e1
  refine eval_gen (k := k) T (hr.le (by omega)) hx ha ho hcd hbind hfine hall F1 fun s₂ s' binds ga e2 F2 hga M b2 b3 => ?_
  refine spliced_nil ?_
  refine wpAny_call (codeAny_call_builtin slot_join.plain entry_join (slot_join.check _ _ _ _ _ _ _ _ (typeIs_bytes _ _ t) (args_join _ _) ?_))
  refine wpAny_mono (join_of (R := fun r s' => match r with | .ok (.ret v) => Ext s s' ∧ Den c.W s'.heap v (.bytes (joinB sep its)) | _ => False) sep t (.ref ga) its hzj ?_) (fun fin s₃ h3 => ?_) fun _ _ h => h.elim
  · unfold Builtin.Bytes.joinItems
    refine wpAny_bind (wpAny_typeOf (hga ▸ M.gen.typeIs) ?_)
    rw [if_neg (by decide)]
    refine wpAny_bind (wpAny_tryCatch (wpAny_pyIter_gen (hga ▸ M.gen) ?_))
    refine wpAny_mono (list_made M (F2.top T) F2.live b2 b3 ok hr.in1 hga (fun d hd => by obtain ⟨b, _, rfl⟩ := List.mem_map.mp hd; exact .bytes b) (by simpa using hz)) (fun v s₃ ⟨e3, _, x3⟩ => ?_) fun _ _ h => h
    cases x3 with
    | list hn hl3 hds =>
    refine ⟨_, rfl, ⟨_, .inl hl3, hds.sub (fun _ h => absurd h List.not_mem_nil)⟩, fun v s₄ e4 n4 => ⟨((e1.trans e2).trans e3).trans e4, n4 c.W (F2.live.ext e3)⟩⟩
  · obtain ⟨v, rfl, h4⟩ := h3
    exact h4
end
end Mine
end
section
open PySem PySem.W PyProof.Rows PySem.Calls
set_option Elab.async false
set_option linter.unusedVariables false
set_option maxRecDepth 100000
set_option maxHeartbeats 1000000
namespace Mine
theorem io_get (P : Params) : plainGet (K0 P) 75 "data" = true := by kernel_rfl
theorem io_getR (P : Params) : plainGet (K0 P) 75 "read" = true := by kernel_rfl
theorem io_getC (P : Params) : plainGet (K0 P) 75 "close" = true := by kernel_rfl
theorem io_dict (P : Params) : hasDictIn (K0 P) 75 = true := by kernel_rfl
theorem io_data (P : Params) : findIn (K0 P) (.ref 75) "data" = some none := by kernel_rfl
theorem io_read (P : Params) : findIn (K0 P) (.ref 75) "read" = some (some (.ref 51)) := by kernel_rfl
theorem io_close (P : Params) : findIn (K0 P) (.ref 75) "close" = some (some (.ref 72)) := by kernel_rfl
theorem io_iter (P : Params) : findIn (K0 P) (.ref 75) "__iter__" = some (some (.ref 43)) := by kernel_rfl
theorem io_init (P : Params) : findIn (K0 P) (.ref 75) "__init__" = some (some (.ref 36)) := by kernel_rfl
theorem io_set (P : Params) : findIn (K0 P) (.ref 75) "__setattr__" = some (some (.builtin "object.__setattr__")) := by kernel_rfl
theorem io_over (P : Params) : plainOver (K0 P) 75 = true := by kernel_rfl
theorem io_taker (P : Params) : takerIn (K0 P) 75 "data" = some none := by kernel_rfl
theorem io_makes (P : Params) : makesIn (K0 P) 75 = true := by kernel_rfl
theorem io_fn36 (P : Params) : typeIn (K0 P) (.ref 36) = some (.type "function") := by kernel_rfl
theorem io_fn43 (P : Params) : isFn (K0 P) (.ref 43) = true := by kernel_rfl
theorem io_fn51 (P : Params) : isFn (K0 P) (.ref 51) = true := by kernel_rfl
theorem io_fn72 (P : Params) : isFn (K0 P) (.ref 72) = true := by kernel_rfl
theorem nm75 (P : Params) : nsIn (K0 P) mainGlobals "BytesIO" = some (some (.ref 75)) := by kernel_rfl
/-- the class's n-th def -/
def mtNo (n : Nat) : Stmt := match (bdOf (stNo 2)).drop n with
  | s :: _ => s
  | [] => .Pass ⟨0, 0, 0, 0⟩
noncomputable abbrev mtFn (P : Params) (a : Addr) (st : Stmt) : FuncData := fnOf (naOf st) (fdOf P a).qualname (paOf st) (bdOf st) (scOf st) (fdOf P a).defaults .none .none (fdOf P a).pyModule none (fdOf P a).code .none
theorem mt36 (P : Params) : (K0 P).lookup 36 = some { cls := .type "function", data := .func (mtFn P 36 (mtNo 0)) } := by kernel_rfl
theorem mt43 (P : Params) : (K0 P).lookup 43 = some { cls := .type "function", data := .func (mtFn P 43 (mtNo 1)) } := by kernel_rfl
theorem mt51 (P : Params) : (K0 P).lookup 51 = some { cls := .type "function", data := .func (mtFn P 51 (mtNo 2)) } := by kernel_rfl
theorem mt72 (P : Params) : (K0 P).lookup 72 = some { cls := .type "function", data := .func (mtFn P 72 (mtNo 5)) } := by kernel_rfl
theorem mcd36 (P : Params) : codeIn (K0 P) (fdOf P 36).code (fdOf P 36).qualname = true := by kernel_rfl
theorem mcd43 (P : Params) : codeIn (K0 P) (fdOf P 43).code (fdOf P 43).qualname = true := by kernel_rfl
theorem mcd51 (P : Params) : codeIn (K0 P) (fdOf P 51).code (fdOf P 51).qualname = true := by kernel_rfl
theorem mcd72 (P : Params) : codeIn (K0 P) (fdOf P 72).code (fdOf P 72).qualname = true := by kernel_rfl
section
variable {prog : Program} {w : World} {A : Around} {E : Value → Shared → Prop} {s : Shared} {K : Frag} {x C dx : Addr} {es : List DictEntry} {n : Nat} {name : Str} {v : Value}
/-- an object's attribute is set: nothing but its dict is altered -/
theorem set_buf {Q : Unit → Shared → Prop} (X : K.In s.heap) (hx : s.heap.get? x = some (instObj C dx)) (hdx : s.heap.get? dx = some (dictOf es n))
    (hs : findIn K (.ref C) "__setattr__" = some (some (.builtin "object.__setattr__"))) (hp : plainOver K C = true) (ht : takerIn K C name = some none) (hh : hasDictIn K C = true) (hl : (getL name es).isSome = true)
    (hz : (putL name (PyData.keyHash w.params name) (.str name (s.toks + 1)) v es).length ≤ 1000)
    (h : ∀ h', Heap.SameBut dx s.heap h' → h'.get? dx = some (dictOf (putL name (PyData.keyHash w.params name) (.str name (s.toks + 1)) v es) (putN name es n)) → Q () { s with heap := h', toks := s.toks + 2 }) :
    wpAny (model prog w) A (setAttr (.ref x) name v) Q E s := by
  have I : InstAt s.heap x (instObj C dx) C (some (dictOf es n)) := ⟨hx, rfl, rfl, hdx⟩
  refine set_plain X I hs (osa_open (s := { s with toks := s.toks + 1 }) X I hp ht fun b => ?_)
  obtain ⟨cd, hc, hd'⟩ := any_some hh
  have e := putName_dict name (PyData.keyHash w.params name) (.str name (s.toks + 1)) v es n
  have D' := Heap.get?_update_self (Obj.putName name (PyData.keyHash w.params name) (.str name (s.toks + 1)) v) hdx (by rw [e]; rfl)
  rw [e] at D'
  refine wpAny_bind (wpAny_pure (wpAny_bind (wpAny_bind (wpAny_loadPart hx (wpAny_bind (looks_clsIn X hc _ _ _ _ (fun _ _ e => e) ?_))))))
  rw [hd']
  refine wpAny_pure (a := some dx) (wpAny_bind (wpAny_pure (wpAny_bind ?_)))
  unfold nsSet
  refine wpAny_bind (wpAny_bind (wpAny_askSetting (wpAny_pure (wpAny_bind (wpAny_mkText (wpAny_bind (wpAny_loadPart hdx ?_)))))))
  have c : (!es.toArray.any (·.key.isStr name) && es.toArray.any (·.refKey)) = false := by
    rw [← Array.any_toList, ← Array.any_toList]
    unfold getL at hl
    split at hl
    · rename_i en he
      rw [List.any_eq_true.mpr ⟨en, List.mem_of_find?_eq_some he, List.find?_some he⟩]; rfl
    · split at hl
      · cases hl
      · rename_i z; rw [Bool.not_eq_true] at z; rw [z, Bool.and_false]
  dsimp only
  rw [aRefKeyMayBeTheName_at, c]
  refine wpAny_updatePart hdx ?_
  refine wpAny_bind (wpAny_lookBehind D' (pastItsLine_dict (by rw [List.size_toArray, sizeLine_eq]; omega)) ?_)
  exact wpAny_pure (h _ (Heap.SameBut.update ..) D')
end
/-- the buffer that an object holds -/
structure Buf (c : Cx) (x dx : Addr) (es : List DictEntry) (n : Nat) (b : List UInt8) : Prop where
  obj : ∀ s, FrD c s → s.heap.get? x = some (instObj 75 dx)
  dic : (dx, dictOf es n) ∈ c.H
  get : ∃ t, getL "data" es = some (some (.bytes b.toArray t))
  len : es.length ≤ 1
section
variable {c : Cx} {mg mb : Str → Option Value} {x dx : Addr} {es : List DictEntry} {n : Nat} {b : List UInt8}
theorem raw_name {nm : Str} {v : Value} {p : Pos} {s : Shared} {E : Value → Shared → Prop} {Q : Value → Shared → Prop} (F : FrD c s) (h : c.μ nm = some (.val (.raw v))) (hQ : Q v s)
    (hk : c.sc.kind = .function) (hl : c.env.kindOf nm = some .local) (hd : (nm == ("__debug__" : Str)) = false) : wpAny c.M c.A (eval (.Name nm p) c.env) Q E s := by
  obtain ⟨m, hm, hμ⟩ := F.fr
  obtain ⟨u, hu, hd'⟩ := hμ nm _ h
  cases (show Den c.W s.heap u (.raw v) from hd') with
  | raw => exact ldC hm hu hQ hk hl hd
theorem J_data {nm : Str} {p p2 : Pos} (T : Top1 c.w mg mb c.s₀.heap) (B : Buf c x dx es n b) (h : c.μ nm = some (.val (.raw (.ref x))))
    (hk : c.sc.kind = .function := by rfl) (hl : c.env.kindOf nm = some .local := by rfl) (hd : (nm == ("__debug__" : Str)) = false := by decide) : J c (.Attribute (.Name nm p) "data" p2) (.bytes b) := .mk fun s E F => by
  refine PyProof.Rows.Attribute_name (raw_name F h ?_ hk hl hd)
  obtain ⟨m, hm, _⟩ := F.fr
  obtain ⟨t, ht⟩ := B.get
  have I : InstAt s.heap x (instObj 75 dx) 75 (some (dictOf es n)) := ⟨B.obj s F, rfl, rfl, (F.hh _ B.dic).g⟩
  exact get_own hm T.k I (io_get _) (io_dict _) (io_data _) rfl ht rfl ⟨.toks _, .bytes _ _⟩
end
end Mine
end
section
open PySem PySem.W PyProof.Rows PySem.Calls
set_option Elab.async false
set_option linter.unusedVariables false
set_option maxRecDepth 100000
set_option maxHeartbeats 1000000
namespace Mine
theorem putL_find1 (name : Str) (hsh : Int) (t : Tok) (v : Value) : ∀ es : List DictEntry, ∃ e, (putL name hsh (.str name t) v es).find? (·.key.isStr name) = some e ∧ e.val = v
  | [] => ⟨⟨hsh, .str name t, v⟩, by simp [putL, Value.isStr], rfl⟩
  | e :: r => by
    unfold putL
    cases h : e.key.isStr name with
    | true => exact ⟨⟨e.hash, e.key, v⟩, by simp [h], rfl⟩
    | false =>
      obtain ⟨e', h1, h2⟩ := putL_find1 name hsh t v r
      exact ⟨e', by simp [h, h1], h2⟩
theorem getL_putL (name : Str) (hsh : Int) (t : Tok) (v : Value) (es : List DictEntry) : getL name (putL name hsh (.str name t) v es) = some (some v) := by
  obtain ⟨e, h1, h2⟩ := putL_find1 name hsh t v es
  unfold getL
  rw [h1]
  simp [h2]
theorem putL_len (name : Str) (hsh : Int) (k v : Value) : ∀ es : List DictEntry, (putL name hsh k v es).length ≤ es.length + 1 ∧ ((es.any (·.key.isStr name)) = true → (putL name hsh k v es).length = es.length)
  | [] => by simp [putL]
  | e :: r => by
    have ih := putL_len name hsh k v r
    unfold putL
    cases h : e.key.isStr name with
    | true => simp
    | false => simp [h]; exact ⟨ih.1, fun x hx hk => by have := ih.2 (List.any_eq_true.mpr ⟨x, hx, hk⟩); exact this⟩
theorem getL_any {name : Str} {es : List DictEntry} {v : Value} (h : getL name es = some (some v)) : es.any (·.key.isStr name) = true := by
  unfold getL at h
  split at h
  · rename_i e he
    exact List.any_eq_true.mpr ⟨e, List.mem_of_find?_eq_some he, List.find?_some (p := fun x : DictEntry => x.key.isStr name) he⟩
  · split at h <;> cases h
/-- what a buffer's dict is -/
structure IsBuf (es : List DictEntry) (b : List UInt8) : Prop where
  get : ∃ t, getL "data" es = some (some (.bytes b.toArray t))
  len : es.length ≤ 1
section
variable {c : Cx} {Q : Flow → Shared → Prop} {E : Value → Shared → Prop} {rest : List Stmt} {mg mb : Str → Option Value} {x dx : Addr} {es : List DictEntry} {n : Nat}
def Cx.hd (c : Cx) (H : List (Addr × Obj)) : Cx := { c with H := H }
/-- self.data = e -/
theorem Blk.setData {nm : Str} {e : PySem.Expr} {p p2 pos : Pos} {b : List UInt8} {H : List (Addr × Obj)} (T : Top1 c.w mg mb c.s₀.heap) (hH : c.H = (dx, dictOf es n) :: H) (hnot : ∀ q ∈ H, q.1 ≠ dx) (hobj : ∀ s, FrD c s → s.heap.get? x = some (instObj 75 dx)) (hl1 : es = [] ∨ (es.length ≤ 1 ∧ es.any (·.key.isStr "data") = true))
    (hx : c.μ nm = some (.val (.raw (.ref x)))) (h : J c e (.bytes b)) (r : ∀ es' n', IsBuf es' b → Blk (c.hd ((dx, dictOf es' n') :: H)) rest Q E)
    (hk : c.sc.kind = .function := by rfl) (hl : c.env.kindOf nm = some .local := by rfl) (hd : (nm == ("__debug__" : Str)) = false := by decide)
    (hs : swapsWith e (some (.Attribute (.Name nm p) "data" p2)) pos.line c.env = pure false := by rfl) : Blk c (.Assign [.Attribute (.Name nm p) "data" p2] e pos :: rest) Q E :=
  Blk.stmt fun s F => plainObj_wpAny_Assign_Attribute (wpAny_mono (h.run s E F) (fun v s₁ ⟨e1, x1⟩ => by
    have F1 := F.go e1
    obtain ⟨t, rfl⟩ := denT_bytes x1.top
    refine raw_name F1 hx ?_ hk hl hd
    have hdx := (F1.hh (dx, dictOf es n) (hH ▸ .head _)).g
    have T1 := F1.top T
    have hlk : (getL "data" es).isSome = true := by
      rcases hl1 with rfl | ⟨_, ha⟩
      · rfl
      · unfold getL
        cases hf : es.find? (·.key.isStr "data") with
        | some e => rfl
        | none =>
          obtain ⟨e, he, hke⟩ := List.any_eq_true.mp ha
          have := List.find?_eq_none.mp hf e he
          exact absurd hke this
    have hln : ∀ hsh k v, (putL "data" hsh k v es).length ≤ 1 := fun hsh k v => by
      rcases hl1 with rfl | ⟨hlen, ha⟩
      · exact (putL_len "data" hsh k v []).1
      · rw [(putL_len "data" hsh k v es).2 ha]; exact hlen
    refine set_buf T1.k (hobj _ F1) hdx (io_set _) (io_over _) (io_taker _) (io_dict _) hlk (Nat.le_trans (hln _ _ _) (by decide)) fun h' hsb ho' => ?_
    have F1' : FrD { c with H := (dx, dictOf es n) :: H } s₁ := by
      have := F1
      rw [← hH]
      exact this
    have F2 := FrD.reheld (tk := s₁.toks + 2) F1' hnot (Heap.SameBut.to hsb) ho' (by show Value.type "dict" ≠ Value.type "list"; decide) (by show Value.type "dict" ≠ Value.type "tuple"; decide)
    exact (r _ _ ⟨⟨t, getL_putL ..⟩, hln _ _ _⟩).run _ F2) fun _ _ y => y) hs
end
/-- the frame of a method's call that may alter the dict at dx -/
noncomputable abbrev cxB (prog : Program) (w : World) (a : Addr) (st : Stmt) (A : Around) (s : Shared) (L dx : Addr) (o : Obj) (ps : List (Str × D)) : Cx :=
  { prog := prog, w := w, A := A, nm := (fdOf w.params a).qualname, sc := scOf st, fa := a, cd := (fdOf w.params a).code, W := [L, dx], s₀ := { s with heap := hideAll s.heap [dx] }, L := L, μ := muOf ps, H := [(dx, o)], V := [], G := [], s₁ := s, lo := (· < L), top := L, z := dx }
section
variable {prog : Program} {w : World} {mg mb : Str → Option Value} {A : Around} {s : Shared} {R : Result → Shared → Prop}
theorem top_hide {hb : Heap} {dx : Addr} (T : Top1 w mg mb hb) (hk : ∀ b o, hb.get? b = some o → s.heap.get? b = some o) (hd : hb.get? dx = none) : Top1 w mg mb (hideAll s.heap [dx]) :=
  T.keeps fun b o e => hideAll_get _ (hk b o e) fun hm => by
    rcases List.mem_cons.mp hm with rfl | h
    · rw [hd] at e; cases e
    · exact absurd h List.not_mem_nil
theorem call_buf {hb : Heap} {a dx : Addr} {st : Stmt} {args : Args} {binds : List (Str × Value)} {ps : List (Str × D)} {od : Obj} {k : Nat} (T : Top1 w mg mb hb) (hkb : ∀ b o, hb.get? b = some o → s.heap.get? b = some o) (hhd : hb.get? dx = none) (hr : Room A (k + 1))
    (ho : (K0 w.params).lookup a = some { cls := .type "function", data := .func (mtFn w.params a st) }) (hcd : codeIn (K0 w.params) (fdOf w.params a).code (fdOf w.params a).qualname = true)
    (hbind : BindsTo s (mtFn w.params a st) args binds) (hn : binds.map (·.1) = ps.map (·.1)) (hd : DenAll [dx] s.heap (binds.map (·.2)) (ps.map (·.2))) (hfine : fnFine st (ps.map (·.1)) false = true)
    (hdx : s.heap.get? dx = some od) (hol : od.cls ≠ .type "list") (hot : od.cls ≠ .type "tuple")
    (h : ∀ L E, L = s.heap.objs.size → Top1 w mg mb (hideAll s.heap [dx]) → Blk (cxB prog w a st (A.deeper (envOf (fdOf w.params a).qualname (scOf st) L a (fdOf w.params a).code)) s L dx od ps) (bdOf st) (fun f s' => R (.ok (.ret (match f with | .ret v => v | _ => .none))) s') E) :
    codeAny (model prog w) A (.call (.ref a) args) R s := by
  obtain ⟨hloc, hco, hgen, hk, hcell⟩ := fnFine_iff hfine
  have Ts := T.keeps hkb
  refine codeAny_call_function (fd := mtFn w.params a st) (body := bdOf st) hr.lim (Ts.k _ _ ho) rfl hco hgen rfl (codeRec_of Ts.k hcd) (hbind _ _ _ _ ?_)
  have hb' : ∀ x ∈ binds, (scOf st).names.lookup x.1 = some .local := fun x hx => hloc x.1 (hn ▸ List.mem_map_of_mem hx)
  refine wpAny_newFunctionEnv hcell hb' (fun h₁ hns hsb => ⟨Ts.lim.fresh _ hsb, codeAny_func ?_⟩) hk
  generalize hL : s.heap.objs.size = L at hns hsb ⊢
  have hLd : dx ≠ L := fun q => by rw [q, ← hL, get_size] at hdx; cases hdx
  have keep : ∀ b o, s.heap.get? b = some o → h₁.get? b = some o := fun b o e => hsb.extBut b o (Nat.ne_of_lt (hL ▸ Heap.lt_size e)) (Heap.get?_push_of_some _ e)
  have bar : ∀ b ∈ [L, dx], b ∉ [dx] → s.heap.get? b = none := fun b hb hn => by
    rcases List.mem_cons.mp hb with rfl | hb
    · exact hL ▸ get_size _
    · exact absurd hb hn
  have nv : ∀ (x : Str) (a : Addr) (ds : List D), muOf ps x ≠ some (.own a ds) := fun x a ds hx => by
    simp only [muOf, Option.map_eq_some_iff] at hx
    obtain ⟨d, _, hd⟩ := hx
    cases hd
  have e : Ext s { s with heap := h₁, toks := s.toks + binds.length } := .heap _ keep
  have hLo : ∃ o, h₁.get? L = some o := let ⟨o, _, _, ho, _⟩ := hns; ⟨o, ho⟩
  have F : FrD (cxB prog w a st (A.deeper (envOf (fdOf w.params a).qualname (scOf st) L a (fdOf w.params a).code)) s L dx od ps) { s with heap := h₁, toks := s.toks + binds.length } := by
    refine ⟨⟨_, ⟨hns, fun b o e => keep b o (of_hideAll _ e), ?_⟩, fun x en hx => ?_⟩, fun x y b es fs h1 _ => absurd h1 (nv _ _ _), fun x b es h1 => absurd h1 (nv _ _ _), ⟨hLo, fun b hb => .inl (Nat.le_of_lt hb)⟩, .head _, fun b hb => ?_, ⟨fun b o e => keep b o (of_hideAll _ e), rfl, fun _ _ e => e, fun h => h⟩, fun p hp => ?_, (fun p hp => nomatch hp), (fun p hp => nomatch hp), fun b o _ h => keep b o h⟩
    · show (hideAll s.heap [dx]).objs.size ≤ L
      rw [hideAll_size, hL]
      exact Nat.le_refl _
    · simp only [muOf, Option.map_eq_some_iff] at hx
      obtain ⟨d, hl, rfl⟩ := hx
      obtain ⟨v, hv, hvd⟩ := lookup_zip binds.reverse ps.reverse (by rw [List.map_reverse, List.map_reverse, hn]) (by rw [List.map_reverse, List.map_reverse]; exact hd.rev) x d hl
      exact ⟨v, hv, (Den.bar bar hvd).ext e⟩
    · rcases List.mem_cons.mp hb with rfl | hb
      · exact hLo
      · rcases List.mem_cons.mp hb with rfl | hb
        · exact ⟨_, keep _ _ hdx⟩
        · exact absurd hb List.not_mem_nil
    · rcases List.mem_cons.mp hp with rfl | hp
      · exact ⟨.tail _ (.head _), ⟨hideAll_none _ (.head _), .inr rfl⟩, hLd, .of hol, .of hot, keep _ _ hdx⟩
      · exact absurd hp List.not_mem_nil
  exact wpAny_mono ((h L _ hL.symm (top_hide T hkb hhd)).run _ F) (fun f s' h' => h') fun _ _ x => x
end
end Mine
end
section
open PySem PySem.W PyProof.Rows PySem.Calls
set_option Elab.async false
set_option linter.unusedVariables false
set_option maxRecDepth 100000
set_option maxHeartbeats 1000000
namespace Mine
/-- what read(k) gives -/
def partB (k : Int) (b : List UInt8) : List UInt8 := if k < 0 then b else b.take k.toNat
theorem fineR : fnFine (mtNo 2) ["self", "n"] false = true := by kernel_rfl
theorem fineC : fnFine (mtNo 5) ["self"] false = true := by kernel_rfl
theorem fineI : fnFine (mtNo 0) ["self", "data"] false = true := by kernel_rfl
theorem fineT : fnFine (mtNo 1) ["self"] true = true := by kernel_rfl
noncomputable def tokR (P : Params) : Tok := match (K0 P).lookup 44 with
  | some ⟨_, _, .seq vs _, _⟩ => (match vs.toList with | .int _ t :: _ => t | _ => 0)
  | _ => 0
theorem bindR2 (P : Params) (S : Setting) (v u : Value) : peek (K0 P) S (bindArgs (mtFn P 51 (mtNo 2)) ⟨[v, u], []⟩) = some ([("self", v), ("n", u)] : List (Str × Value)) := by kernel_rfl
theorem bindR1 (P : Params) (S : Setting) (v : Value) : peek (K0 P) S (bindArgs (mtFn P 51 (mtNo 2)) ⟨[v], []⟩) = some ([("self", v), ("n", .int (-1) (tokR P))] : List (Str × Value)) := by kernel_rfl
theorem bindC (P : Params) (v : Value) : bindArgs (mtFn P 72 (mtNo 5)) ⟨[v], []⟩ = pure ([("self", v)] : List (Str × Value)) := by kernel_rfl
theorem bindI (P : Params) (S : Setting) (v u : Value) : peek (K0 P) S (bindArgs (mtFn P 36 (mtNo 0)) ⟨[v, u], []⟩) = some ([("self", v), ("data", u)] : List (Str × Value)) := by kernel_rfl
theorem bindT (P : Params) (v : Value) : bindArgs (mtFn P 43 (mtNo 1)) ⟨[v], []⟩ = pure ([("self", v)] : List (Str × Value)) := by kernel_rfl
theorem inst_ne {h : Heap} {x dx : Addr} {es : List DictEntry} {n : Nat} (h1 : h.get? x = some (instObj 75 dx)) (h2 : h.get? dx = some (dictOf es n)) : x ≠ dx := fun q => by
  rw [q, h2] at h1
  cases h1
section
variable {prog : Program} {w : World} {mg mb : Str → Option Value} {A : Around} {s : Shared} {R : Result → Shared → Prop} {hb : Heap} {x dx : Addr} {es : List DictEntry} {n : Nat} {b : List UInt8}
theorem hide_get {x dx : Addr} {o : Obj} (h : s.heap.get? x = some o) (hne : x ≠ dx) : (hideAll s.heap [dx]).get? x = some o := hideAll_get _ h fun hm => by
  rcases List.mem_cons.mp hm with h | h
  · exact hne h
  · exact absurd h List.not_mem_nil
/-- a read of a buffer -/
theorem call_read {args : Args} {k : Int} (T : Top1 w mg mb hb) (hkb : ∀ b o, hb.get? b = some o → s.heap.get? b = some o) (hhd : hb.get? dx = none) (hr : Room A 2) (hx : s.heap.get? x = some (instObj 75 dx)) (hdx : s.heap.get? dx = some (dictOf es n)) (B : IsBuf es b) (hz : b.length ≤ 100000)
    (hbind : ∃ t, BindsTo s (mtFn w.params 51 (mtNo 2)) args [("self", .ref x), ("n", .int k t)])
    (hR : ∀ t s' es' n', Ext { s with heap := hideAll s.heap [dx] } s' → s'.heap.get? dx = some (dictOf es' n') → IsBuf es' (b.drop (partB k b).length) → R (.ok (.ret (.bytes (partB k b).toArray t))) s') :
    codeAny (model prog w) A (.call (.ref 51) args) R s := by
  obtain ⟨t, hbind⟩ := hbind
  refine call_buf (k := 1) (ps := [("self", .raw (.ref x)), ("n", .int k)]) T hkb hhd hr (mt51 _) (mcd51 _) hbind rfl (.cons (.raw _) (.cons (.int k t) .nil)) fineR hdx (by show Value.type "dict" ≠ Value.type "list"; decide) (by show Value.type "dict" ≠ Value.type "tuple"; decide) fun L E hL Th => ?_
  have hne := inst_ne hx hdx
  have hobj : ∀ (c : Cx) (s' : Shared), c.s₀ = { s with heap := hideAll s.heap [dx] } → FrD c s' → s'.heap.get? x = some (instObj 75 dx) := fun c s' e F => F.ext.keep _ _ (by rw [e]; exact hide_get hx hne)
  have hBuf : ∀ (c : Cx), c.s₀ = { s with heap := hideAll s.heap [dx] } → (dx, dictOf es n) ∈ c.H → Buf c x dx es n b := fun c e1 e2 => ⟨fun s' F => hobj c s' e1 F, e2, B.get, B.len⟩
  refine Blk.assign (d := .bytes (partB k b)) ?_ ?_
  · refine J_ifExp (b := decide (k < 0)) (JB_cmp (J.top (J_name rfl)) (J.top J_int) Cmp_ltI) (fun h => ?_) (fun h => ?_)
    · have : partB k b = b := if_pos (by simpa using h)
      rw [this]
      exact J_data Th (hBuf _ rfl (.head _)) rfl
    · have hk : ¬ k < 0 := by simpa using h
      have : partB k b = b.take k.toNat := if_neg hk
      rw [this]
      refine J.cast (J_cutB (J_data Th (hBuf _ rfl (.head _)) rfl) .none (.some (J_name rfl)) (by omega)) ?_
      obtain ⟨m, rfl⟩ := Int.eq_ofNat_of_zero_le (Int.not_lt.mp hk)
      rw [cut_to]; rfl
  refine Blk.setData (b := b.drop (partB k b).length) (H := []) Th rfl (fun q hq => nomatch hq) (fun s' F => hobj _ s' rfl F) (.inr ⟨B.len, by obtain ⟨t, ht⟩ := B.get; exact getL_any ht⟩) rfl ?_ (fun es' n' B' => ?_)
  · have hpl : (partB k b).length ≤ b.length := by unfold partB; split <;> simp; omega
    refine J.cast (J_cutB (J_data Th (hBuf _ rfl (.head _)) rfl) (.some (J_lenB (.builtin Th (nm_none Th (nmNo_len _)) bt_len) (J_name rfl) (by omega))) .none (by omega)) ?_
    rw [cut_from]
  refine Blk.ret (d := .bytes (partB k b)) (J_name rfl) fun v s' F y => ?_
  obtain ⟨t', rfl⟩ := denT_bytes y.top
  exact hR t' s' es' n' F.ext (F.hh (dx, dictOf es' n') (.head _)).g B'
end
end Mine
end
section
open PySem PySem.W PyProof.Rows PySem.Calls
set_option Elab.async false
set_option linter.unusedVariables false
set_option maxRecDepth 100000
set_option maxHeartbeats 1000000
namespace Mine
theorem room_new {A : Around} {k : Nat} {C : Addr} {rest : List Value} (r : Room A (k + 1)) : Room (A.under (.builtin "type.__call__" ⟨.ref C :: rest, []⟩)) k := by
  have hu : (A.under (.builtin "type.__call__" ⟨.ref C :: rest, []⟩)).units = A.units + 1 := rfl
  have hd : (A.under (.builtin "type.__call__" ⟨.ref C :: rest, []⟩)).depth = A.depth + 1 := rfl
  refine ⟨r.hh, ?_, ?_⟩
  · rw [hd]; have := r.dep; omega
  · rw [hu]; have := r.un; omega
section
variable {c : Cx} {s : Shared}
/-- a step that alters the held object at dx and nothing else that stood -/
theorem FrD.bufStep {s' : Shared} {dx : Addr} {o o' : Obj} {H : List (Addr × Obj)} (F : FrD c s) (hH : c.H = (dx, o) :: H) (hnot : ∀ p ∈ H, p.1 ≠ dx) (e : Ext { s with heap := hideAll s.heap [dx] } s') (ho : s'.heap.get? dx = some o') (hc : o'.cls ≠ .type "list") (hct : o'.cls ≠ .type "tuple") :
    FrD (c.hd ((dx, o') :: H)) s' := by
  obtain ⟨m, hm, hμ⟩ := F.fr
  have hb := F.hh (dx, o) (hH ▸ .head _)
  have hs : ∀ a o, a ≠ dx → s.heap.get? a = some o → s'.heap.get? a = some o := fun a o hne h => e.keep _ _ (hide_get h hne)
  have k : Kb c.W s.heap s'.heap := Kb.change hb.w hs
  have hl : ∃ o, s'.heap.get? dx = some o := ⟨_, ho⟩
  refine ⟨⟨m, ⟨let ⟨o, es, ep, h1, r⟩ := hm.ns; ⟨o, es, ep, hs _ _ hb.l.symm h1, r⟩, fun a o h => hs a o (Free.ne hb.n h) (hm.keep a o h), hm.above⟩, fun y en hy => ?_⟩, F.inj, F.new, ⟨tl_change F.tl.1 hs hl, fun b hb => (F.tl.2 b hb).imp id fun h => tl_change h hs hl⟩, F.lw, F.live.change hs hl,
    ⟨fun a o h => hs a o (Free.ne hb.n h) (F.ext.keep a o h), e.os.trans F.ext.os, fun i x h => e.gens i x (F.ext.gens i x h), fun h => e.bare (F.ext.bare h)⟩, fun p hp => ?_, fun q hq => (F.vv q hq).kb k, fun p hp => e.gens _ _ (F.gg p hp), F.krc (fun o1 h1 => by rw [hb.g] at h1; cases h1; exact hb.n.prot hb.t) hs⟩
  · obtain ⟨u, hu, he⟩ := hμ y en hy
    refine ⟨u, hu, ?_⟩
    cases en with
    | val d => exact Den.kb k he
    | own a es =>
      obtain ⟨r1, r2, us, j, r3, r4⟩ := he
      have hab : a ≠ dx := fun q => by subst q; rw [hb.g] at r3; exact hb.c _ _ (Option.some.inj r3)
      exact ⟨r1, r2, us, j, hs a _ hab r3, r4.kb k⟩
  · rcases List.mem_cons.mp hp with rfl | hp
    · exact ⟨hb.w, hb.n, hb.l, .of hc, .of hct, ho⟩
    · have := F.hh p (hH ▸ .tail _ hp)
      exact ⟨this.w, this.n, this.l, this.c, this.t, hs _ _ (hnot p hp) this.g⟩
end
section
variable {c : Cx} {mg mb : Str → Option Value} {x dx : Addr} {es : List DictEntry} {n : Nat} {b : List UInt8}
/-- a method of the buffer's class, called -/
theorem eval_meth {nm name : Str} {f : Addr} {st : Stmt} {args : List PySem.Expr} {p ap pos : Pos} {ds : List D} {s : Shared} {E : Value → Shared → Prop} {Q : Value → Shared → Prop} (T : Top1 c.w mg mb c.s₀.heap) (F : FrD c s) (hx : c.μ nm = some (.val (.raw (.ref x)))) (B : Buf c x dx es n b)
    (hg : plainGet (K0 c.w.params) 75 name = true) (hf : findIn (K0 c.w.params) (.ref 75) name = some (some (.ref f))) (hfn : isFn (K0 c.w.params) (.ref f) = true) (hno : ∀ es, IsBuf es b → getL name es = some none)
    (ho : (K0 c.w.params).lookup f = some { cls := .type "function", data := .func (mtFn c.w.params f st) })
    (ha : JS c (backTo pos (starEach args c.env)) ds) (h : ∀ s' vs, Ext s s' → FrD c s' → DenAll c.W s'.heap vs ds → wpAny c.M c.A (call (.ref f) (.ref x :: vs)) Q E s')
    (hk : c.sc.kind = .function) (hl : c.env.kindOf nm = some .local) (hd : (nm == ("__debug__" : Str)) = false)
    (hbase : attributeBase (.Name nm p) name c.env (eval (.Name nm p) c.env) = eval (.Name nm p) c.env)
    (hfew : ((backTo pos (starEach args c.env)).all (fun x => !x.1) && (backToKw pos (keywordEach [] c.env)).all (fun x => x.1.isSome)
      && decide (args.length + ([] : List Keyword).length + (if ([] : List Keyword).isEmpty then 0 else 1) < 30)) = true)
    (hline : (ap.endLine == pos.line) = true) : wpAny c.M c.A (eval (.Call (.Attribute (.Name nm p) name ap) args [] pos) c.env) Q E s := by
  have hall : (backTo pos (starEach args c.env)).all (fun x => !x.1) = true := by
    rw [Bool.and_eq_true, Bool.and_eq_true] at hfew
    exact hfew.1.1
  rw [arm_eval_Call, hbase]
  refine wpAny_bind (raw_name F hx ?_ hk hl hd)
  refine wpAny_bind (wpAny_standAt ?_)
  obtain ⟨m, hm, _⟩ := F.fr
  have I : InstAt s.heap x (instObj 75 dx) 75 (some (dictOf es n)) := ⟨B.obj s F, rfl, rfl, (F.hh _ B.dic).g⟩
  have hform : methodCallForm (args.length + ([] : List Keyword).length) (backTo pos (starEach args c.env)) (backToKw pos (keywordEach [] c.env)) = true := hfew
  have hpos : methodCallPos true (.Name nm p) c.env ap pos = pure pos := by unfold methodCallPos; simp [hline]
  unfold methodCall
  rw [hform]
  refine wpAny_bind (wpAny_holding (method_inst hm T.k I hg hf hfn (hno es ⟨B.get, B.len⟩) ?_))
  refine wpAny_bind (wpAny_of_eq hpos ?_)
  refine callWith_function (o := { cls := .type "function", data := .func (mtFn c.w.params f st) }) (fd := mtFn c.w.params f st) (wpAny_mono (evalArgs_JS ha hall F) (fun as s₁ ⟨e1, vs, ea, x1⟩ => ?_) fun _ _ x => x)
  subst ea
  have F1 := F.go e1
  exact ⟨⟨(F1.top T).k _ _ ho, rfl⟩, h s₁ vs e1 F1 x1⟩
theorem getL_other {es : List DictEntry} {b : List UInt8} {name : Str} (B : IsBuf es b) (h : ∀ k : Value, k.isStr "data" = true → k.isStr name = false ∧ (match k with | .ref _ => False | _ => True)) : getL name es = some none := by
  obtain ⟨t, ht⟩ := B.get
  have ha := getL_any ht
  match es, B.len with
  | [], _ => cases ha
  | [e], _ =>
    have hk : e.key.isStr "data" = true := by simpa using ha
    obtain ⟨h1, h2⟩ := h _ hk
    unfold getL
    simp only [List.find?_cons, h1, List.find?_nil, List.any_cons, List.any_nil, Bool.or_false]
    have : e.refKey = false := by
      unfold DictEntry.refKey
      cases e with
      | mk hsh key val => cases key <;> simp_all
    rw [this]
    rfl
end
end Mine
end
section
open PySem PySem.W PyProof.Rows PySem.Calls
set_option Elab.async false
set_option linter.unusedVariables false
set_option maxRecDepth 100000
set_option maxHeartbeats 1000000
namespace Mine
theorem isStr_data {k : Value} {name : Str} (hne : ("data" : Str) ≠ name) : k.isStr "data" = true → k.isStr name = false ∧ (match k with | .ref _ => False | _ => True) := by
  intro h
  cases k with
  | str s t =>
    have e : s = ("data" : Str) := eq_of_beq (show (s == ("data" : Str)) = true from h)
    subst e
    exact ⟨by show (("data" : Str) == name) = false; simpa using hne, trivial⟩
  | _ => cases h
theorem no_read {es : List DictEntry} {b : List UInt8} (B : IsBuf es b) : getL "read" es = some none := getL_other B fun k h => isStr_data (name := "read") (by decide) h
theorem no_close {es : List DictEntry} {b : List UInt8} (B : IsBuf es b) : getL "close" es = some none := getL_other B fun k h => isStr_data (name := "close") (by decide) h
theorem io_keep (P : Params) : keepIn (K0 P) (.ref 75) = true := by kernel_rfl
section
variable {c : Cx} {mg mb : Str → Option Value} {x dx : Addr} {es : List DictEntry} {n : Nat} {b : List UInt8} {H : List (Addr × Obj)}
/-- nm.read(e) -/
theorem eval_read1 {nm : Str} {e : PySem.Expr} {p ap pos : Pos} {k : Int} {s : Shared} {E : Value → Shared → Prop} {Q : Value → Shared → Prop} (T : Top1 c.w mg mb c.s₀.heap) (hr : Room c.A 2) (F : FrD c s) (hx : c.μ nm = some (.val (.raw (.ref x)))) (B : Buf c x dx es n b) (hH : c.H = (dx, dictOf es n) :: H) (hnot : ∀ p ∈ H, p.1 ≠ dx) (hz : b.length ≤ 100000)
    (he : J c e (.int k)) (h : ∀ t s' es' n', IsBuf es' (b.drop (partB k b).length) → FrD (c.hd ((dx, dictOf es' n') :: H)) s' → Q (.bytes (partB k b).toArray t) s')
    (hk : c.sc.kind = .function := by rfl) (hl : c.env.kindOf nm = some .local := by rfl) (hd : (nm == ("__debug__" : Str)) = false := by decide)
    (hbase : attributeBase (.Name nm p) "read" c.env (eval (.Name nm p) c.env) = eval (.Name nm p) c.env := by rfl) (hs : starEach [e] c.env = [(false, eval e c.env)] := by rfl)
    (hline : (ap.endLine == pos.line) = true := by rfl) : wpAny c.M c.A (eval (.Call (.Attribute (.Name nm p) "read" ap) [e] [] pos) c.env) Q E s := by
  refine eval_meth T F hx B (io_getR _) (io_read _) (io_fn51 _) (fun es B => no_read B) (mt51 _) (JS1 he hs) (fun s' vs e1 F1 xs => ?_) hk hl hd hbase (by rw [hs]; rfl) hline
  obtain ⟨v, rfl, xv⟩ := denAll1 xs
  obtain ⟨t, rfl⟩ := denT_int xv.top
  have hdx := (F1.hh _ B.dic)
  refine wpAny_call (call_read T F1.ext.keep hdx.n.1 hr (B.obj _ F1) hdx.g ⟨B.get, B.len⟩ hz ⟨t, kp_binds (F1.top T).k fun S => bindR2 _ S _ _⟩ fun t' s₂ es' n' e2 ho B' => ?_)
  exact h t' s₂ es' n' B' (F1.bufStep hH hnot e2 ho (by show Value.type "dict" ≠ Value.type "list"; decide) (by show Value.type "dict" ≠ Value.type "tuple"; decide))
/-- nm.read() -/
theorem eval_read0 {nm : Str} {p ap pos : Pos} {s : Shared} {E : Value → Shared → Prop} {Q : Value → Shared → Prop} (T : Top1 c.w mg mb c.s₀.heap) (hr : Room c.A 2) (F : FrD c s) (hx : c.μ nm = some (.val (.raw (.ref x)))) (B : Buf c x dx es n b) (hH : c.H = (dx, dictOf es n) :: H) (hnot : ∀ p ∈ H, p.1 ≠ dx) (hz : b.length ≤ 100000)
    (h : ∀ t s' es' n', IsBuf es' [] → FrD (c.hd ((dx, dictOf es' n') :: H)) s' → Q (.bytes b.toArray t) s')
    (hk : c.sc.kind = .function := by rfl) (hl : c.env.kindOf nm = some .local := by rfl) (hd : (nm == ("__debug__" : Str)) = false := by decide)
    (hbase : attributeBase (.Name nm p) "read" c.env (eval (.Name nm p) c.env) = eval (.Name nm p) c.env := by rfl)
    (hline : (ap.endLine == pos.line) = true := by rfl) : wpAny c.M c.A (eval (.Call (.Attribute (.Name nm p) "read" ap) [] [] pos) c.env) Q E s := by
  refine eval_meth (ds := []) T F hx B (io_getR _) (io_read _) (io_fn51 _) (fun es B => no_read B) (mt51 _) JS.nil (fun s' vs e1 F1 xs => ?_) hk hl hd hbase rfl hline
  cases xs
  have hdx := (F1.hh _ B.dic)
  refine wpAny_call (call_read (k := -1) T F1.ext.keep hdx.n.1 hr (B.obj _ F1) hdx.g ⟨B.get, B.len⟩ hz ⟨_, kp_binds (F1.top T).k fun S => bindR1 _ S _⟩ fun t' s₂ es' n' e2 ho B' => ?_)
  have e : partB (-1) b = b := rfl
  rw [e] at B' ⊢
  rw [List.drop_length] at B'
  exact h t' s₂ es' n' B' (F1.bufStep hH hnot e2 ho (by show Value.type "dict" ≠ Value.type "list"; decide) (by show Value.type "dict" ≠ Value.type "tuple"; decide))
/-- nm.close() -/
theorem J_close {nm : Str} {p ap pos : Pos} (T : Top1 c.w mg mb c.s₀.heap) (hr : Room c.A 2) (hx : c.μ nm = some (.val (.raw (.ref x)))) (B : Buf c x dx es n b)
    (hk : c.sc.kind = .function := by rfl) (hl : c.env.kindOf nm = some .local := by rfl) (hd : (nm == ("__debug__" : Str)) = false := by decide)
    (hbase : attributeBase (.Name nm p) "close" c.env (eval (.Name nm p) c.env) = eval (.Name nm p) c.env := by rfl)
    (hline : (ap.endLine == pos.line) = true := by rfl) : J c (.Call (.Attribute (.Name nm p) "close" ap) [] [] pos) .none := .mk fun s E F => by
  refine eval_meth (ds := []) T F hx B (io_getC _) (io_close _) (io_fn72 _) (fun es B => no_close B) (mt72 _) JS.nil (fun s' vs e1 F1 xs => ?_) hk hl hd hbase rfl hline
  cases xs
  have T1 := F1.top T
  obtain ⟨hloc, hco, hgen, hk, hcell⟩ := fnFine_iff fineC
  refine wpAny_call (call_fnB (W := c.W) (d := .none) (ps := [("self", .raw (.ref x))]) (k := 1) T1 F1.live hr (T1.k _ _ (mt72 _)) rfl (codeRec_of T1.k (mcd72 _)) (fun E => ?_) (fun v s₂ e2 x2 => ⟨e1.trans e2, x2⟩) (fun s₁ L E e2 hL => ?_) hloc hco hgen hk hcell)
  · show wpAny _ _ (bindArgs (mtFn c.w.params 72 (mtNo 5)) ⟨[.ref x], []⟩) _ _ _
    rw [bindC]
    exact wpAny_pure ⟨.refl _, rfl, .cons (.raw _) .nil⟩
  · exact Blk.retD J_none (fun _ h => .tail _ h)
end
section
variable {c : Cx} {Q : Flow → Shared → Prop} {E : Value → Shared → Prop} {rest : List Stmt} {mg mb : Str → Option Value} {b : List UInt8}
def Cx.wh (c : Cx) (W : List Addr) (H : List (Addr × Obj)) (μ : Mu) : Cx := { c with W := W, H := H, μ := μ }
/-- nm = BytesIO(e) -/
theorem Blk.makeBuf {nm : Str} {e : PySem.Expr} {p p1 p2 pos : Pos} (T : Top1 c.w mg mb c.s₀.heap) (hr : Room c.A 5) (hn : IsName c "BytesIO" (.ref 75)) (h : J c e (.bytes b))
    (r : ∀ x dx es n, IsBuf es b → x ≠ dx → (∀ p ∈ c.H, p.1 ≠ dx ∧ p.1 ≠ x) → x ∉ c.W → dx ∉ c.W → Blk (c.wh (x :: dx :: c.W) ((dx, dictOf es n) :: (x, instObj 75 dx) :: c.H) (upd c.μ nm (some (.val (.raw (.ref x)))))) rest Q E)
    (hk : c.sc.kind = .function := by rfl) (hl : c.env.kindOf nm = some .local := by rfl) (hs1 : starEach [e] c.env = [(false, eval e c.env)] := by rfl)
    (hs : swapsWith (.Call (.Name "BytesIO" p1) [e] [] p2) (some (.Name nm p)) pos.line c.env = pure false := by rfl) : Blk c (.Assign [.Name nm p] (.Call (.Name "BytesIO" p1) [e] [] p2) pos :: rest) Q E :=
  Blk.stmt fun s F => wpAny_Assign_Name (Call_Name rfl (hn.run s _ E p1 F (by
    refine callWith_K T.k (io_keep _) ?_ hs1 rfl
    have hargs : wpAny c.M c.A (spliced (backTo p2 (starEach [e] c.env))) (fun vs s₁ => Ext s s₁ ∧ ∃ t, vs = [.bytes b.toArray t]) E s := by
      rw [hs1]
      refine spliced_cons (wpAny_mono (h.run s E F) (fun v s₁ ⟨e1, x1⟩ => ?_) fun _ _ x => x)
      obtain ⟨t, rfl⟩ := denT_bytes x1.top
      exact spliced_nil ⟨e1, t, rfl⟩
    refine wpAny_mono hargs (fun vs s₁ ⟨e1, t, ev⟩ => ?_) fun _ _ x => x
    subst ev
    have F1 := F.go e1
    have T1 := F1.top T
    refine ⟨T1.k, wpAny_call ?_⟩
    obtain ⟨hh, g, d, tk, os⟩ := s₁
    refine make_core (makes_of T1.k (io_makes _)) (looks_findIn T1.k (io_init _)) (fun self => bind_fn T1.k self (io_fn36 _)) (.inl rfl) ?_
    have hz := get_size hh
    generalize hdx : hh.objs.size = dx at hz ⊢
    have hDict : (hh.push emptyDict).get? dx = some emptyDict := by rw [← hdx]; exact Heap.get?_push_size _ rfl
    have hsz1 : (hh.push emptyDict).objs.size = dx + 1 := by rw [Heap.size_push, hdx]
    have hInst : ((hh.push emptyDict).push (instObj 75 dx)).get? (dx + 1) = some (instObj 75 dx) := by rw [← hsz1]; exact Heap.get?_push_size _ rfl
    have hDict2 : ((hh.push emptyDict).push (instObj 75 dx)).get? dx = some emptyDict := Heap.get?_push_of_some _ hDict
    have e2 : Ext (⟨hh, g, d, tk, os⟩ : Shared) ⟨hh.push emptyDict, g, d, tk, os⟩ := .push _
    have e3 : Ext (⟨hh.push emptyDict, g, d, tk, os⟩ : Shared) ⟨(hh.push emptyDict).push (instObj 75 dx), g, d, tk, os⟩ := .push _
    have hLd : dx ≠ c.L := by
      obtain ⟨m, hm, _⟩ := F1.fr
      rw [← hdx]; exact (Nat.ne_of_lt hm.ns.lt).symm
    have hLx : dx + 1 ≠ c.L := by
      obtain ⟨m, hm, _⟩ := F1.fr
      have := hm.ns.lt
      rw [hdx] at this
      exact (Nat.ne_of_lt (Nat.lt_succ_of_lt this)).symm
    have hgd := F1.ge
    rw [hdx] at hgd
    have F2 := F1.hold e2 hz hDict (by show Value.type "dict" ≠ Value.type "list"; decide) (by show Value.type "dict" ≠ Value.type "tuple"; decide) hLd hgd
    have hgx := F2.ge
    rw [hsz1] at hgx
    have hxn : (hh.push emptyDict).get? (dx + 1) = none := by rw [← hsz1]; exact get_size _
    have F3 := F2.hold e3 hxn hInst (by show Value.ref 75 ≠ Value.type "list"; decide) (by show Value.ref 75 ≠ Value.type "tuple"; decide) hLx hgx
    have hnH : ∀ p ∈ c.H, p.1 ≠ dx ∧ p.1 ≠ dx + 1 := fun p hp => by
      have := (F1.hh p hp).g
      refine ⟨fun q => ?_, fun q => ?_⟩
      · rw [q] at this; rw [show (⟨hh, g, d, tk, os⟩ : Shared).heap.get? dx = none from hz] at this; cases this
      · have h4 := Heap.lt_size this
        rw [q] at h4
        have : dx + 1 < dx := hdx ▸ h4
        exact absurd this (by omega)
    have F4 : FrD (c.wh ((dx + 1) :: dx :: c.W) ((dx, emptyDict) :: (dx + 1, instObj 75 dx) :: c.H) c.μ) ⟨(hh.push emptyDict).push (instObj 75 dx), g, d, tk, os⟩ := by
      refine F3.dropH (H := (dx, emptyDict) :: (dx + 1, instObj 75 dx) :: c.H) fun p hp => ?_
      rcases List.mem_cons.mp hp with rfl | hp
      · exact .tail _ (.head _)
      · rcases List.mem_cons.mp hp with rfl | hp
        · exact .head _
        · exact .tail _ (.tail _ hp)
    have hxW : dx + 1 ∉ c.W := fun hm => by
      obtain ⟨o, ho⟩ := F1.live _ hm
      have := Heap.lt_size ho
      have : dx + 1 < dx := hdx ▸ this
      exact absurd this (by omega)
    have hdW : dx ∉ c.W := F1.live.fresh hz
    refine call_buf (k := 3) (ps := [("self", .raw (.ref (dx + 1))), ("data", .bytes b)]) T1 (e2.trans e3).keep hz (room_new hr) (mt36 _) (mcd36 _) (kp_binds ((T1.ext (e2.trans e3)).k) fun S => bindI _ S _ _) rfl (.cons (.raw _) (.cons (.bytes b t) .nil)) fineI hDict2 (by show Value.type "dict" ≠ Value.type "list"; decide) (by show Value.type "dict" ≠ Value.type "tuple"; decide) fun L' E' hL' Th => ?_
    refine Blk.setData (es := []) (n := 0) (x := dx + 1) (b := b) (H := []) Th rfl (fun q hq => nomatch hq) (fun s' F' => F'.ext.keep _ _ (hide_get hInst (Nat.ne_of_gt (Nat.lt_succ_self _)))) (.inl rfl) rfl (J_name rfl) (fun es' n' B' => ?_)
    refine Blk.nil fun s₂ F5 => ?_
    refine ⟨rfl, ?_⟩
    have F6 := F4.bufStep (o := emptyDict) (o' := dictOf es' n') (H := (dx + 1, instObj 75 dx) :: c.H) rfl (fun q hq => by
      rcases List.mem_cons.mp hq with rfl | hq
      · exact Nat.ne_of_gt (Nat.lt_succ_self _)
      · exact (hnH q hq).1) F5.ext (F5.hh (dx, dictOf es' n') (.head _)).g (by show Value.type "dict" ≠ Value.type "list"; decide) (by show Value.type "dict" ≠ Value.type "tuple"; decide)
    obtain ⟨m, hm, hμ⟩ := F6.fr
    exact wpAny_storeName_local (env := c.env) hl hm.ns (fun h' hn' hs' => (r (dx + 1) dx es' n' B' (Nat.ne_of_gt (Nat.lt_succ_self _)) hnH hxW hdW).run _ (F6.store hm hμ hn' hs' (.raw _))) (noCls hk)))) hs
end
end Mine
end
section
open PySem PySem.W PyProof.Rows PySem.Calls
set_option Elab.async false
set_option linter.unusedVariables false
set_option maxRecDepth 100000
set_option maxHeartbeats 1000000
namespace Mine
/-- the rows of a text, their ends with them -/
def linesB : List UInt8 → List (List UInt8)
  | [] => []
  | x :: r => if x = 10 then [10] :: linesB r else match linesB r with
    | [] => [[x]]
    | l :: ls => (x :: l) :: ls
def firstL (t : List UInt8) : List UInt8 := match idxB 10 t with
  | some i => t.take (i + 1)
  | none => t
theorem linesB_cons (x : UInt8) (r : List UInt8) : linesB (x :: r) = if x = 10 then [10] :: linesB r else match linesB r with
    | [] => [[x]]
    | l :: ls => (x :: l) :: ls := by rw [linesB]
theorem linesB_first : ∀ {t : List UInt8}, t ≠ [] → linesB t = firstL t :: linesB (t.drop (firstL t).length)
  | [], h => absurd rfl h
  | x :: r, _ => by
    rw [linesB_cons]
    by_cases hx : x = 10
    · subst hx
      have e : firstL ((10 : UInt8) :: r) = [10] := by simp [firstL, idxB]
      rw [if_pos rfl, e]; rfl
    · rw [if_neg hx]
      cases r with
      | nil =>
        have e : firstL [x] = [x] := by simp [firstL, idxB, hx]
        rw [e]; rfl
      | cons y r' =>
        have ih := linesB_first (t := y :: r') (by simp)
        have e : firstL (x :: y :: r') = x :: firstL (y :: r') := by
          unfold firstL
          rw [show idxB 10 (x :: y :: r') = (idxB 10 (y :: r')).map (· + 1) by rw [idxB, if_neg hx]]
          cases idxB 10 (y :: r') with
          | none => rfl
          | some i => rfl
        rw [ih, e]
        rfl
theorem linesB_len (t : List UInt8) : (linesB t).length ≤ t.length := by
  induction t with
  | nil => simp [linesB]
  | cons x r ih =>
    rw [linesB_cons]
    split
    · simp; omega
    · cases h : linesB r with
      | nil => simp
      | cons l ls => rw [h] at ih; simp at ih ⊢; omega
theorem linesB_flat : ∀ t, (linesB t).flatten = t
  | [] => rfl
  | x :: r => by
    have ih := linesB_flat r
    rw [linesB_cons]
    split
    · rename_i h; subst h; simp [ih]
    · cases h : linesB r with
      | nil => rw [h] at ih; simp at ih; simp [ih]
      | cons l ls => rw [h] at ih; simp at ih ⊢; exact ih
/-- how many octets the reader takes -/
def kOf (t : List UInt8) : Int := match idxB 10 t with
  | some i => (i : Int) + 1
  | none => t.length
theorem first_part (t : List UInt8) : partB (kOf t) t = firstL t := by
  unfold firstL kOf
  cases h : idxB 10 t with
  | none => simp [partB]
  | some i =>
    simp only
    unfold partB
    rw [if_neg (by omega)]
    congr 1
/-- what a resumption of the reader keeps -/
structure KI (L2 dx g2 : Nat) (s s' : Shared) : Prop where
  obj : ∀ b o, b ≠ L2 → b ≠ dx → s.heap.get? b = some o → s'.heap.get? b = some o
  os : s'.os = s.os
  gens : ∀ (i : Nat) (v : GenState), s.gens[i]? = some v → s'.gens[i]? = some v
  bare : AllBare s.gens → AllBare s'.gens
/-- the reader's state, from without -/
structure IC (hb : Heap) (L2 x dx g2 : Nat) (t : List UInt8) (s : Shared) : Prop where
  base : ∀ b o, hb.get? b = some o → s.heap.get? b = some o
  ns : ∃ m, s.heap.Ns L2 m ∧ m "self" = some (.ref x)
  x : s.heap.get? x = some (instObj 75 dx)
  dx : ∃ es n, s.heap.get? dx = some (dictOf es n) ∧ IsBuf es t
  run : s.gens[g2]? = some .running
def YI (hb : Heap) (L2 x dx g2 : Nat) (ls : List (List UInt8)) : Protocol := fun m s₀ v s' kap =>
  ∃ l tk, ls[ls.length - 1 - m]? = some l ∧ v = .bytes l.toArray tk ∧ KI L2 dx g2 s₀ s' ∧ IC hb L2 x dx g2 ((ls.drop (ls.length - m)).flatten) s' ∧ ∀ s'', IC hb L2 x dx g2 ((ls.drop (ls.length - m)).flatten) s'' → kap (.send .none) s''
def RI (hb : Heap) (L2 x dx g2 : Nat) : GenEnd := fun m s₀ r s' => m = 0 ∧ r = .ok (.ret .none) ∧ KI L2 dx g2 s₀ s' ∧ IC hb L2 x dx g2 [] s'
/-- the reader's frame -/
noncomputable abbrev cI (prog : Program) (w : World) (A : Around) (hb : Heap) (L2 x dx : Nat) (es : List DictEntry) (n : Nat) (s : Shared) : Cx :=
  { prog := prog, w := w, A := A, nm := (fdOf w.params 43).qualname, sc := scOf (mtNo 1), fa := 43, cd := (fdOf w.params 43).code, W := [L2, dx], s₀ := { s with heap := hb }, L := L2, μ := muOf [("self", .raw (.ref x))], H := [(dx, dictOf es n)], V := [], G := [], s₁ := s, lo := fun b => ∃ o, s.heap.get? b = some o, top := L2, z := dx }
section
variable {prog : Program} {w : World} {mg mb : Str → Option Value} {hb : Heap} {L2 x dx g2 : Nat} {s : Shared} {t : List UInt8} {es : List DictEntry} {n : Nat}
theorem IC.frame {A : Around} (hsz : hb.objs.size ≤ L2) (hdx : hb.get? dx = none) (hne : dx ≠ L2) (I : IC hb L2 x dx g2 t s) (hd : s.heap.get? dx = some (dictOf es n)) : FrD (cI prog w A hb L2 x dx es n s) s := by
  obtain ⟨m, hns, hm⟩ := I.ns
  have hL : ∃ o, s.heap.get? L2 = some o := let ⟨o, _, _, ho, _⟩ := hns; ⟨o, ho⟩
  refine ⟨⟨m, ⟨hns, I.base, hsz⟩, fun y e hy => ?_⟩, fun y z a ds es h1 _ => ?_, fun y a ds h1 => ?_, ⟨hL, fun b hb => .inr hb⟩, .head _, fun b hb => ?_, ⟨I.base, rfl, fun _ _ e => e, fun h => h⟩, fun p hp => ?_, (fun p hp => nomatch hp), (fun p hp => nomatch hp), fun b o _ h => h⟩
  · simp only [muOf, Option.map_eq_some_iff] at hy
    obtain ⟨d, hl, rfl⟩ := hy
    have hy2 : y = "self" ∧ d = .raw (.ref x) := by
      simp only [List.reverse_cons, List.reverse_nil, List.nil_append, List.lookup_cons, List.lookup_nil] at hl
      by_cases q : y == ("self" : Str)
      · rw [q] at hl; exact ⟨eq_of_beq q, (Option.some.inj hl).symm⟩
      · have q' : (y == ("self" : Str)) = false := by simpa using q
        rw [q'] at hl; cases hl
    obtain ⟨rfl, rfl⟩ := hy2
    exact ⟨_, hm, .raw _⟩
  · simp only [muOf, Option.map_eq_some_iff] at h1
    obtain ⟨d, _, hd⟩ := h1
    cases hd
  · simp only [muOf, Option.map_eq_some_iff] at h1
    obtain ⟨d, _, hd⟩ := h1
    cases hd
  · rcases List.mem_cons.mp hb with rfl | hb
    · exact hL
    · rcases List.mem_cons.mp hb with rfl | hb
      · exact ⟨_, hd⟩
      · exact absurd hb List.not_mem_nil
  · rcases List.mem_cons.mp hp with rfl | hp
    · exact ⟨.tail _ (.head _), ⟨hdx, .inr rfl⟩, hne, .of (by show Value.type "dict" ≠ Value.type "list"; decide), .of (by show Value.type "dict" ≠ Value.type "tuple"; decide), hd⟩
    · exact absurd hp List.not_mem_nil
theorem wp_cast {M : Model} {A A' : Around} {α : Type} {m : Sem α} {Q : α → Shared → Prop} {E : Value → Shared → Prop} {s : Shared} (e : A = A') (h : wpAny M A' m Q E s) : wpAny M A m Q E s := e ▸ h
theorem FrD.ki {A : Around} {s' : Shared} {o : Obj} (F : FrD ((cI prog w A hb L2 x dx es n s).hd [(dx, o)]) s') : KI L2 dx g2 s s' :=
  ⟨fun b o h1 h2 e => F.kr b o (.inl ⟨⟨o, e⟩, h2, h1⟩) e, F.ext.os, F.ext.gens, F.ext.bare⟩
theorem IC.of_frame {A : Around} {s' : Shared} {es' : List DictEntry} {n' : Nat} {t' : List UInt8} (I : IC hb L2 x dx g2 t s) (hx2 : x ≠ L2) (hxd : x ≠ dx) (F : FrD ((cI prog w A hb L2 x dx es n s).hd [(dx, dictOf es' n')]) s') (B : IsBuf es' t') : IC hb L2 x dx g2 t' s' := by
  obtain ⟨m, hm, hμ⟩ := F.fr
  refine ⟨F.ext.keep, ⟨m, hm.ns, ?_⟩, F.kr _ _ (.inl ⟨⟨_, I.x⟩, hxd, hx2⟩) I.x, ⟨es', n', (F.hh _ (.head _)).g, B⟩, F.ext.gens _ _ I.run⟩
  obtain ⟨v, hv, hd⟩ := hμ "self" (.val (.raw (.ref x))) rfl
  cases (show Den [L2, dx] s'.heap v (.raw (.ref x)) from hd) with
  | raw => exact hv
/-- the reader's loop tells the rows of what is left -/
theorem inner_func {A : Around} {ls : List (List UInt8)} {k : Nat} (T : Top1 w mg mb hb) (hsz : hb.objs.size ≤ L2) (hdx : hb.get? dx = none) (hne : dx ≠ L2) (hx2 : x ≠ L2) (hxd : x ≠ dx) (hr : Room A 3) (hz : t.length ≤ 100000) (I : IC hb L2 x dx g2 t s) (hls : ls = linesB t) :
    Seg (model prog w) A (RI hb L2 x dx g2) (YI hb L2 x dx g2 ls) ls.length s (.func (bdOf (mtNo 1)) (envOf (fdOf w.params 43).qualname (scOf (mtNo 1)) L2 43 (fdOf w.params 43).code)) ((model prog w).den (.func (bdOf (mtNo 1)) (envOf (fdOf w.params 43).qualname (scOf (mtNo 1)) L2 43 (fdOf w.params 43).code))) [] s := by
  refine seg_func ?_
  refine seg_execs_cons (seg_While fun p => ?_)
  have hA : ∀ (t1 : PySem.Expr) (b1 : List Stmt) (env1 env2 : Env) (k1 : Result → Sem PySem.Fin) (b2 : List Stmt), A.over (.whileLoop t1 b1 [] env1) [.ret k1 none false [] (.func b2 env2) p []] = A.deeper env2 := fun t1 b1 env1 env2 k1 b2 => (over_push A).trans (over_func A b2 env2)
  have hll : ls.length ≤ ls.length := Nat.le_refl _
  have hdrop : ls.drop (ls.length - ls.length) = linesB t := by simp [hls]
  suffices H : ∀ (j : Nat) (t : List UInt8) (s : Shared), t.length ≤ 100000 → IC hb L2 x dx g2 t s → (linesB t).length = j → j ≤ ls.length → ls.drop (ls.length - j) = linesB t → Seg (model prog w) A (RI hb L2 x dx g2) (YI hb L2 x dx g2 ls) j s _ _ _ s by
    exact H ls.length t s hz I (by rw [hls]) hll hdrop
  intro j
  induction j with
  | zero =>
    intro t s hz I hj hjl hd
    have ht : t = [] := by
      cases t with
      | nil => rfl
      | cons y r => rw [linesB_first (by simp)] at hj; simp at hj
    subst ht
    obtain ⟨es, n, hdo, B⟩ := I.dx
    have F := I.frame (prog := prog) (w := w) (A := A.deeper (envOf (fdOf w.params 43).qualname (scOf (mtNo 1)) L2 43 (fdOf w.params 43).code)) hsz hdx hne hdo
    have hobj : ∀ (s' : Shared), FrD (cI prog w (A.deeper (envOf (fdOf w.params 43).qualname (scOf (mtNo 1)) L2 43 (fdOf w.params 43).code)) hb L2 x dx es n s) s' → s'.heap.get? x = some (instObj 75 dx) := fun s' F' => F'.kr _ _ (.inl ⟨⟨_, I.x⟩, hxd, hx2⟩) I.x
    have BB : Buf (cI prog w (A.deeper (envOf (fdOf w.params 43).qualname (scOf (mtNo 1)) L2 43 (fdOf w.params 43).code)) hb L2 x dx es n s) x dx es n [] := ⟨hobj, .head _, B.get, B.len⟩
    refine seg_whileLoop ?_
    refine wp_cast (hA _ _ _ _ _ _) ?_
    refine wpAny_mono ((JB_plain (c := cI prog w (A.deeper (envOf (fdOf w.params 43).qualname (scOf (mtNo 1)) L2 43 (fdOf w.params 43).code)) hb L2 x dx es n s) (b := false) (J.top (J_data (nm := "self") (b := []) T BB rfl)) (.bytes [] (by simp))).run s _ F) (fun r s1 ⟨e0, e1⟩ => ?_) fun _ _ y => y
    subst e0
    rw [if_neg (by decide)]
    refine seg_execs_nil (seg_done ?_)
    exact seg_end (.ok (.ret .none)) ⟨rfl, rfl, FrD.ki (es := es) (n := n) (F.go e1), I.of_frame (es := es) (n := n) hx2 hxd (F.go e1) B⟩
  | succ j ih =>
    intro t s hz I hj hjl hd
    have ht : t ≠ [] := by
      rintro rfl
      simp [linesB] at hj
    obtain ⟨es, n, hdo, B⟩ := I.dx
    have F := I.frame (prog := prog) (w := w) (A := A.deeper (envOf (fdOf w.params 43).qualname (scOf (mtNo 1)) L2 43 (fdOf w.params 43).code)) hsz hdx hne hdo
    have hobj : ∀ (s' : Shared), FrD (cI prog w (A.deeper (envOf (fdOf w.params 43).qualname (scOf (mtNo 1)) L2 43 (fdOf w.params 43).code)) hb L2 x dx es n s) s' → s'.heap.get? x = some (instObj 75 dx) := fun s' F' => F'.kr _ _ (.inl ⟨⟨_, I.x⟩, hxd, hx2⟩) I.x
    have BB : Buf (cI prog w (A.deeper (envOf (fdOf w.params 43).qualname (scOf (mtNo 1)) L2 43 (fdOf w.params 43).code)) hb L2 x dx es n s) x dx es n t := ⟨hobj, .head _, B.get, B.len⟩
    have hfl := linesB_first ht
    refine seg_whileLoop ?_
    refine wp_cast (hA _ _ _ _ _ _) ?_
    refine wpAny_mono ((JB_plain (c := cI prog w (A.deeper (envOf (fdOf w.params 43).qualname (scOf (mtNo 1)) L2 43 (fdOf w.params 43).code)) hb L2 x dx es n s) (b := true) (J.top (J_data (nm := "self") (b := t) T BB rfl)) (by
      have := Tr.bytes t (by omega)
      rw [show (!t.isEmpty) = true by cases t with | nil => exact absurd rfl ht | cons _ _ => rfl] at this
      exact this)).run s _ F) (fun r s1 ⟨e0, e1⟩ => ?_) fun _ _ y => y
    subst e0
    rw [if_pos rfl]
    refine seg_execs_cons (seg_Expr_Yield rfl rfl rfl ?_ rfl rfl)
    refine wp_cast (hA _ _ _ _ _ _) ?_
    have F1 := F.go e1
    refine eval_read1 (c := cI prog w (A.deeper (envOf (fdOf w.params 43).qualname (scOf (mtNo 1)) L2 43 (fdOf w.params 43).code)) hb L2 x dx es n s) (k := kOf t) (H := []) T (hr.deeper) F1 rfl BB rfl (fun q hq => nomatch hq) hz ?_ (fun tk s2 es' n' B' F2 => ?_)
    · refine J_orI (i := (match idxB 10 t with | some i => (i : Int) | none => -1) + 1) (J_addI (J_find (J_data T BB rfl) J_bytes) J_int) (fun h => ?_) (fun h => ?_)
      · unfold kOf
        cases hi : idxB 10 t with
        | none => rw [hi] at h; exact absurd rfl h
        | some i => rfl
      · have e : kOf t = (t.length : Int) := by
          unfold kOf
          cases hi : idxB 10 t with
          | none => rfl
          | some i => rw [hi] at h; simp only at h; omega
        rw [e]
        exact J_lenB (.builtin T (nm_none T (nmNo_len _)) bt_len) (J_data T BB rfl) (by omega)
    · rw [first_part] at B' ⊢
      have hkl : ls.length - 1 - j = ls.length - (j + 1) := by omega
      have hd2 : ls.drop (ls.length - j) = linesB (t.drop (firstL t).length) := by
        have e := congrArg (List.drop 1) hd
        rw [List.drop_drop, hfl] at e
        rw [show ls.length - j = ls.length - (j + 1) + 1 by omega]
        exact e
      have hflat : (ls.drop (ls.length - j)).flatten = t.drop (firstL t).length := by rw [hd2, linesB_flat]
      intro kap hk
      refine ⟨firstL t, tk, ?_, rfl, FrD.ki (es := es) (n := n) F2, ?_, fun s'' I'' => hk _ _ ?_⟩
      · rw [hkl]
        have := congrArg (fun l => l[0]?) hd
        simp only [List.getElem?_drop, Nat.add_zero] at this
        rw [this, hfl]; rfl
      · rw [hflat]
        exact I.of_frame hx2 hxd F2 B'
      · rw [hflat] at I''
        refine seg_again rfl ?_
        exact ih _ s'' (by simp; omega) I'' (by rw [hfl] at hj; simpa using hj) (by omega) hd2
end
end Mine
end
section
open PySem PySem.W PyProof.Rows PySem.Calls
set_option Elab.async false
set_option linter.unusedVariables false
set_option maxRecDepth 100000
set_option maxHeartbeats 1000000
namespace Mine
def Cx.hg (c : Cx) (H : List (Addr × Obj)) (G : List (Nat × GenState)) : Cx := { c with H := H, G := G }
section
variable {c : Cx} {s : Shared}
/-- a step that alters held objects and generators of the frame's own, and nothing else that stood -/
theorem FrD.vary {s' : Shared} {X : List Addr} {H' : List (Addr × Obj)} {G' : List (Nat × GenState)} (F : FrD c s) (hX : ∀ a ∈ X, ∃ o, (a, o) ∈ c.H)
    (hs : ∀ a o, a ∉ X → s.heap.get? a = some o → s'.heap.get? a = some o) (hl : ∀ a ∈ X, ∃ o, s'.heap.get? a = some o) (hos : s'.os = s.os)
    (hgen : ∀ (i : Nat) (v : GenState), c.s₀.gens[i]? = some v → s.gens[i]? = some v → s'.gens[i]? = some v) (hbare : AllBare s.gens → AllBare s'.gens)
    (hH : ∀ p ∈ H', (p ∈ c.H ∧ p.1 ∉ X) ∨ (p.1 ∈ X ∧ NL p.2 ∧ NT p.2 ∧ s'.heap.get? p.1 = some p.2)) (hG : ∀ p ∈ G', s'.gens[p.1]? = some p.2) : FrD (c.hg H' G') s' := by
  obtain ⟨m, hm, hμ⟩ := F.fr
  have hheld : ∀ a ∈ X, ∃ o, Held c s.heap (a, o) := fun a ha => let ⟨o, ho⟩ := hX a ha; ⟨o, F.hh _ ho⟩
  have hW : ∀ a ∈ X, a ∈ c.W := fun a ha => let ⟨_, h⟩ := hheld a ha; h.w
  have hFree : ∀ a ∈ X, Free c a := fun a ha => let ⟨_, h⟩ := hheld a ha; h.n
  have hLX : c.L ∉ X := fun h => let ⟨_, h⟩ := hheld _ h; h.l rfl
  have k : Kb c.W s.heap s'.heap := fun a o ha e => hs a o (fun q => ha (hW a q)) e
  have h0 : ∀ a o, c.s₀.heap.get? a = some o → a ∉ X := fun a o e h => (hFree a h).ne e rfl
  have live : ∀ a, (∃ o, s.heap.get? a = some o) → ∃ o, s'.heap.get? a = some o := fun a ha => by
    by_cases h : a ∈ X
    · exact hl a h
    · obtain ⟨o, ho⟩ := ha; exact ⟨o, hs a o h ho⟩
  refine ⟨⟨m, ⟨let ⟨o, es, ep, h1, r⟩ := hm.ns; ⟨o, es, ep, hs _ _ hLX h1, r⟩, fun a o h => hs a o (h0 a o h) (hm.keep a o h), hm.above⟩, fun y en hy => ?_⟩, F.inj, F.new, ⟨live _ F.tl.1, fun b hb => (F.tl.2 b hb).imp id (live b)⟩, F.lw, fun b hb => live b (F.live b hb),
    ⟨fun a o h => hs a o (h0 a o h) (F.ext.keep a o h), hos.trans F.ext.os, fun i x h => hgen i x h (F.ext.gens i x h), fun h => hbare (F.ext.bare h)⟩, fun p hp => ?_, fun q hq => (F.vv q hq).kb k, hG, fun a o hp e => ?_⟩
  · obtain ⟨u, hu, he⟩ := hμ y en hy
    refine ⟨u, hu, ?_⟩
    cases en with
    | val d => exact Den.kb k he
    | own a es =>
      obtain ⟨r1, r2, us, j, r3, r4⟩ := he
      have haX : a ∉ X := fun q => by
        obtain ⟨o, ho⟩ := hheld a q
        have := ho.g
        rw [r3] at this
        exact ho.c _ _ (Option.some.inj this).symm
      exact ⟨r1, r2, us, j, hs a _ haX r3, r4.kb k⟩
  · rcases hH p hp with ⟨h1, h2⟩ | ⟨h1, h2, h3, h4⟩
    · have := F.hh p h1
      exact ⟨this.w, this.n, this.l, this.c, this.t, hs _ _ h2 this.g⟩
    · exact ⟨hW _ h1, hFree _ h1, fun q => hLX (q ▸ h1), h2, h3, h4⟩
  · have e2 := F.kr a o hp e
    by_cases q : a ∈ X
    · obtain ⟨o', ho⟩ := hheld a q
      have e3 := ho.g
      have : o' = o := by
        have h5 : s.heap.get? a = some o' := e3
        rw [e2] at h5
        exact (Option.some.inj h5).symm
      subst this
      exact absurd hp (ho.n.prot ho.t)
    · exact hs a o q e2
end
end Mine
end
section
open PySem PySem.W PyProof.Rows PySem.Calls
set_option Elab.async false
set_option linter.unusedVariables false
set_option maxRecDepth 100000
set_option maxHeartbeats 1000000
namespace Mine
/-- a namespace's object that bears self -/
def NsSelf (x : Addr) (o : Obj) : Prop := ∃ es ep, o.data = .dict es ep ∧ StrKeys es ∧ nsFind es "self" = some (.ref x)
theorem NsSelf.ns {h : Heap} {x a : Addr} {o : Obj} (y : NsSelf x o) (e : h.get? a = some o) : ∃ m, h.Ns a m ∧ m "self" = some (.ref x) :=
  let ⟨es, ep, h1, h2, h3⟩ := y; ⟨_, ⟨o, es, ep, e, h1, h2, fun _ => rfl⟩, h3⟩
theorem NsSelf.of {h : Heap} {x a : Addr} {m : Str → Option Value} (y : h.Ns a m) (e : m "self" = some (.ref x)) : ∃ o, h.get? a = some o ∧ NsSelf x o :=
  let ⟨o, es, ep, ho, hd, hk, hn⟩ := y; ⟨o, ho, es, ep, hd, hk, (hn _).trans e⟩
theorem NsSelf.nl {x : Addr} {o : Obj} (y : NsSelf x o) : NL o := fun i n e => by obtain ⟨es, ep, h1, _⟩ := y; rw [e] at h1; cases h1
theorem NsSelf.nt {x : Addr} {o : Obj} (y : NsSelf x o) : NT o := fun e => by obtain ⟨es, ep, h1, _⟩ := y; obtain ⟨_, i, n, e⟩ := e; rw [e] at h1; cases h1
/-- a reader that waits, the rows of t left -/
structure Rdr (prog : Program) (w : World) (A : Around) (hb : Heap) (L2 x dx g2 : Nat) (ls : List (List UInt8)) (t : List UInt8) (gs : GenState) : Prop where
  bare : gs.bare = true
  le : (linesB t).length ≤ ls.length
  eq : ls.drop (ls.length - (linesB t).length) = linesB t
  go : ∀ s'', IC hb L2 x dx g2 t s'' → gs.Goes (model prog w) A (RI hb L2 x dx g2) (YI hb L2 x dx g2 ls) (linesB t).length (.send .none) s''
/-- the addresses of a reader -/
structure Rad where
  ga : Addr
  L2 : Addr
  dx : Addr
  x : Addr
  g2 : Nat
/-- what a frame holds of a reader -/
def Rad.H (r : Rad) (og oL : Obj) (es : List DictEntry) (n : Nat) (H0 : List (Addr × Obj)) : List (Addr × Obj) := (r.ga, og) :: (r.L2, oL) :: (r.dx, dictOf es n) :: (r.x, instObj 75 r.dx) :: H0
structure Rad.Ok (r : Rad) (H0 : List (Addr × Obj)) : Prop where
  d1 : r.ga ≠ r.L2
  d2 : r.ga ≠ r.dx
  d3 : r.x ≠ r.L2
  d4 : r.x ≠ r.dx
  d5 : r.L2 ≠ r.dx
  d6 : ∀ p ∈ H0, p.1 ≠ r.L2 ∧ p.1 ≠ r.dx
/-- the frame's reader -/
structure RdF (c : Cx) (r : Rad) (ls : List (List UInt8)) (t : List UInt8) (og oL : Obj) (es : List DictEntry) (n : Nat) (gs : GenState) (H0 : List (Addr × Obj)) (G0 : List (Nat × GenState)) : Prop where
  H : c.H = r.H og oL es n H0
  G : c.G = (r.g2, gs) :: G0
  gen : ∀ h : Heap, h.get? r.ga = some og → h.IsGen r.ga r.g2
  ns : NsSelf r.x oL
  buf : IsBuf es t
  rdr : Rdr c.prog c.w c.A.in1 c.s₀.heap r.L2 r.x r.dx r.g2 ls t gs
section
variable {c : Cx} {s : Shared} {r : Rad} {ls : List (List UInt8)} {t : List UInt8} {og oL : Obj} {es : List DictEntry} {n : Nat} {gs : GenState} {H0 : List (Addr × Obj)} {G0 : List (Nat × GenState)}
theorem RdF.mem0 (R : RdF c r ls t og oL es n gs H0 G0) : (r.ga, og) ∈ c.H := by rw [R.H]; exact .head _
theorem RdF.mem1 (R : RdF c r ls t og oL es n gs H0 G0) : (r.L2, oL) ∈ c.H := by rw [R.H]; exact .tail _ (.head _)
theorem RdF.mem2 (R : RdF c r ls t og oL es n gs H0 G0) : (r.dx, dictOf es n) ∈ c.H := by rw [R.H]; exact .tail _ (.tail _ (.head _))
theorem RdF.mem3 (R : RdF c r ls t og oL es n gs H0 G0) : (r.x, instObj 75 r.dx) ∈ c.H := by rw [R.H]; exact .tail _ (.tail _ (.tail _ (.head _)))
theorem RdF.ic (R : RdF c r ls t og oL es n gs H0 G0) (F : FrD c s) : IC c.s₀.heap r.L2 r.x r.dx r.g2 t (s.setGen r.g2 .running) :=
  ⟨F.ext.keep, R.ns.ns (F.hh _ R.mem1).g, (F.hh _ R.mem3).g, ⟨es, n, (F.hh _ R.mem2).g, R.buf⟩, setGen_self (F.gg (r.g2, gs) (by rw [R.G]; exact .head _))⟩
/-- the reader has run: the frame as it stands then -/
theorem RdF.after (R : RdF c r ls t og oL es n gs H0 G0) (O : r.Ok H0) (F : FrD c s) (hg2 : c.s₀.gens.size ≤ r.g2) (hG0 : ∀ p ∈ G0, p.1 ≠ r.g2) {s₁ : Shared} {t' : List UInt8} {gs' : GenState} (k : KI r.L2 r.dx r.g2 (s.setGen r.g2 .running) s₁) (I : IC c.s₀.heap r.L2 r.x r.dx r.g2 t' s₁) (hb : gs'.bare = true) :
    ∃ oL' es' n', NsSelf r.x oL' ∧ IsBuf es' t' ∧ FrD (c.hg (r.H og oL' es' n' H0) ((r.g2, gs') :: G0)) (s₁.setGen r.g2 gs') := by
  obtain ⟨m, hns, hm⟩ := I.ns
  obtain ⟨oL', hoL, hself⟩ := NsSelf.of hns hm
  obtain ⟨es', n', hd, B'⟩ := I.dx
  refine ⟨oL', es', n', hself, B', ?_⟩
  have hX : ∀ a, a ∉ [r.L2, r.dx] → a ≠ r.L2 ∧ a ≠ r.dx := fun a ha => ⟨fun q => ha (q ▸ .head _), fun q => ha (q ▸ .tail _ (.head _))⟩
  refine F.vary (X := [r.L2, r.dx]) (fun a ha => ?_) (fun a o ha e => k.obj a o (hX a ha).1 (hX a ha).2 e) (fun a ha => ?_) k.os (fun i v h0 h1 => ?_) (fun h => allBare_set (k.bare (allBare_set h rfl)) hb) (fun p hp => ?_) (fun p hp => ?_)
  · rcases List.mem_cons.mp ha with rfl | ha
    · exact ⟨_, R.mem1⟩
    · rcases List.mem_cons.mp ha with rfl | ha
      · exact ⟨_, R.mem2⟩
      · exact absurd ha List.not_mem_nil
  · rcases List.mem_cons.mp ha with rfl | ha
    · exact ⟨_, hoL⟩
    · rcases List.mem_cons.mp ha with rfl | ha
      · exact ⟨_, hd⟩
      · exact absurd ha List.not_mem_nil
  · have hi : i ≠ r.g2 := fun q => by
      have := (Array.getElem?_eq_some_iff.mp h0).1
      subst q
      exact absurd this (by omega)
    exact (setGen_ne hi).trans (k.gens i v ((setGen_ne hi).trans h1))
  · have notin : ∀ a, a ≠ r.L2 → a ≠ r.dx → a ∉ [r.L2, r.dx] := fun a h1 h2 hm => by
      rcases List.mem_cons.mp hm with h | hm
      · exact h1 h
      · rcases List.mem_cons.mp hm with h | hm
        · exact h2 h
        · exact absurd hm List.not_mem_nil
    unfold Rad.H at hp
    rcases List.mem_cons.mp hp with rfl | hp
    · exact .inl ⟨R.mem0, notin _ O.d1 O.d2⟩
    · rcases List.mem_cons.mp hp with rfl | hp
      · exact .inr ⟨.head _, hself.nl, hself.nt, hoL⟩
      · rcases List.mem_cons.mp hp with rfl | hp
        · exact .inr ⟨.tail _ (.head _), .of (by show Value.type "dict" ≠ Value.type "list"; decide), .of (by show Value.type "dict" ≠ Value.type "tuple"; decide), hd⟩
        · rcases List.mem_cons.mp hp with rfl | hp
          · exact .inl ⟨R.mem3, notin _ O.d3 O.d4⟩
          · exact .inl ⟨by rw [R.H]; exact .tail _ (.tail _ (.tail _ (.tail _ hp))), notin _ (O.d6 p hp).1 (O.d6 p hp).2⟩
  · rcases List.mem_cons.mp hp with rfl | hp
    · exact setGen_self I.run
    · have hi := hG0 p hp
      exact (setGen_ne hi).trans (k.gens p.1 p.2 ((setGen_ne hi).trans (F.gg p (by rw [R.G]; exact .tail _ hp))))
/-- one more row of the reader's, or its end -/
theorem next_reader {mg mb : Str → Option Value} {E : Value → Shared → Prop} {Q : Option Value → Shared → Prop} (R : RdF c r ls t og oL es n gs H0 G0) (O : r.Ok H0) (T : Top1 c.w mg mb c.s₀.heap) (F : FrD c s) (hr : Room c.A 1) (hg2 : c.s₀.gens.size ≤ r.g2) (hG0 : ∀ p ∈ G0, p.1 ≠ r.g2)
    (hY : t ≠ [] → ∀ tk s' oL' es' n' gs', RdF (c.hg (r.H og oL' es' n' H0) ((r.g2, gs') :: G0)) r ls (t.drop (firstL t).length) og oL' es' n' gs' H0 G0 → FrD (c.hg (r.H og oL' es' n' H0) ((r.g2, gs') :: G0)) s' → Q (some (.bytes (firstL t).toArray tk)) s')
    (hE : t = [] → ∀ s' oL' es' n', IsBuf es' [] → FrD (c.hg (r.H og oL' es' n' H0) ((r.g2, .finished) :: G0)) s' → Q none s') :
    wpAny c.M c.A (pyNext (.ref r.ga)) Q E s := by
  have hobj := R.gen _ (F.hh _ R.mem0).g
  have hl := (F.top T).lim
  have hgs := F.gg (r.g2, gs) (by rw [R.G]; exact .head _)
  have hgo' := R.rdr.go _ (R.ic F)
  unfold pyNext
  refine wpAny_bind (wpAny_attempt (wpAny_callSpecial?_slot (name := Str.ofString "__next__") hobj.typeIs slot_gen_next
    (wpAny_call_entry slot_gen_next hobj.typeIs entry_gen_next ?_ (args_gen_next _))))
  show wpAny _ c.A.in1 (Builtin.Generator.genWake (.ref r.ga) (.send .none)) _ _ s
  unfold Builtin.Generator.genWake
  refine wpAny_bind (wpAny_holding (wpAny_genNumber hobj (wpAny_bind (wpAny_genState hgs ?_))))
  cases gs with
  | running => exact hgo'.elim
  | finished => exact hgo'.elim
  | _ =>
    refine wpAny_bind (wpAny_roomToWake hl hr.lim ?_)
    show wpAny _ c.A.in1 (.resume r.g2 (.send .none) [] _) _ _ s
    refine wpAny_resumeQ hgs hgo' (fun xx s₁ hx => ?_) (fun v s₁ gs' hb' hv => ?_)
    · obtain ⟨hm, rfl, k, I⟩ := hx
      have ht : t = [] := by
        cases t with
        | nil => rfl
        | cons y r => rw [linesB_first (by simp)] at hm; simp at hm
      obtain ⟨oL', es', n', hself, B', F'⟩ := R.after O F hg2 hG0 k I (gs' := .finished) rfl
      show wpAny _ c.A.in1 (newExc (.type "StopIteration") [] >>= _) _ _ _
      refine wpAny_bind ?_
      simp only [newExc, newTuple]
      refine wpAny_bind (wpAny_newObj_type ?_ (by size_fits))
      refine wpAny_bind (m := firstArgMember _ _) (wpAny_of_eq (a := Value.none) (by first | rfl | (simp only [firstArgMember]; rfl)) ?_)
      refine wpAny_newObj_type ?_ (by size_fits)
      simp only [raiseNew]
      refine wpAny_bind (wpAny_bind (wpAny_handled ?_))
      rw [show c.A.in1.handled = none from hr.hh]
      refine wpAny_throw ?_
      refine wpAny_bind (wpAny_isInstance (T := "StopIteration") (b := true) ⟨_, Heap.get?_push_size _ rfl, rfl⟩ isSubtype_stop ?_)
      exact wpAny_pure (hE ht _ oL' es' n' B' ((F'.go (.push _)).go (.push _)))
    · have ht : t ≠ [] := fun q => by
        subst q
        obtain ⟨l, tk, _, _, _, I, hkap⟩ := hv
        have : (linesB ([] : List UInt8)).length = 0 := rfl
        rw [this] at hkap
        exact (hkap s₁ (by rw [this] at I; exact I)).elim
      obtain ⟨l, tk, hl1, rfl, k, I, hkap⟩ := hv
      have hf := linesB_first ht
      have hlen : (linesB t).length = (linesB (t.drop (firstL t).length)).length + 1 := by rw [hf]; rfl
      have hle := R.rdr.le
      have hd : ls.drop (ls.length - (linesB (t.drop (firstL t).length)).length) = linesB (t.drop (firstL t).length) := by
        have e := congrArg (List.drop 1) R.rdr.eq
        rw [List.drop_drop] at e
        rw [show ls.length - (linesB (t.drop (firstL t).length)).length = ls.length - (linesB t).length + 1 by omega, e, hf]
        rfl
      have hdr : (ls.drop (ls.length - ((linesB t).length - 1))).flatten = t.drop (firstL t).length := by
        rw [show (linesB t).length - 1 = (linesB (t.drop (firstL t).length)).length by omega, hd, linesB_flat]
      rw [hdr] at I
      have el : l = firstL t := by
        have e := congrArg (fun l => l[0]?) R.rdr.eq
        simp only [List.getElem?_drop, Nat.add_zero] at e
        rw [show ls.length - 1 - ((linesB t).length - 1) = ls.length - (linesB t).length by omega, e, hf] at hl1
        exact (Option.some.inj hl1).symm
      subst el
      obtain ⟨oL', es', n', hself, B', F'⟩ := R.after O F hg2 hG0 k I hb'
      refine wpAny_pure ⟨_, rfl, wpAny_pure (hY ht tk _ oL' es' n' gs' ⟨rfl, rfl, R.gen, hself, B', ⟨hb', by omega, hd, fun s'' I'' => ?_⟩⟩ F')⟩
      have h2 := hkap s'' (by rw [hdr]; exact I'')
      rw [hlen] at h2
      exact h2
end
end Mine
end
section
open PySem PySem.W PyProof.Rows PySem.Calls
set_option Elab.async false
set_option linter.unusedVariables false
set_option maxRecDepth 100000
set_option maxHeartbeats 1000000
namespace Mine
def Cx.whg (c : Cx) (W : List Addr) (H : List (Addr × Obj)) (G : List (Nat × GenState)) : Cx := { c with W := W, H := H, G := G }
section
variable {c : Cx} {s : Shared}
theorem FrD.holdN {s' : Shared} {b : Addr} {o : Obj} (F : FrD c s) (e : Ext s s') (hb : s.heap.get? b = none) (hl : s'.heap.get? b = some o) (ho : NL o) (ht : NT o) (hL : b ≠ c.L) (hn : c.s₀.heap.get? b = none ∧ ¬ c.lo b) : FrD (c.wh (b :: c.W) ((b, o) :: c.H) c.μ) s' := by
  have F1 := F.barNew e hb ⟨o, hl⟩
  refine ⟨F1.fr, F1.inj, F1.new, F1.tl, F1.lw, F1.live, F1.ext, fun p hp => ?_, F1.vv, F1.gg, F1.kr⟩
  rcases List.mem_cons.mp hp with rfl | hp
  · exact ⟨.head _, free_of hn, hL, ho, ht, hl⟩
  · exact let ⟨a1, b1, d, e1, t, f⟩ := F1.hh p hp; ⟨a1, b1, d, e1, t, f⟩
theorem FrD.holdG {g : Nat} {gs : GenState} (F : FrD c s) (h : s.gens[g]? = some gs) : FrD (c.whg c.W c.H ((g, gs) :: c.G)) s :=
  ⟨F.fr, F.inj, F.new, F.tl, F.lw, F.live, F.ext, fun p hp => let ⟨a1, b1, d, e1, t, f⟩ := F.hh p hp; ⟨a1, b1, d, e1, t, f⟩, F.vv, fun p hp => by
    rcases List.mem_cons.mp hp with rfl | hp
    · exact h
    · exact F.gg p hp, F.kr⟩
/-- iter(f): a reader is made -/
theorem iter_reader {mg mb : Str → Option Value} {E : Value → Shared → Prop} {Q : Value → Shared → Prop} {x dx : Addr} {t : List UInt8} {es : List DictEntry} {n : Nat} {H0 : List (Addr × Obj)} (T : Top1 c.w mg mb c.s₀.heap) (hr : Room c.A 5) (F : FrD c s)
    (hH : c.H = (dx, dictOf es n) :: (x, instObj 75 dx) :: H0) (B : IsBuf es t) (hz : t.length ≤ 100000) (hxd : x ≠ dx) (hH0 : ∀ p ∈ H0, p.1 ≠ dx)
    (h : ∀ (r : Rad) og oL gs s', r.dx = dx → r.x = x → r.Ok H0 → c.s₀.gens.size ≤ r.g2 → (∀ p ∈ c.G, p.1 ≠ r.g2) → r.ga ∉ c.W → r.L2 ∉ c.W → RdF (c.whg (r.ga :: r.L2 :: c.W) (r.H og oL es n H0) ((r.g2, gs) :: c.G)) r (linesB t) t og oL es n gs H0 c.G →
      FrD (c.whg (r.ga :: r.L2 :: c.W) (r.H og oL es n H0) ((r.g2, gs) :: c.G)) s' → Q (.ref r.ga) s') :
    wpAny c.M c.A (pyIter (.ref x)) Q E s := by
  obtain ⟨m, hm, hμ⟩ := F.fr
  have hdx := (F.hh (dx, dictOf es n) (by rw [hH]; exact .head _))
  have hx := (F.hh (x, instObj 75 dx) (by rw [hH]; exact .tail _ (.head _)))
  have I : InstAt s.heap x (instObj 75 dx) 75 (some (dictOf es n)) := ⟨hx.g, rfl, rfl, hdx.g⟩
  refine owit_iter hm T.k I (io_iter _) (io_fn43 _) (wpAny_call ?_)
  obtain ⟨hloc, hco, hgen, hk, hcell⟩ := fnFine_iff fineT
  have T1 := F.top T
  refine codeAny_call_generator (fd := mtFn c.w.params 43 (mtNo 1)) (body := bdOf (mtNo 1)) hr.lim (T1.k _ _ (mt43 _)) rfl hco hgen rfl (codeRec_of T1.k (mcd43 _)) ?_
  rw [bindT]
  refine wpAny_pure (wpAny_newFunctionEnv hcell (fun y hy => hloc y.1 (by
    rcases List.mem_cons.mp hy with rfl | hy
    · exact .head _
    · exact absurd hy List.not_mem_nil)) (fun h₁ hns hsb => ⟨T1.lim.fresh _ hsb, ?_⟩) hk)
  have hLs := get_size s.heap
  have hLn := F.ge
  have hLt : c.L < s.heap.objs.size := hm.ns.lt
  have ltd : dx < s.heap.objs.size := Heap.lt_size hdx.g
  have ltx : x < s.heap.objs.size := Heap.lt_size hx.g
  have ltH : ∀ p ∈ H0, p.1 < s.heap.objs.size := fun p hp => Heap.lt_size (F.hh p (by rw [hH]; exact .tail _ (.tail _ hp))).g
  have hsz : h₁.objs.size = s.heap.objs.size + 1 := by rw [hsb.1, Heap.size_push]
  have e1 : Ext s ({ s with heap := h₁, toks := s.toks + 1 } : Shared) := .heap _ fun b o e => hsb.extBut b o (Nat.ne_of_lt (Heap.lt_size e)) (Heap.get?_push_of_some _ e)
  generalize hL2 : s.heap.objs.size = L2 at *
  obtain ⟨oL, hoL, hself⟩ := NsSelf.of (x := x) hns rfl
  have F1 := F.holdN (s' := { s with heap := h₁, toks := s.toks + 1 }) e1 hLs hoL hself.nl hself.nt (Nat.ne_of_gt hLt) hLn
  have hLs1 := get_size h₁
  have hge1 := F1.ge
  rw [hsz] at hLs1
  rw [show ({ s with heap := h₁, toks := s.toks + 1 } : Shared).heap.objs.size = L2 + 1 from hsz] at hge1
  obtain ⟨og, hog⟩ : ∃ og : Obj, og = ({ cls := .type "generator", data := .fields #[.int s.gens.size 0, .str (mtFn c.w.params 43 (mtNo 1)).name (s.toks + 1), .str (mtFn c.w.params 43 (mtNo 1)).qualname (s.toks + 1 + 1)] } : Obj) := ⟨_, rfl⟩
  have hogc : og.cls = .type "generator" := by rw [hog]
  obtain ⟨gs, hgs⟩ : ∃ gs : GenState, gs = .fresh (.func (bdOf (mtNo 1)) (envOf (fdOf c.w.params 43).qualname (scOf (mtNo 1)) L2 43 (fdOf c.w.params 43).code)) := ⟨_, rfl⟩
  have hgb : gs.bare = true := by rw [hgs]; rfl
  have e2 : Ext ({ s with heap := h₁, toks := s.toks + 1 } : Shared) { s with gens := s.gens.push gs, toks := s.toks + 1 + 1 + 1, heap := h₁.push og } :=
    ⟨fun b o e => Heap.get?_push_of_some _ e, rfl, fun i v hv => by
      rw [Array.getElem?_push]
      have := (Array.getElem?_eq_some_iff.mp hv).1
      rw [if_neg (Nat.ne_of_lt this)]; exact hv, fun h => h.push hgb⟩
  have hoga : (h₁.push og).get? (L2 + 1) = some og := by rw [← hsz]; exact Heap.get?_push_size _ (by rw [hog]; rfl)
  have F2 := F1.holdN e2 hLs1 hoga (.of (by rw [hogc]; decide)) (.of (by rw [hogc]; decide)) (Nat.ne_of_gt (Nat.lt_succ_of_lt hLt)) hge1
  have hgg : (s.gens.push gs)[s.gens.size]? = some gs := by simp
  have F3 := F2.holdG (g := s.gens.size) hgg
  have F4 : FrD (c.whg ((L2 + 1) :: L2 :: c.W) (Rad.H ⟨L2 + 1, L2, dx, x, s.gens.size⟩ og oL es n H0) ((s.gens.size, gs) :: c.G)) { s with gens := s.gens.push gs, toks := s.toks + 1 + 1 + 1, heap := h₁.push og } := by
    have e : Rad.H ⟨L2 + 1, L2, dx, x, s.gens.size⟩ og oL es n H0 = (L2 + 1, og) :: (L2, oL) :: c.H := by rw [hH]; rfl
    rw [e]
    exact F3
  have hg2 : c.s₀.gens.size ≤ s.gens.size := by
    by_cases q : c.s₀.gens.size = 0
    · omega
    · have h0 := Array.getElem?_eq_getElem (xs := c.s₀.gens) (i := c.s₀.gens.size - 1) (by omega)
      have := (Array.getElem?_eq_some_iff.mp (F.ext.gens _ _ h0)).1
      omega
  have hO : Rad.Ok ⟨L2 + 1, L2, dx, x, s.gens.size⟩ H0 := ⟨Nat.ne_of_gt (Nat.lt_succ_self _), Nat.ne_of_gt (Nat.lt_succ_of_lt ltd), Nat.ne_of_lt ltx, hxd, Nat.ne_of_gt ltd, fun p hp => ⟨Nat.ne_of_lt (ltH p hp), hH0 p hp⟩⟩
  have hW1 : ∀ a ∈ c.W, a < L2 := fun a ha => let ⟨o, ho⟩ := F.live a ha; hL2 ▸ Heap.lt_size ho
  have hT : ({ s with gens := s.gens.push gs, toks := s.toks + 1 + 1 + 1, heap := h₁.push og } : Shared).heap.IsGen (L2 + 1) s.gens.size := ⟨og, _, _, hoga, hogc, by rw [hog], by rw [hog]⟩
  have fin := h ⟨L2 + 1, L2, dx, x, s.gens.size⟩ og oL gs { s with gens := s.gens.push gs, toks := s.toks + 1 + 1 + 1, heap := h₁.push og } rfl rfl hO hg2
    (fun p hp => Nat.ne_of_lt (Array.getElem?_eq_some_iff.mp (F.gg p hp)).1) (fun hm => Nat.lt_irrefl _ (Nat.lt_trans (Nat.lt_succ_self L2) (hW1 _ hm))) (fun hm => Nat.lt_irrefl _ (hW1 _ hm))
    ⟨rfl, rfl, fun hh e => ⟨og, _, _, e, hogc, by rw [hog], by rw [hog]⟩, hself, B, ⟨hgb, Nat.le_refl _, by rw [Nat.sub_self]; rfl, fun s'' I'' => ?_⟩⟩ F4
  · have key : OwitIt c.M c.A Q E (.ref (L2 + 1)) { s with gens := s.gens.push gs, toks := s.toks + 1 + 1 + 1, heap := h₁.push og } := wpAny_specialOf hT.typeIs slot_gen_next.lookup fin
    show OwitIt c.M c.A Q E (.ref h₁.objs.size) _
    rw [hsz]
    subst hgs hog
    exact key
  · rw [hgs]
    exact ⟨rfl, inner_func (k := 0) (x := x) (dx := dx) (L2 := L2) (g2 := s.gens.size) T (Nat.le_trans hm.above (Nat.le_of_lt hLt)) hdx.n.1 (Nat.ne_of_lt ltd) (Nat.ne_of_lt ltx) hxd ((hr.in1).le (by omega)) hz I'' rfl⟩
end
end Mine
end
section
open PySem PySem.W PyProof.Rows PySem.Calls
set_option Elab.async false
set_option linter.unusedVariables false
set_option maxRecDepth 100000
set_option maxHeartbeats 1000000
namespace Mine
theorem cdHd (P : Params) : codeHdIn (K0 P) 92 88 = true := by kernel_rfl
theorem cd92 (P : Params) : (fdOf P 93).code = .ref 92 := by kernel_rfl
/-- the shape of a code's record -/
def CodeShape (qual : Str) (o : Obj) : Prop := ∃ vs t, o.data = .fields vs ∧ vs[1]? = some (.str qual t)
theorem CodeShape.nl {q : Str} {o : Obj} (x : CodeShape q o) : NL o := fun i n e => by obtain ⟨vs, t, h, _⟩ := x; rw [e] at h; cases h
theorem CodeShape.nt {q : Str} {o : Obj} (x : CodeShape q o) : NT o := fun e => by obtain ⟨vs, t, h, _⟩ := x; obtain ⟨_, i, n, e⟩ := e; rw [e] at h; cases h
theorem CodeShape.rec {q : Str} {o : Obj} {h : Heap} {a : Addr} (x : CodeShape q o) (e : h.get? a = some o) : h.CodeRec (.ref a) q :=
  let ⟨vs, t, h1, h2⟩ := x; ⟨a, o, vs, t, rfl, e, h1, h2⟩
/-- the grown table -/
abbrev grown (pos : Pos) (c' : Addr) : Obj := tabObj #[rawInt pos.line, rawInt pos.col, .ref c']
section
variable {c : Cx} {Q : Flow → Shared → Prop} {E : Value → Shared → Prop} {rest : List Stmt} {mg mb : Str → Option Value}
/-- a def within a def, its code met before -/
theorem Blk.defHit {name : Str} {params : Arguments} {body : List Stmt} {scope : Scope} {pos : Pos} {c' : Addr} (T : Top1 c.w mg mb c.s₀.heap) (hcd : c.cd = .ref 92) (htab : c.s₀.heap.get? 88 = some (grown pos c'))
    (r : ∀ f ctv doc pm, f ∉ c.W → Blk (c.wh (f :: c.W) ((f, fnMade name (qualnameIn c.env name name) params body scope [] doc pm c' ctv) :: c.H) (upd c.μ name (some (.val (.raw (.ref f)))))) rest Q E)
    (hcl : closureFor scope c.env = pure [] := by rfl) (hd0 : params.defaults = [] := by rfl) (hk0 : params.kw_defaults = [] := by rfl) (ha : annTrees params none c.env = [] := by rfl)
    (hk : c.sc.kind = .function := by rfl) (hl : c.env.kindOf name = some .local := by rfl) : Blk c (.FunctionDef name params body [] none [] scope none name pos :: rest) Q E :=
  Blk.stmt fun s F => by
    have T1 := F.top T
    refine nestDef_K hd0 hk0 ha (makeFunction_hit (mg := mg) (c := 92) (P := 88) (cv := .ref c') hcl rfl T1.g hcd (codeHd_of_K T1.k (cdHd _)) (F.ext.keep _ _ htab) (by simp [TriplesOk, rawInt]) (by simp [codeAmong, rawInt]) T1.bm fun ctv doc h' tk hk' hsz => ?_)
    have e1 : Ext s { s with heap := h', toks := tk } := .heap _ hk'
    have F1 := F.go e1
    have hLf : h'.objs.size ≠ c.L := by
      obtain ⟨m, hm, _⟩ := F1.fr
      exact (Nat.ne_of_lt hm.ns.lt).symm
    have hfW : h'.objs.size ∉ c.W := F1.live.fresh (get_size _)
    have F2 := F1.holdN (s' := { s with heap := h'.push (fnMade name (qualnameIn c.env name name) params body scope [] doc ((mg "__name__").getD .none) c' ctv), toks := tk }) (.push _) (get_size _) (Heap.get?_push_size _ rfl) (.of (by show Value.type "function" ≠ Value.type "list"; decide)) (.of (by show Value.type "function" ≠ Value.type "tuple"; decide)) hLf F1.ge
    obtain ⟨m, hm, hμ⟩ := F2.fr
    exact wpAny_storeName_local (env := c.env) hl hm.ns (fun h₂ hn' hs' => (r _ ctv doc ((mg "__name__").getD .none) hfW).run _ (F2.store hm hμ hn' hs' (.raw _))) (noCls hk)
/-- a def within a def, its code made now -/
theorem Blk.defMiss {name : Str} {params : Arguments} {body : List Stmt} {scope : Scope} {pos : Pos} {H : List (Addr × Obj)} (T : Top1 c.w mg mb c.s₀.heap) (hcd : c.cd = .ref 92) (hH : c.H = (88, tabObj #[]) :: H) (hnot : ∀ p ∈ H, p.1 ≠ 88)
    (r : ∀ f c' oc ctv doc pm, f ∉ c.W → c' ∉ c.W → CodeShape (qualnameIn c.env name name) oc → Blk (c.wh (f :: c' :: c.W) ((f, fnMade name (qualnameIn c.env name name) params body scope [] doc pm c' ctv) :: (c', oc) :: (88, grown pos c') :: H) (upd c.μ name (some (.val (.raw (.ref f)))))) rest Q E)
    (hcl : closureFor scope c.env = pure [] := by rfl) (hd0 : params.defaults = [] := by rfl) (hk0 : params.kw_defaults = [] := by rfl) (ha : annTrees params none c.env = [] := by rfl)
    (hk : c.sc.kind = .function := by rfl) (hl : c.env.kindOf name = some .local := by rfl) : Blk c (.FunctionDef name params body [] none [] scope none name pos :: rest) Q E :=
  Blk.stmt fun s F => by
    have T1 := F.top T
    have h88 := F.hh (88, tabObj #[]) (by rw [hH]; exact .head _)
    refine nestDef_K hd0 hk0 ha (makeFunction_K (mg := mg) (c := 92) (P := 88) hcl rfl T1.g hcd (codeHd_of_K T1.k (cdHd _)) h88.g trivial rfl (by decide) T1.bm fun c' ctv doc h' tk hx hge hlt hrec htb => ?_)
    have htb' : h'.get? 88 = some (grown pos c') := by rw [htb]; rfl
    obtain ⟨c₂, oc, vs, t, e2, hoc, hd, hv⟩ := hrec
    cases e2
    have hsh : CodeShape (qualnameIn c.env name name) oc := ⟨vs, t, hd, hv⟩
    -- the table first
    have hup : (s.heap.update 88 (fun _ => grown pos c')).get? 88 = some (grown pos c') := Heap.get?_update_self (fun _ => grown pos c') h88.g rfl
    have hot : ∀ b o, b ≠ 88 → s.heap.get? b = some o → (s.heap.update 88 (fun _ => grown pos c')).get? b = some o := fun b o hb e => (Heap.get?_update_other _ _ (Ne.symm hb)).trans e
    have F1 : FrD (c.hg ((88, grown pos c') :: H) c.G) { s with heap := s.heap.update 88 (fun _ => grown pos c') } := by
      refine F.vary (X := [88]) (fun a ha => ?_) (fun a o ha e => hot a o (fun q => ha (q ▸ .head _)) e) (fun a ha => ?_) rfl (fun _ _ _ e => e) (fun h => h) (fun p hp => ?_) (fun p hp => F.gg p hp)
      · rcases List.mem_cons.mp ha with rfl | ha
        · exact ⟨_, by rw [hH]; exact .head _⟩
        · exact absurd ha List.not_mem_nil
      · rcases List.mem_cons.mp ha with rfl | ha
        · exact ⟨_, hup⟩
        · exact absurd ha List.not_mem_nil
      · rcases List.mem_cons.mp hp with rfl | hp
        · exact .inr ⟨.head _, (fun i n e => by cases e), (fun e => by cases e.1), hup⟩
        · exact .inl ⟨by rw [hH]; exact .tail _ hp, fun hm => by
            rcases List.mem_cons.mp hm with q | hm
            · exact hnot p hp q
            · exact absurd hm List.not_mem_nil⟩
    have back : ∀ b o, b ≠ 88 → (s.heap.update 88 (fun _ => grown pos c')).get? b = some o → s.heap.get? b = some o := fun b o hb e => (Heap.get?_update_other _ _ (Ne.symm hb)).symm.trans e
    have e1 : Ext ({ s with heap := s.heap.update 88 (fun _ => grown pos c') } : Shared) { s with heap := h', toks := tk } := ⟨fun b o e => by
      by_cases q : b = 88
      · subst q
        rw [show ({ s with heap := s.heap.update 88 (fun _ => grown pos c') } : Shared).heap.get? 88 = some (grown pos c') from hup] at e
        cases e
        exact htb'
      · exact hx b o q (back b o q e), rfl, fun _ _ e => e, fun h => h⟩
    have hsc : s.heap.get? c' = none := Heap.get?_none_of_le hge
    have hc8 : c' ≠ 88 := fun q => by have := h88.g; rw [← q, hsc] at this; cases this
    have hmc : (s.heap.update 88 (fun _ => grown pos c')).get? c' = none := (Heap.get?_update_other _ _ (Ne.symm hc8)).trans hsc
    obtain ⟨m0, hm0, _⟩ := F.fr
    have hLc : c' ≠ c.L := Nat.ne_of_gt (Nat.lt_of_lt_of_le hm0.ns.lt hge)
    have hcW : c' ∉ c.W := F.live.fresh hsc
    have hgc : c.s₀.heap.get? c' = none ∧ ¬ c.lo c' := by
      refine ⟨Heap.get?_none_of_le (Nat.le_trans hm0.above (Nat.le_trans (Nat.le_of_lt hm0.ns.lt) hge)), fun hlo => ?_⟩
      rcases F.tl.2 c' hlo with h | ⟨o, h⟩
      · obtain ⟨o, ho⟩ := F.tl.1
        exact absurd (Nat.lt_of_lt_of_le (Heap.lt_size ho) hge) (Nat.not_lt.mpr h)
      · rw [hsc] at h; cases h
    have F2 := F1.holdN (s' := { s with heap := h', toks := tk }) e1 hmc hoc hsh.nl hsh.nt hLc hgc
    have hLf : h'.objs.size ≠ c.L := by
      obtain ⟨m, hm, _⟩ := F2.fr
      exact (Nat.ne_of_lt hm.ns.lt).symm
    have hfW : h'.objs.size ∉ c.W := fun hm => F2.live.fresh (get_size h') (.tail _ hm)
    have F3 := F2.holdN (s' := { s with heap := h'.push (fnMade name (qualnameIn c.env name name) params body scope [] doc ((mg "__name__").getD .none) c' ctv), toks := tk }) (.push _) (get_size _) (Heap.get?_push_size _ rfl) (.of (by show Value.type "function" ≠ Value.type "list"; decide)) (.of (by show Value.type "function" ≠ Value.type "tuple"; decide)) hLf F2.ge
    obtain ⟨m, hm, hμ⟩ := F3.fr
    exact wpAny_storeName_local (env := c.env) hl hm.ns (fun h₂ hn' hs' => (r _ c' oc ctv doc ((mg "__name__").getD .none) hfW hcW hsh).run _ (F3.store hm hμ hn' hs' (.raw _))) (noCls hk)
end
end Mine
end
section
open PySem PySem.W PyProof.Rows PySem.Calls
set_option Elab.async false
set_option linter.unusedVariables false
set_option maxRecDepth 100000
set_option maxHeartbeats 1000000
namespace Mine
/-- the def within _parse_message -/
def stripSt : Stmt := match (bdOf (stNo 5)).drop 4 with
  | s :: _ => s
  | [] => .Pass ⟨0, 0, 0, 0⟩
def posOf : Stmt → Pos
  | .FunctionDef _ _ _ _ _ _ _ _ _ p => p
  | _ => ⟨0, 0, 0, 0⟩
theorem stripSt_eq : stripSt = .FunctionDef (naOf stripSt) (paOf stripSt) (bdOf stripSt) [] none [] (scOf stripSt) none (naOf stripSt) (posOf stripSt) := rfl
theorem strip_na : naOf stripSt = "_strip_last_newline" := rfl
theorem fineS : fnFine stripSt ["value"] false = true := by kernel_rfl
/-- the def's object, held by the frame -/
def StripH (h₀ : Heap) (H : List (Addr × Obj)) (qual : Str) (f : Addr) : Prop :=
  ∃ c' ctv doc pm, (f, fnMade (naOf stripSt) qual (paOf stripSt) (bdOf stripSt) (scOf stripSt) [] doc pm c' ctv) ∈ H ∧ (h₀.CodeRec (.ref c') qual ∨ ∃ oc, (c', oc) ∈ H ∧ CodeShape qual oc)
theorem StripH.sub {h₀ : Heap} {H H' : List (Addr × Obj)} {qual : Str} {f : Addr} (x : StripH h₀ H qual f) (h : ∀ p ∈ H, p ∈ H') : StripH h₀ H' qual f :=
  let ⟨c', ctv, doc, pm, h1, h2⟩ := x; ⟨c', ctv, doc, pm, h _ h1, h2.imp id fun ⟨oc, h3, h4⟩ => ⟨oc, h _ h3, h4⟩⟩
theorem bindS (qual : Str) (doc pm : Value) (c' : Addr) (ctv v : Value) : bindArgs (fnX (naOf stripSt) qual (paOf stripSt) (bdOf stripSt) (scOf stripSt) [] .none .none doc pm none (.ref c') ctv) ⟨[v], []⟩ = pure ([("value", v)] : List (Str × Value)) := by rfl
section
variable {c : Cx} {mg mb : Str → Option Value}
/-- the def within, called -/
theorem J_strip {x : Str} {f : Addr} {qual : Str} {e : PySem.Expr} {p pos : Pos} {b : List UInt8} (T : Top1 c.w mg mb c.s₀.heap) (hr : Room c.A 1) (S : StripH c.s₀.heap c.H qual f) (hx : c.μ x = some (.val (.raw (.ref f)))) (h : J c e (.bytes b)) (hz : b.length ≤ 16777216)
    (hk : c.sc.kind = .function := by rfl) (hl : c.env.kindOf x = some .local := by rfl) (hd : (x == ("__debug__" : Str)) = false := by decide) (hs : starEach [e] c.env = [(false, eval e c.env)] := by rfl) :
    J c (.Call (.Name x p) [e] [] pos) (.bytes (strip b)) := .mk fun s E F => by
  obtain ⟨c', ctv, doc, pm, hf, hc⟩ := S
  refine Call_Name rfl (raw_name F hx ?_ hk hl hd)
  refine callWith_function (o := fnMade (naOf stripSt) qual (paOf stripSt) (bdOf stripSt) (scOf stripSt) [] doc pm c' ctv) (fd := fnX (naOf stripSt) qual (paOf stripSt) (bdOf stripSt) (scOf stripSt) [] .none .none doc pm none (.ref c') ctv) (wpAny_mono (evalArgs_JS (JS1 h hs) (by rw [hs]; rfl) F) (fun a s₁ ⟨e1, vs, ea, x1⟩ => ?_) fun _ _ x => x)
  subst ea
  obtain ⟨v, rfl, xv⟩ := denAll1 x1
  have F1 := F.go e1
  have T1 := F1.top T
  have hrec : s₁.heap.CodeRec (.ref c') qual := by
    rcases hc with hc | ⟨oc, h1, h2⟩
    · obtain ⟨c₂, oc, vs, t, e2, hoc, r⟩ := hc
      exact ⟨c₂, oc, vs, t, e2, F1.ext.keep _ _ hoc, r⟩
    · exact h2.rec (F1.hh _ h1).g
  refine ⟨⟨(F1.hh _ hf).g, rfl⟩, ?_⟩
  obtain ⟨hloc, hco, hgen, hk, hcell⟩ := fnFine_iff fineS
  refine wpAny_call (call_fnB (W := c.W) (d := .bytes (strip b)) (ps := [("value", .bytes b)]) (k := 0) T1 F1.live hr (F1.hh _ hf).g rfl hrec (fun E => ?_) (fun v s₂ e2 x2 => ⟨e1.trans e2, x2⟩) (fun s₂ L E e2 hL => ?_) hloc hco hgen hk hcell)
  · show wpAny _ _ (bindArgs (fnX (naOf stripSt) qual (paOf stripSt) (bdOf stripSt) (scOf stripSt) [] .none .none doc pm none (.ref c') ctv) ⟨[v], []⟩) _ _ _
    rw [bindS]
    exact wpAny_pure ⟨.refl _, rfl, .cons xv .nil⟩
  · refine Blk.if_ (b := !b.isEmpty && (b.getLast? == some 10)) (JB_and (JB_plain (J.top (J_name rfl)) (.bytes b hz)) fun _ => JB_plain (J.top (J_ends (J_name rfl) J_bytes)) (.bool _)) (fun hb => ?_) (fun hb => ?_)
    · have hg : b.getLast? = some 10 := by
        rw [Bool.and_eq_true] at hb
        exact eq_of_beq hb.2
      have es : strip b = b.dropLast := if_pos hg
      rw [es]
      refine Blk.ret (d := .bytes b.dropLast) ?_ fun v s F x => ⟨v, rfl, F.ext, x.sub fun _ h => .tail _ h⟩
      refine J.cast (J_cutB (J_name rfl) .none (.some (J_negI J_int)) hz) ?_
      exact congrArg D.bytes (cut_init b)
    · refine Blk.done ?_
      have es : strip b = b := if_neg (fun h => by
        have : (b.getLast? == some (10 : UInt8)) = true := by rw [h]; rfl
        rw [this] at hb
        cases b with
        | nil => cases h
        | cons => simp at hb)
      rw [es]
      exact Blk.retD (J_name rfl) (fun _ h => .tail _ h)
end
end Mine
end
section
open PySem PySem.W PyProof.Rows PySem.Calls
set_option Elab.async false
set_option linter.unusedVariables false
set_option maxRecDepth 100000
set_option maxHeartbeats 1000000
namespace Mine
/-- what _parse_message tells of a header that is under way -/
def rowOf (k : Option (List UInt8)) (v : List (List UInt8)) : List It := match k with
  | some k => [.row k (strip (joinB [] v))]
  | none => []
/-- what _parse_message tells of the rows, and whether it refuses one -/
def pmGo : Option (List UInt8) → List (List UInt8) → List (List UInt8) → List It × Bool
  | k, v, [] => (rowOf k v ++ [.fin none], false)
  | k, v, l :: ls => if l.head? = some 32 then pmGo k (v ++ [l.drop 1]) ls
    else if l = [10] then (rowOf k v ++ [.fin (some ls.flatten)], false)
    else match splitOnceB 32 l with
      | [a, b] => (rowOf k v ++ (pmGo (some a) [b] ls).1, (pmGo (some a) [b] ls).2)
      | _ => (rowOf k v, true)
def Cx.rdx (c : Cx) (W : List Addr) (H : List (Addr × Obj)) (V : List (Value × D)) (G : List (Nat × GenState)) (μ : Mu) (s : Shared) : Cx := { c with W := W, H := H, V := V, G := G, μ := μ, s₁ := s }
section
variable {c : Cx} {Q : Flow → Shared → Prop} {E : Value → Shared → Prop} {rest : List Stmt}
/-- join of an own list -/
theorem J_joinT {o e : PySem.Expr} {apos pos : Pos} {l : List UInt8} {ps : List (List UInt8)} (ho : J c o (.bytes l)) (he : JT c e (.list (ps.map D.bytes))) (hz : (joinB l ps).length ≤ 16777216) (hbase : attributeBase o "join" c.env (eval o c.env) = eval o c.env := by rfl)
    (hs : starEach [e] c.env = [(false, eval e c.env)] := by rfl)
    (hline : (apos.endLine == pos.line) = true := by rfl) : J c (.Call (.Attribute o "join" apos) [e] [] pos) (.bytes (joinB l ps)) := .mk fun s E F => by
  refine PySem.wpAny_Call_method hbase (by rw [hs]; rfl) hline FB.plainAttrs_bytes slot_join type_join (wpAny_mono (ho.run s E F) (fun v s₁ ⟨e1, x1⟩ => ?_) fun _ _ x => x)
  obtain ⟨hT1, hT2⟩ := bytes_recv s₁ v x1.top
  obtain ⟨t, rfl⟩ := denT_bytes x1.top
  refine ⟨hT1, hT2, ?_⟩
  rw [hs]
  refine callWith_builtin rfl (evalArgs_plain (spliced_cons (wpAny_mono (he.run s₁ E (F.go e1)) (fun u s₂ ⟨e2, x2⟩ => ?_) fun _ _ x => x)))
  refine spliced_nil ?_
  exact wpAny_mono (call_join ((F.go e1).go e2).live (.inl x2) hz) (fun r s₃ ⟨e3, x3⟩ => ⟨(e1.trans e2).trans e3, x3⟩) fun _ _ x => x
/-- x, y = e, a list of two -/
theorem Blk.assignPairL {x y : Str} {e : PySem.Expr} {px py tp pos : Pos} {k : Nat} {d1 d2 : D} (hh : c.A.handled = none) (h : J c e (.list [d1, d2])) (r : Blk ((c.up x (some (.val d1))).up y (some (.val d2))) rest Q E)
    (hk : c.sc.kind = .function := by rfl) (hx : c.env.kindOf x = some .local := by rfl) (hy : c.env.kindOf y = some .local := by rfl)
    (hs : swapsWithSole [.Tuple [.Name x px, .Name y py] k tp] e pos.line c.env = pure false := by rfl) (hw : swappedStores [.Tuple [.Name x px, .Name y py] k tp] e c.env = pure none := by rfl) :
    Blk c (.Assign [.Tuple [.Name x px, .Name y py] k tp] e pos :: rest) Q E :=
  Blk.stmt fun s F => Assign_Tuple (wpAny_mono (h.run s E F) (fun v s₁ ⟨e1, x1⟩ => assign_pairL hh (F.go e1) x1.top (fun s' F' => r.run s' F') hk hx hy) fun _ _ x => x) hs hw
end
section
variable {c : Cx} {A : Around} {R : GenEnd} {Y : Protocol} {n : Nat} {code : Code} {fs : List Frame} {K : KF} {H : HF} {rest : List Stmt}
theorem SB.brk {pos : Pos} (S : Sp c A code fs) (h : ∀ s, Ext c.s₀ c.s₁ → FrD c s → Seg c.M A R Y n c.s₁ code (K .brk) fs s) : SB c A R Y n code fs K H (.Break pos :: rest) :=
  SB.plain S fun e => Blk.stmt fun s F => wpAny_Break (h s e F)
/-- a yield of something whose working out alters the frame -/
theorem SB.yieldX {α : Type} {c' : α → Cx} {Wc W : List Addr} {g N : Nat} {its : List D} {e : PySem.Expr} {ypos pos : Pos} {d : D} (S : Sp c A code fs) (D : ∀ a, Side (c' a) Wc g N) (h : ∀ s E (Q : Value → Shared → Prop), FrD c s → (∀ a v s' , FrD (c' a) s' → Den (c' a).W s'.heap v d → Q v s') → wpAny c.M c.A (eval e c.env) Q E s) (hd : its[its.length - 1 - n]? = some d) (hW : ∀ a, ∀ b ∈ W, b ∈ (c' a).W) (k : ∀ a s, SB ((c' a).at s) A R (YP Wc W c.L c.z N g its) n code fs K H rest)
    (h0 : ∀ a, (c' a).s₀ = c.s₀ := by intro _; rfl) (h1 : ∀ a, (c' a).s₁ = c.s₁ := by intro _; rfl) (hL : ∀ a, (c' a).L = c.L := by intro _; rfl) (hz : ∀ a, (c' a).z = c.z := by intro _; rfl) (hM : ∀ a, (c' a).M = c.M := by intro _; rfl) (he : ∀ a, (c' a).env = c.env := by intro _; rfl)
    (hco : c.env.scope.isCoroutine = false := by rfl) (hi : interactive c.env = false := by rfl) :
    SB c A R (YP Wc W c.L c.z N g its) (n + 1) code fs K H (.Expr (.Yield (some e) ypos) pos :: rest) := .mk fun s e0 F => by
  refine seg_execs_cons (seg_Expr_Yield S.s rfl S.g ?_ hco hi)
  refine wp_cast S.a.symm (h s _ _ F fun a v s₁ F1 x1 kap hk => ?_)
  have kp : KP c.L c.z N g c.s₁ s₁ := by
    have := F1.kp (by rw [h0, h1]; exact e0) (D a)
    rw [hL, hz, h1] at this
    exact this
  refine ⟨d, hd, x1.sub (hW a), kp, F1.ext.gens _ _ (D a).run, fun s'' ha hr => hk _ _ ?_⟩
  obtain ⟨e2, F2⟩ := F1.resume (D a) ha hr
  have := (k a s'').run s'' e2 F2
  rw [show ((c' a).at s'').M = c.M from hM a, show ((c' a).at s'').env = c.env from he a] at this
  exact this
end
end Mine
end
section
open PySem PySem.W PyProof.Rows PySem.Calls
set_option Elab.async false
set_option linter.unusedVariables false
set_option maxRecDepth 100000
set_option maxHeartbeats 1000000
namespace Mine
theorem Side.rdx {c : Cx} {Wc : List Addr} {g N : Nat} (S : Side c Wc g N) {W : List Addr} {H : List (Addr × Obj)} {V : List (Value × D)} {G : List (Nat × GenState)} {μ : Mu} {s : Shared} (hW : ∀ a ∈ Wc, a ∈ W) (hG : ∀ p ∈ G, p.1 ≠ g) : Side (c.rdx W H V G μ s) Wc g N :=
  ⟨S.lo, hW, S.hid, S.lt, S.gs, S.run, hG⟩
theorem Sp.rdx {c : Cx} {A : Around} {code : Code} {fs : List Frame} (S : Sp c A code fs) {W : List Addr} {H : List (Addr × Obj)} {V : List (Value × D)} {G : List (Nat × GenState)} {μ : Mu} {s : Shared} : Sp (c.rdx W H V G μ s) A code fs := ⟨S.a, S.s, S.g⟩
section
variable {prog : Program} {w : World} {mg mb : Str → Option Value}
/-- a generator's frame of _parse_message -/
noncomputable abbrev cxP (prog : Program) (w : World) (A : Around) (s₀ : Shared) (L top z N : Nat) (W : List Addr) (H : List (Addr × Obj)) (V : List (Value × D)) (G : List (Nat × GenState)) (μ : Mu) (s₁ : Shared) : Cx :=
  { prog := prog, w := w, A := A, nm := naOf (stNo 5), sc := scOf (stNo 5), fa := 93, cd := (fdOf w.params 93).code, W := W, s₀ := s₀, L := L, μ := μ, H := H, V := V, G := G, s₁ := s₁, lo := (· < N), top := top, z := z }
/-- the statements behind the loop -/
def restP : List Stmt := (bdOf (stNo 5)).drop 6
theorem pm_close {A A' : Around} {s₀ : Shared} {L top z N n : Nat} {W : List Addr} {H0 : List (Addr × Obj)} {V : List (Value × D)} {G : List (Nat × GenState)} {μ : Mu} {s₁ : Shared} {R : GenEnd} {Y : Protocol} {code : Code} {fs : List Frame} {K : KF} {H : HF} {x dx : Addr} {es : List DictEntry} {m : Nat} {b : List UInt8}
    (T : Top1 w mg mb s₀.heap) (hr : Room A' 2) (S : Sp (cxP prog w A' s₀ L top z N W ((dx, dictOf es m) :: (x, instObj 75 dx) :: H0) V G μ s₁) A code fs) (B : IsBuf es b) (hμ : μ "f" = some (.val (.raw (.ref x))))
    (fin : ∀ s, Ext s₀ s₁ → FrD (cxP prog w A' s₀ L top z N W ((dx, dictOf es m) :: (x, instObj 75 dx) :: H0) V G μ s₁) s → Seg (model prog w) A R Y n s₁ code (K .next) fs s) :
    SB (cxP prog w A' s₀ L top z N W ((dx, dictOf es m) :: (x, instObj 75 dx) :: H0) V G μ s₁) A R Y n code fs K H (restP.drop 1) := by
  refine SB.plain S fun e => Blk.stmt fun s F => ?_
  have BB : Buf (cxP prog w A' s₀ L top z N W ((dx, dictOf es m) :: (x, instObj 75 dx) :: H0) V G μ s₁) x dx es m b := ⟨fun s' F' => (F'.hh (x, instObj 75 dx) (.tail _ (.head _))).g, .head _, B.get, B.len⟩
  refine wpAny_Expr (wpAny_mono ((J_close T hr hμ BB).run s _ F) (fun v s' ⟨e1, x1⟩ => ?_) fun _ _ x => x)
  have := denT_none x1.top
  subst this
  exact Blk.run (Blk.nil fun s F => (SB.nil (c := cxP prog w A' s₀ L top z N W ((dx, dictOf es m) :: (x, instObj 75 dx) :: H0) V G μ s₁) (A := A) (R := R) (Y := Y) (n := n) (K := K) (H := H) fun s e F => fin s e F).run s e F) s' (F.go e1)
theorem eval_noneRead {c : Cx} {mg mb : Str → Option Value} {x dx : Addr} {es : List DictEntry} {n : Nat} {b : List UInt8} {H : List (Addr × Obj)} {nm : Str} {k1 kk : Nat} {p1 p ap pos tp : Pos} {s : Shared} {E : Value → Shared → Prop} {Q : Value → Shared → Prop} (T : Top1 c.w mg mb c.s₀.heap) (hr : Room c.A 2) (F : FrD c s) (hx : c.μ nm = some (.val (.raw (.ref x)))) (B : Buf c x dx es n b) (hH : c.H = (dx, dictOf es n) :: H) (hnot : ∀ p ∈ H, p.1 ≠ dx) (hz : b.length ≤ 100000)
    (h : ∀ v s' es' n', IsBuf es' [] → FrD (c.hd ((dx, dictOf es' n') :: H)) s' → Den c.W s'.heap v (.tuple [.none, .bytes b]) → Q v s')
    (hs : starEach [.Constant .none k1 p1, .Call (.Attribute (.Name nm p) "read" ap) [] [] pos] c.env = [(false, eval (.Constant .none k1 p1) c.env), (false, eval (.Call (.Attribute (.Name nm p) "read" ap) [] [] pos) c.env)] := by rfl)
    (hk : c.sc.kind = .function := by rfl) (hl : c.env.kindOf nm = some .local := by rfl) (hd : (nm == ("__debug__" : Str)) = false := by decide)
    (hbase : attributeBase (.Name nm p) "read" c.env (eval (.Name nm p) c.env) = eval (.Name nm p) c.env := by rfl)
    (hline : (ap.endLine == pos.line) = true := by rfl) : wpAny c.M c.A (eval (.Tuple [.Constant .none k1 p1, .Call (.Attribute (.Name nm p) "read" ap) [] [] pos] kk tp) c.env) Q E s := by
  refine Tuple_ ?_
  rw [hs]
  refine spliced_cons (wpAny_mono ((J_none (k := k1) (pos := p1)).run s E F) (fun v s₁' ⟨e1, x1⟩ => ?_) fun _ _ x => x)
  refine spliced_cons (eval_read0 (p := p) (ap := ap) (pos := pos) T hr (F.go e1) hx B hH hnot hz (fun t s' es' n' B' F' => ?_) hk hl hd hbase hline)
  have := denT_none x1.top
  subst this
  refine spliced_nil (wpAny_newObj_type ?_ (by show ([Value.none, _].toArray.size : Nat) ≤ sizeLine; rw [sizeLine_eq]; simp))
  refine h _ _ es' n' B' (F'.go (.push _)) ?_
  exact .tuple F'.live.next ⟨_, Heap.get?_push_size _ rfl, rfl, 0, rfl⟩ (.cons .none (.cons (.bytes _ _) .nil))
/-- the statements behind the loop: the rest of the text told, if the empty row was met -/
theorem pm_rest {A A' : Around} {s₀ : Shared} {L top z N g : Nat} {W W₀ Wc : List Addr} {H0 : List (Addr × Obj)} {V : List (Value × D)} {G : List (Nat × GenState)} {μ : Mu} {s₁ : Shared} {R : GenEnd} {code : Code} {fs : List Frame} {K : KF} {H : HF} {x dx : Addr} {es : List DictEntry} {m : Nat} {b : List UInt8} {its : List D} {eof : Bool} {n : Nat}
    (T : Top1 w mg mb s₀.heap) (hr : Room A' 2) (S : Sp (cxP prog w A' s₀ L top z N W ((dx, dictOf es m) :: (x, instObj 75 dx) :: H0) V G μ s₁) A code fs) (Sd : Side (cxP prog w A' s₀ L top z N W ((dx, dictOf es m) :: (x, instObj 75 dx) :: H0) V G μ s₁) Wc g N) (hW : ∀ a ∈ W₀, a ∈ W)
    (B : IsBuf es b) (hz : b.length ≤ 100000) (hnot : ∀ p ∈ (x, instObj 75 dx) :: H0, p.1 ≠ dx) (hμ : μ "f" = some (.val (.raw (.ref x)))) (he : μ "eof" = some (.val (.bool eof))) (hn : n = if eof = true then 0 else 1) (hit : eof = false → its[its.length - 1]? = some (It.fin (some b)).d)
    (fin : ∀ es' m' s' s, Ext s₀ s' → FrD (cxP prog w A' s₀ L top z N W ((dx, dictOf es' m') :: (x, instObj 75 dx) :: H0) V G μ s') s → Seg (model prog w) A R (YP Wc W₀ L z N g its) 0 s' code (K .next) fs s) :
    SB (cxP prog w A' s₀ L top z N W ((dx, dictOf es m) :: (x, instObj 75 dx) :: H0) V G μ s₁) A R (YP Wc W₀ L z N g its) n code fs K H restP := by
  refine SB.if_ (b := !eof) S (JB_not (JB_plain (J.top (J_name he)) (.bool _))) (fun h => ?_) (fun h => ?_)
  · have h0 : eof = false := by simpa using h
    subst h0
    have hn1 : n = 0 + 1 := hn
    subst hn1
    refine SB.yieldX (α := { p : List DictEntry × Nat // IsBuf p.1 [] }) (d := .tuple [.none, .bytes b]) (c' := fun p => cxP prog w A' s₀ L top z N W ((dx, dictOf p.1.1 p.1.2) :: (x, instObj 75 dx) :: H0) V G μ s₁) S (fun p => ⟨Sd.lo, Sd.sub, Sd.hid, Sd.lt, Sd.gs, Sd.run, Sd.G⟩) (fun s E Q F hQ => ?_) (by rw [Nat.sub_zero]; exact hit rfl) (fun _ => hW) (fun p s' => ?_)
    · have BB : Buf (cxP prog w A' s₀ L top z N W ((dx, dictOf es m) :: (x, instObj 75 dx) :: H0) V G μ s₁) x dx es m b := ⟨fun s' F' => (F'.hh (x, instObj 75 dx) (.tail _ (.head _))).g, .head _, B.get, B.len⟩
      exact eval_noneRead T hr F hμ BB rfl hnot hz (fun v s' es' n' B' F' x => hQ ⟨(es', n'), B'⟩ v s' F' x)
    · refine SB.done ?_
      exact pm_close (b := []) T hr ⟨S.a, S.s, S.g⟩ p.2 hμ (fun s e F => fin p.1.1 p.1.2 s' s e F)
  · have h0 : eof = true := by simpa using h
    subst h0
    have hn1 : n = 0 := hn
    subst hn1
    exact SB.done (pm_close T hr S B hμ (fun s e F => fin es m s₁ s e F))
end
end Mine
end
section
open PySem PySem.W PyProof.Rows PySem.Calls
set_option Elab.async false
set_option linter.unusedVariables false
set_option maxRecDepth 100000
set_option maxHeartbeats 1000000
namespace Mine
/-- frames that stand below -/
def Nfs (Fs : List Addr) (h : Heap) : Prop := ∀ f ∈ Fs, NFat h f
section
variable {c : Cx} {s s'' : Shared} {Wc : List Addr} {g N : Nat} {Fs : List Addr}
theorem Nfs.now (F : FrD c s) (hl : ∀ b, c.lo b ↔ b < N) (hP : ∀ f ∈ Fs, f < N ∧ f ≠ c.z ∧ f ≠ c.L) (hN : Nfs Fs c.s₁.heap) : Nfs Fs s.heap := fun f hf => by
  obtain ⟨o, ho, hd⟩ := hN f hf
  obtain ⟨h1, h2, h3⟩ := hP f hf
  exact ⟨o, F.kr f o (.inl ⟨(hl f).mpr h1, h2, h3⟩) ho, hd⟩
theorem Nfs.after (hN : Nfs Fs s.heap) (a : Agree Wc g s s'') : Nfs Fs s''.heap := fun f hf => by
  by_cases h : f ∈ Wc
  · exact a.nf f h (hN f hf)
  · obtain ⟨o, ho, hd⟩ := hN f hf
    exact ⟨o, a.obj f o h ho, hd⟩
end
section
variable {c : Cx} {A : Around} {R : GenEnd} {Y : Protocol} {n : Nat} {code : Code} {fs : List Frame} {K : KF} {H : HF} {rest : List Stmt} {Wc W : List Addr} {g N : Nat} {its : List D} {Fs : List Addr}
theorem SB.yieldF {e : PySem.Expr} {ypos pos : Pos} {d : D} (S : Sp c A code fs) (D : Side c Wc g N) (h : J c e d) (hd : its[its.length - 1 - n]? = some d) (hW : ∀ a ∈ W, a ∈ c.W) (hP : ∀ f ∈ Fs, f < N ∧ f ≠ c.z ∧ f ≠ c.L) (hN : Nfs Fs c.s₁.heap)
    (k : ∀ s, Nfs Fs s.heap → SB (c.at s) A R (YP Wc W c.L c.z N g its) n code fs K H rest)
    (hco : c.env.scope.isCoroutine = false := by rfl) (hi : interactive c.env = false := by rfl) :
    SB c A R (YP Wc W c.L c.z N g its) (n + 1) code fs K H (.Expr (.Yield (some e) ypos) pos :: rest) := .mk fun s e0 F => by
  refine seg_execs_cons (seg_Expr_Yield S.s rfl S.g ?_ hco hi)
  have hh := h.run s (fun x s' => Seg c.M A R (YP Wc W c.L c.z N g its) (n + 1) c.s₁ code (H x) fs s') F
  rw [S.a] at hh
  refine wpAny_mono hh (fun v s₁ ⟨e1, x1⟩ kap hk => ?_) fun _ _ x => x
  have F1 := F.go e1
  refine ⟨d, hd, x1.sub hW, F1.kp e0 D, F1.ext.gens _ _ D.run, fun s'' ha hr => hk _ _ ?_⟩
  obtain ⟨e2, F2⟩ := F1.resume D ha hr
  exact (k s'' ((Nfs.now F1 D.lo hP hN).after ha)).run s'' e2 F2
/-- a row told, if there is one -/
theorem SB.ifRow {t e : PySem.Expr} {ypos epos pos : Pos} {r : Option D} {m : Nat} (S : Sp c A code fs) (D : Side c Wc g N) (ht : JB c t r.isSome) (h : ∀ d, r = some d → J c e d) (hd : ∀ d, r = some d → its[its.length - 1 - n]? = some d) (hm : m = n + r.toList.length) (hW : ∀ a ∈ W, a ∈ c.W) (hP : ∀ f ∈ Fs, f < N ∧ f ≠ c.z ∧ f ≠ c.L) (hN : Nfs Fs c.s₁.heap)
    (k : ∀ s, Nfs Fs s.heap → SB (c.at s) A R (YP Wc W c.L c.z N g its) n code fs K H rest)
    (hco : c.env.scope.isCoroutine = false := by rfl) (hi : interactive c.env = false := by rfl) :
    SB c A R (YP Wc W c.L c.z N g its) m code fs K H (.If t [.Expr (.Yield (some e) ypos) epos] [] pos :: rest) := by
  cases r with
  | none =>
    simp only [Option.toList_none, List.length_nil, Nat.add_zero] at hm
    subst hm
    exact SB.if_ S ht (fun h => nomatch h) (fun _ => SB.done (k c.s₁ hN))
  | some d =>
    simp only [Option.toList_some, List.length_cons, List.length_nil] at hm
    subst hm
    exact SB.if_ S ht (fun _ => SB.yieldF S D (h d rfl) (hd d rfl) hW hP hN (fun s hs => SB.done (k s hs)) hco hi) (fun h => nomatch h)
theorem SB.append {x : Str} {e : PySem.Expr} {p apos cpos pos : Pos} {a : Addr} {ds : List D} {d : D} (S : Sp c A code fs) (hx : c.μ x = some (.own a ds)) (h : J c e d) (r : SB (c.up x (some (.own a (ds ++ [d])))) A R Y n code fs K H rest) (hz : ds.length ≤ 1000)
    (hk : c.sc.kind = .function := by rfl) (hl : c.env.kindOf x = some .local := by rfl) (hd : (x == ("__debug__" : Str)) = false := by decide)
    (hbase : attributeBase (.Name x p) "append" c.env (eval (.Name x p) c.env) = eval (.Name x p) c.env := by rfl)
    (htrees : starEach [e] c.env = [(false, eval e c.env)] := by rfl) (hline : (apos.endLine == cpos.line) = true := by rfl)
    (hi : interactive c.env = false := by rfl) (hs : swapsWith (.Call (.Attribute (.Name x p) "append" apos) [e] [] cpos) none pos.line c.env = pure false := by rfl) :
    SB c A R Y n code fs K H (.Expr (.Call (.Attribute (.Name x p) "append" apos) [e] [] cpos) pos :: rest) :=
  SB.step S r (fun Q E q => Blk.append hx h (Blk.nil q) hz hk hl hd hbase htrees hline hi hs)
theorem SB.assignOwn {x : Str} {elts : List PySem.Expr} {p pos lpos : Pos} {ds : List D} (S : Sp c A code fs) (h : JS c (backTo lpos (starEach elts c.env)) ds) (r : ∀ a, a ∉ c.W → SB (c.wm (a :: c.W) (upd c.μ x (some (.own a ds)))) A R Y n code fs K H rest) (hz : ds.length ≤ 1000 := by first | decide | simp)
    (hk : c.sc.kind = .function := by rfl) (hl : c.env.kindOf x = some .local := by rfl) (hs : swapsWith (.List elts lpos) (some (.Name x p)) pos.line c.env = pure false := by rfl) : SB c A R Y n code fs K H (.Assign [.Name x p] (.List elts lpos) pos :: rest) :=
  SB.plain S fun e => Blk.assignOwn h (fun a ha => Blk.nil fun s F => (r a ha).run s e F) hz hk hl hs
theorem SB.assignPairL {x y : Str} {e : PySem.Expr} {px py tp pos : Pos} {k : Nat} {d1 d2 : D} (S : Sp c A code fs) (hh : c.A.handled = none) (h : J c e (.list [d1, d2])) (r : SB ((c.up x (some (.val d1))).up y (some (.val d2))) A R Y n code fs K H rest)
    (hk : c.sc.kind = .function := by rfl) (hx : c.env.kindOf x = some .local := by rfl) (hy : c.env.kindOf y = some .local := by rfl)
    (hs : swapsWithSole [.Tuple [.Name x px, .Name y py] k tp] e pos.line c.env = pure false := by rfl) (hw : swappedStores [.Tuple [.Name x px, .Name y py] k tp] e c.env = pure none := by rfl) :
    SB c A R Y n code fs K H (.Assign [.Tuple [.Name x px, .Name y py] k tp] e pos :: rest) :=
  SB.step S r (fun Q E q => Blk.assignPairL hh h (Blk.nil q) hk hx hy hs hw)
end
section
variable {c : Cx} {E : Value → Shared → Prop} {s : Shared}
/-- too few to unpack: a ValueError -/
theorem unpack_few {v : Value} {d : D} {Q : List Value → Shared → Prop} (hh : c.A.handled = none) (F : FrD c s) (x : DenT c.W s.heap v (.list [d])) (h : ∀ h₁ h₂ tk e, (∀ b o, s.heap.get? b = some o → h₁.get? b = some o) → Heap.NewExc h₁ h₂ e "ValueError" → E (.ref e) { s with heap := h₂, toks := tk }) :
    wpAny c.M c.A (unpackItems v 2 none) Q E s := by
  obtain ⟨a, vs, rfl, hl, r⟩ := x
  obtain ⟨u, rfl, xu⟩ := denAll1 r
  have hlt : a ≠ s.heap.objs.size := by obtain ⟨o, ho, _⟩ := hl; exact Nat.ne_of_lt (Heap.lt_size ho)
  unfold unpackItems
  refine wpAny_bind ?_
  unfold notIterableAtAll
  refine wpAny_bind (wpAny_specialOf hl.typeIs slot_list_iter.lookup ?_)
  refine wpAny_pure ?_
  simp only [Bool.false_eq_true, if_false]
  refine wpAny_bind (wpAny_holding (wpAny_pyIter_list hl ?_))
  have hit : (s.heap.push { cls := .type "list_iterator", data := .fields #[.ref a, .int 0 0] }).IsListIter s.heap.objs.size a 0 := ⟨_, Heap.get?_push_size _ rfl, rfl, rfl⟩
  have hd : wpAny c.M c.A (draw (.ref s.heap.objs.size) 2) (fun vs s' => vs = [u] ∧ ∃ h', s' = { s with heap := h' } ∧ ∀ b o, s.heap.get? b = some o → h'.get? b = some o) E { s with heap := s.heap.push { cls := .type "list_iterator", data := .fields #[.ref a, .int 0 0] } } := by
    unfold draw
    refine wpAny_bind (wpAny_pyNext_list_item hit (hl.push _) (x := u) rfl fun h₁ hi₁ hs₁ => ?_)
    refine wpAny_bind (wpAny_holding ?_)
    unfold draw
    refine wpAny_bind (wpAny_pyNext_list_end hh hi₁ ((hl.push _).extBut hs₁.extBut hlt) rfl fun h₂ he₂ => ?_)
    refine wpAny_pure (wpAny_pure ⟨rfl, h₂, rfl, fun b o e => ?_⟩)
    have hb : b ≠ s.heap.objs.size := Nat.ne_of_lt (Heap.lt_size e)
    exact he₂ b o hb (hs₁.extBut b o hb (Heap.get?_push_of_some _ e))
  refine wpAny_bind (wpAny_holding (wpAny_mono hd (fun vs s' ⟨e1, h', e2, hk⟩ => ?_) fun _ _ x => x))
  subst e1 e2
  rw [if_pos (show ([u] : List Value).length < 2 from Nat.lt_succ_self 1)]
  refine wpAny_bind (wpAny_rule ?_)
  refine wpAny_bind ?_
  exact wpAny_raiseErrorMade plainExc_ValueError hh (fun h' tk e hx => h _ _ _ _ hk hx) (by rw [List.length_singleton]; size_fits)
end
end Mine
end
section
open PySem PySem.W PyProof.Rows PySem.Calls
set_option Elab.async false
set_option linter.unusedVariables false
set_option maxRecDepth 100000
set_option maxHeartbeats 1000000
namespace Mine
/-- the loop of _parse_message, and its parts -/
def forP : Stmt := match (bdOf (stNo 5)).drop 5 with
  | s :: _ => s
  | [] => .Pass ⟨0, 0, 0, 0⟩
def tgOf : Stmt → PySem.Expr
  | .For t _ _ _ _ => t
  | _ => .Constant .none 0 ⟨0, 0, 0, 0⟩
def itOf : Stmt → PySem.Expr
  | .For _ t _ _ _ => t
  | _ => .Constant .none 0 ⟨0, 0, 0, 0⟩
def lbOf : Stmt → List Stmt
  | .For _ _ b _ _ => b
  | _ => []
def leOf : Stmt → List Stmt
  | .For _ _ _ b _ => b
  | _ => []
def fpOf : Stmt → Pos
  | .For _ _ _ _ p => p
  | _ => ⟨0, 0, 0, 0⟩
theorem forP_eq : forP = .For (tgOf forP) (itOf forP) (lbOf forP) (leOf forP) (fpOf forP) := rfl
def muP (x fS : Addr) (k : Option (List UInt8)) (a : Addr) (vs : List (List UInt8)) : Mu := lk [("f", .val (.raw (.ref x))), ("k", .val (optB k)), ("v", .own a (vs.map D.bytes)), ("eof", .val (.bool false)), ("_strip_last_newline", .val (.raw (.ref fS)))]
theorem joinB_nil : ∀ vs : List (List UInt8), joinB [] vs = vs.flatten
  | [] => rfl
  | [p] => by simp [joinB]
  | p :: q :: ps => by rw [joinB, joinB_nil (q :: ps)]; simp
theorem pmGo_cont {k : Option (List UInt8)} {vs ls : List (List UInt8)} {ln : List UInt8} (h : ln.head? = some 32) : pmGo k vs (ln :: ls) = pmGo k (vs ++ [ln.drop 1]) ls := by
  rw [pmGo, if_pos h]
theorem pmGo_blank {k : Option (List UInt8)} {vs ls : List (List UInt8)} {ln : List UInt8} (h : ln.head? ≠ some 32) (h2 : ln = [10]) : pmGo k vs (ln :: ls) = (rowOf k vs ++ [.fin (some ls.flatten)], false) := by
  rw [pmGo, if_neg h, if_pos h2]
theorem pmGo_row {k : Option (List UInt8)} {vs ls : List (List UInt8)} {ln a b : List UInt8} (h : ln.head? ≠ some 32) (h2 : ln ≠ [10]) (h3 : splitOnceB 32 ln = [a, b]) : pmGo k vs (ln :: ls) = (rowOf k vs ++ (pmGo (some a) [b] ls).1, (pmGo (some a) [b] ls).2) := by
  rw [pmGo, if_neg h, if_neg h2, h3]
theorem pmGo_bad {k : Option (List UInt8)} {vs ls : List (List UInt8)} {ln : List UInt8} (h : ln.head? ≠ some 32) (h2 : ln ≠ [10]) (h3 : splitOnceB 32 ln = [ln]) : pmGo k vs (ln :: ls) = (rowOf k vs, true) := by
  rw [pmGo, if_neg h, if_neg h2, h3]
def rowD (k : Option (List UInt8)) (vs : List (List UInt8)) : Option D := k.map fun kk => (It.row kk (strip (joinB [] vs))).d
theorem rowD_list (k : Option (List UInt8)) (vs : List (List UInt8)) : (rowD k vs).toList.length = (rowOf k vs).length := by cases k <;> rfl
theorem rowD_at {pre tl items : List It} {k : Option (List UInt8)} {vs : List (List UInt8)} (h : items = pre ++ (rowOf k vs ++ tl)) : ∀ d, rowD k vs = some d → (items.map It.d)[(items.map It.d).length - 1 - tl.length]? = some d := by
  intro d hd
  cases k with
  | none => cases hd
  | some kk =>
    cases hd
    subst h
    simp only [rowOf, List.map_append, List.map_cons, List.map_nil, List.length_append, List.length_map, List.length_cons, List.length_nil]
    rw [List.getElem?_append_right (by rw [List.length_map]; omega), List.length_map]
    have e : pre.length + (0 + 1 + tl.length) - 1 - tl.length - pre.length = 0 := by omega
    rw [e]; rfl
theorem splitOnce_cases (l : List UInt8) : splitOnceB 32 l = [l] ∨ ∃ i, idxB 32 l = some i ∧ splitOnceB 32 l = [l.take i, l.drop (i + 1)] := by
  unfold splitOnceB
  cases h : idxB 32 l with
  | none => exact .inl rfl
  | some i => exact .inr ⟨i, rfl, rfl⟩
section
variable {prog : Program} {w : World} {mg mb : Str → Option Value}
theorem J_rowD {c : Cx} {fS a : Addr} {qual : Str} {k : Option (List UInt8)} {vs : List (List UInt8)} {p1 p2 p3 p4 p5 p6 p7 : Pos} {k1 k2 : Nat} (T : Top1 c.w mg mb c.s₀.heap) (hr : Room c.A 1) (SH : StripH c.s₀.heap c.H qual fS) (hk : c.μ "k" = some (.val (optB k))) (hv : c.μ "v" = some (.own a (vs.map D.bytes))) (hf : c.μ "_strip_last_newline" = some (.val (.raw (.ref fS))))
    (hvb : (joinB [] vs).length ≤ 100000)
    (hs : starEach [.Name "k" p1, .Call (.Name "_strip_last_newline" p2) [.Call (.Attribute (.Constant (.bytes []) k1 p3) "join" p4) [.Name "v" p5] [] p6] [] p7] c.env = [(false, eval (.Name "k" p1) c.env), (false, eval (.Call (.Name "_strip_last_newline" p2) [.Call (.Attribute (.Constant (.bytes []) k1 p3) "join" p4) [.Name "v" p5] [] p6] [] p7) c.env)] := by rfl)
    (h1 : c.sc.kind = .function := by rfl) (h2 : c.env.kindOf "k" = some .local := by rfl) (h3 : c.env.kindOf "v" = some .local := by rfl) (h4 : c.env.kindOf "_strip_last_newline" = some .local := by rfl)
    (h5 : attributeBase (.Constant (.bytes []) k1 p3) "join" c.env (eval (.Constant (.bytes []) k1 p3) c.env) = eval (.Constant (.bytes []) k1 p3) c.env := by rfl) (h6 : starEach [.Name "v" p5] c.env = [(false, eval (.Name "v" p5) c.env)] := by rfl) (h7 : (p4.endLine == p6.line) = true := by rfl)
    (h8 : starEach [.Call (.Attribute (.Constant (.bytes []) k1 p3) "join" p4) [.Name "v" p5] [] p6] c.env = [(false, eval (.Call (.Attribute (.Constant (.bytes []) k1 p3) "join" p4) [.Name "v" p5] [] p6) c.env)] := by rfl) {tp : Pos} :
    ∀ d, rowD k vs = some d → J c (.Tuple [.Name "k" p1, .Call (.Name "_strip_last_newline" p2) [.Call (.Attribute (.Constant (.bytes []) k1 p3) "join" p4) [.Name "v" p5] [] p6] [] p7] k2 tp) d := by
  intro d hd
  cases k with
  | none => cases hd
  | some kk =>
    cases hd
    refine J_tuple (ds := [.bytes kk, .bytes (strip (joinB [] vs))]) ?_ (by simp)
    rw [hs]
    exact JS.cons (J_name hk h1 h2 (by decide)) (JS.cons (J_strip T hr SH hf (J_joinT J_bytes (JT_own hv h1 h3 (by decide)) (by omega) h5 h6 h7) (by omega) h1 h4 (by decide) h8) JS.nil)
theorem JB_rowK {c : Cx} {k : Option (List UInt8)} {vs : List (List UInt8)} {p1 p2 p3 : Pos} {k1 : Nat} (hk : c.μ "k" = some (.val (optB k))) (h1 : c.sc.kind = .function := by rfl) (h2 : c.env.kindOf "k" = some .local := by rfl) : JB c (.Compare (.Name "k" p1) [.IsNot] [.Constant .none k1 p2] p3) (rowD k vs).isSome := by
  cases k with
  | none => exact JB_cmp (J.top (J_name hk h1 h2 (by decide))) (J.top J_none) Cmp_isNotNone
  | some kk => exact JB_cmp (J.top (J_name hk h1 h2 (by decide))) (J.top J_none) Cmp_isNotNoneB
end
end Mine
end
section
open PySem PySem.W PyProof.Rows PySem.Calls
set_option Elab.async false
set_option linter.unusedVariables false
set_option maxRecDepth 100000
set_option maxHeartbeats 1000000
namespace Mine
section
variable {prog : Program} {w : World} {mg mb : Str → Option Value}
theorem StripH.cx {h₀ : Heap} {H : List (Addr × Obj)} {qual : Str} {f : Addr} (x : StripH h₀ H qual f) {H' : List (Addr × Obj)} (e : H' = H) : StripH h₀ H' qual f := e ▸ x
/-- one turn of the loop -/
theorem pm_turn {A A' : Around} {s₀ : Shared} {L top z N g : Nat} {W W₀ Wc : List Addr} {HH : List (Addr × Obj)} {V : List (Value × D)} {GG : List (Nat × GenState)} {s₁ : Shared} {R : GenEnd} {lc : Code} {fs' : List Frame} {K' : KF} {H' : HF} {x fS a : Addr} {qual : Str}
    {k : Option (List UInt8)} {vs ls : List (List UInt8)} {ln : List UInt8} {pre items : List It} {m : Nat} {Fs : List Addr}
    (T : Top1 w mg mb s₀.heap) (hr : Room A' 1) (S : Sp (cxP prog w A' s₀ L top z N W HH V GG (upd (muP x fS k a vs) "line" (some (.val (.bytes ln)))) s₁) A lc fs')
    (Sd : Side (cxP prog w A' s₀ L top z N W HH V GG (upd (muP x fS k a vs) "line" (some (.val (.bytes ln)))) s₁) Wc g N) (hW : ∀ b ∈ W₀, b ∈ W) (SH : StripH s₀.heap HH qual fS) (hP : ∀ f ∈ Fs, f < N ∧ f ≠ z ∧ f ≠ L) (hN : Nfs Fs s₁.heap)
    (hvl : vs.length ≤ 900) (hvb : (joinB [] vs).length ≤ 100000) (hln : ln.length ≤ 100000) (hits : items = pre ++ (pmGo k vs (ln :: ls)).1) (hm : m = (pmGo k vs (ln :: ls)).1.length)
    (nextE : ∀ k' vs' a' W' s₁' pre', (∀ b ∈ W, b ∈ W') → Nfs Fs s₁'.heap → items = pre' ++ (pmGo k' vs' ls).1 → (pmGo k' vs' ls).2 = (pmGo k vs (ln :: ls)).2 → vs'.length ≤ vs.length + 1 → (joinB [] vs').length ≤ (joinB [] vs).length + ln.length →
      ∀ s, Ext s₀ s₁' → FrD (cxP prog w A' s₀ L top z N W' HH V GG (muP x fS k' a' vs') s₁') s → Seg (model prog w) A R (YP Wc W₀ L z N g (items.map It.d)) (pmGo k' vs' ls).1.length s₁' lc (K' .next) fs' s)
    (brkE : ∀ s₁', (pmGo k vs (ln :: ls)).2 = false → items[items.length - 1]? = some (.fin (some ls.flatten)) → ∀ s, Ext s₀ s₁' → FrD (cxP prog w A' s₀ L top z N W HH V GG (muP x fS k a vs) s₁') s → Seg (model prog w) A R (YP Wc W₀ L z N g (items.map It.d)) 1 s₁' lc (K' .brk) fs' s)
    (errE : ∀ s₁', (pmGo k vs (ln :: ls)).2 = true → Nfs Fs s₁'.heap → ∀ s, Ext s₀ s₁' → FrD (cxP prog w A' s₀ L top z N W HH V GG (muP x fS k a vs) s₁') s → ∀ h₁ h₂ tk e, (∀ b o, s.heap.get? b = some o → h₁.get? b = some o) → Heap.NewExc h₁ h₂ e "ValueError" →
      Seg (model prog w) A R (YP Wc W₀ L z N g (items.map It.d)) 0 s₁' lc (H' (.ref e)) fs' { s with heap := h₂, toks := tk }) :
    SB (cxP prog w A' s₀ L top z N W HH V GG (upd (muP x fS k a vs) "line" (some (.val (.bytes ln)))) s₁) A R (YP Wc W₀ L z N g (items.map It.d)) m lc fs' K' H' (lbOf forP) := by
  have hh : A'.handled = none := hr.hh
  refine SB.if_ (b := ln.head? == some 32) S (JB_plain (J.top (J_starts (J_name rfl) J_bytes)) (.bool _)) (fun h => ?_) (fun h => ?_)
  · -- a further row
    have h1 : ln.head? = some 32 := eq_of_beq h
    have ep := pmGo_cont (k := k) (vs := vs) (ls := ls) h1
    rw [ep] at hits hm nextE brkE errE
    refine SB.append (a := a) (ds := vs.map D.bytes) (d := .bytes (ln.drop 1)) S rfl ?_ ?_ (by rw [List.length_map]; omega)
    · exact J.cast (J_cutB (J_name rfl) (.some J_int) .none (by omega)) (congrArg D.bytes (cut_from ln 1))
    · refine SB.done (rest := []) (SB.nil fun s e F => ?_)
      subst hm
      refine nextE k (vs ++ [ln.drop 1]) a W s₁ pre (fun _ h => h) hN hits rfl (by simp) ?_ s e (F.weaken (weak_of ⟨rfl, rfl, ?_, rfl, rfl, trivial⟩))
      · rw [joinB_nil, joinB_nil]; simp
      · show some (Ent.own a (vs.map D.bytes ++ [.bytes (ln.drop 1)])) = some (.own a ((vs ++ [ln.drop 1]).map D.bytes))
        rw [List.map_append]; rfl
  · have h1 : ln.head? ≠ some 32 := fun q => by rw [q] at h; cases h
    by_cases h2 : ln = [10]
    · -- the empty row
      have ep := pmGo_blank (k := k) (vs := vs) (ls := ls) h1 h2
      rw [ep] at hits hm brkE
      refine SB.ifRow (n := 1) (r := rowD k vs) S Sd (JB_rowK rfl) (J_rowD T hr SH rfl rfl rfl hvb) (rowD_at (tl := [.fin (some ls.flatten)]) hits) (by rw [hm, rowD_list]; simp; omega) hW hP hN fun s₂ hN2 => ?_
      refine SB.if_ (b := ln == [10]) S.re (JB_cmp (J.top (J_name rfl)) (J.top J_bytes) Cmp_eqB) (fun _ => ?_) (fun h => ?_)
      · refine SB.brk S.re fun s e F => ?_
        refine brkE s₂ rfl ?_ s e (F.weaken (weak_of ⟨rfl, rfl, rfl, rfl, rfl, trivial⟩))
        rw [hits, ← List.append_assoc, List.length_append]
        rw [List.getElem?_append_right (by simp)]
        simp
      · rw [h2] at h; cases h
    · rcases splitOnce_cases ln with h3 | ⟨i, hi, h3⟩
      · -- no space
        have ep := pmGo_bad (k := k) (vs := vs) (ls := ls) h1 h2 h3
        rw [ep] at hits hm errE
        refine SB.ifRow (n := 0) (r := rowD k vs) S Sd (JB_rowK rfl) (J_rowD T hr SH rfl rfl rfl hvb) (rowD_at (tl := []) (by rw [List.append_nil]; exact hits)) (by rw [hm, rowD_list]; simp) hW hP hN fun s₂ hN2 => ?_
        refine SB.if_ (b := ln == [10]) S.re (JB_cmp (J.top (J_name rfl)) (J.top J_bytes) Cmp_eqB) (fun h => absurd (eq_of_beq h) h2) (fun _ => SB.done ?_)
        refine SB.plain S.re fun e => Blk.stmt fun s F => Assign_Tuple (wpAny_mono ((J_split1 (a := 32) (J_name rfl) J_bytes J_int (by omega)).run s _ F) (fun v s' ⟨e1, x1⟩ => ?_) fun _ _ y => y) rfl rfl
        rw [h3] at x1
        rw [PyProof.Rows.assign_Tuple]
        refine wpAny_bind (wpAny_standAt ?_)
        refine wpAny_bind (m := holding [v] (unpackItems v 2 none)) (wpAny_holding (unpack_few hh (F.go e1) x1.top fun h₁ h₂ tk e' hk hx => ?_))
        exact errE s₂ rfl hN2 s' e ((F.go e1).weaken (weak_of ⟨rfl, rfl, rfl, rfl, rfl, trivial⟩)) h₁ h₂ tk e' hk hx
      · -- a header
        have ep := pmGo_row (k := k) (vs := vs) (ls := ls) h1 h2 h3
        rw [ep] at hits hm nextE
        refine SB.ifRow (n := (pmGo (some (ln.take i)) [ln.drop (i + 1)] ls).1.length) (r := rowD k vs) S Sd (JB_rowK rfl) (J_rowD T hr SH rfl rfl rfl hvb) (rowD_at hits) (by rw [hm, rowD_list]; simp; omega) hW hP hN fun s₂ hN2 => ?_
        refine SB.if_ (b := ln == [10]) S.re (JB_cmp (J.top (J_name rfl)) (J.top J_bytes) Cmp_eqB) (fun h => absurd (eq_of_beq h) h2) (fun _ => SB.done ?_)
        refine SB.assignPairL (d1 := .bytes (ln.take i)) (d2 := .bytes (ln.drop (i + 1))) S.re hh ?_ ?_
        · refine J.cast (J_split1 (a := 32) (J_name rfl) J_bytes J_int (by omega)) ?_
          rw [h3]; rfl
        · refine SB.assignOwn (ds := [.bytes (ln.drop (i + 1))]) S.re (JS.cons (J_name rfl) JS.nil) (fun a' ha' => SB.done (rest := []) (SB.nil fun s e F => ?_)) (by simp)
          refine nextE (some (ln.take i)) [ln.drop (i + 1)] a' (a' :: W) s₂ (pre ++ rowOf k vs) (fun _ h => .tail _ h) hN2 (by rw [hits, List.append_assoc]) rfl (by simp) ?_ s e (F.weaken (weak_of ⟨rfl, rfl, rfl, rfl, rfl, trivial⟩))
          rw [joinB_nil [ln.drop (i + 1)]]; simp; omega
end
end Mine
end
section
open PySem PySem.W PyProof.Rows PySem.Calls
set_option Elab.async false
set_option linter.unusedVariables false
set_option maxRecDepth 100000
set_option maxHeartbeats 1000000
namespace Mine
theorem RdF.re {c c' : Cx} {r : Rad} {ls : List (List UInt8)} {t : List UInt8} {og oL : Obj} {es : List DictEntry} {n : Nat} {gs : GenState} {H0 : List (Addr × Obj)} {G0 : List (Nat × GenState)} (R : RdF c r ls t og oL es n gs H0 G0)
    (h1 : c'.H = c.H := by rfl) (h2 : c'.G = c.G := by rfl) (h3 : c'.prog = c.prog := by rfl) (h4 : c'.w = c.w := by rfl) (h5 : c'.A = c.A := by rfl) (h6 : c'.s₀ = c.s₀ := by rfl) : RdF c' r ls t og oL es n gs H0 G0 :=
  ⟨h1.trans R.H, h2.trans R.G, R.gen, R.ns, R.buf, by rw [h3, h4, h5, h6]; exact R.rdr⟩
theorem firstL_len (t : List UInt8) : (firstL t).length ≤ t.length := by
  unfold firstL
  cases idxB 10 t with
  | none => exact Nat.le_refl _
  | some i => simp; omega
theorem firstL_pos {t : List UInt8} (h : t ≠ []) : 0 < (firstL t).length := by
  unfold firstL
  cases hi : idxB 10 t with
  | none => exact List.length_pos_iff.mpr h
  | some i => have := idxB_lt _ hi; simp; omega
section
variable {prog : Program} {w : World} {mg mb : Str → Option Value}
/-- the environment of the frame -/
noncomputable abbrev envP (w : World) (L : Addr) : Env := envOf (naOf (stNo 5)) (scOf (stNo 5)) L 93 (fdOf w.params 93).code
/-- the loop of _parse_message, from any turn on -/
theorem pm_loop {A A' : Around} {s₀ : Shared} {L top z N g : Nat} {W₀ Wc : List Addr} {H0 : List (Addr × Obj)} {V : List (Value × D)} {G0 : List (Nat × GenState)} {R : GenEnd} {code : Code} {Kf : KF} {H : HF} {p : Pos} {r : Rad} {og : Obj} {fS : Addr} {qual : Str} {items : List It} {ls0 : List (List UInt8)} {Fs : List Addr} {refused : Bool}
    (T : Top1 w mg mb s₀.heap) (hr : Room A' 2) (hA : A' = A.over code []) (O : r.Ok H0) (hg2 : s₀.gens.size ≤ r.g2) (hG0 : ∀ p ∈ G0, p.1 ≠ r.g2 ∧ p.1 ≠ g) (hgg : r.g2 ≠ g) (SH : StripH s₀.heap H0 qual fS) (hP : ∀ f ∈ Fs, f < N ∧ f ≠ z ∧ f ≠ L)
    (Sd : ∀ W HH GG μ s₁, (∀ b ∈ Wc, b ∈ W) → (∀ p ∈ GG, p.1 ≠ g) → Side (cxP prog w A' s₀ L top z N W HH V GG μ s₁) Wc g N)
    (after : refused = false → ∀ (eof : Bool) b W es m GG μ s₁' s, Ext s₀ s₁' → (∀ a ∈ W₀, a ∈ W) → (∀ a ∈ Wc, a ∈ W) → (∀ p ∈ GG, p.1 ≠ g) → IsBuf es b → b.length ≤ 100000 → μ "f" = some (.val (.raw (.ref r.x))) → μ "eof" = some (.val (.bool eof)) → (eof = false → items[items.length - 1]? = some (.fin (some b))) →
      FrD (cxP prog w A' s₀ L top z N W ((r.dx, dictOf es m) :: (r.x, instObj 75 r.dx) :: H0) V GG μ s₁') s → Seg (model prog w) A R (YP Wc W₀ L z N g (items.map It.d)) (if eof = true then 0 else 1) s₁' code (Kf .next) [] s)
    (err : refused = true → ∀ W HH GG μ s₁' s, (∀ b ∈ Wc, b ∈ W) → (∀ p ∈ GG, p.1 ≠ g) → Nfs Fs s₁'.heap → Ext s₀ s₁' → FrD (cxP prog w A' s₀ L top z N W HH V GG μ s₁') s → ∀ h₁ h₂ tk e, (∀ b o, s.heap.get? b = some o → h₁.get? b = some o) → Heap.NewExc h₁ h₂ e "ValueError" →
      Seg (model prog w) A R (YP Wc W₀ L z N g (items.map It.d)) 0 s₁' (.forLoop (tgOf forP) (.ref r.ga) (lbOf forP) (leOf forP) (envP w L)) (passH (envP w L) (.ref e)) [loopF (envP w L) Kf H code p] { s with heap := h₂, toks := tk }) :
    ∀ (j : Nat) (t : List UInt8) (k : Option (List UInt8)) (vs : List (List UInt8)) (W : List Addr) (a : Addr) (es : List DictEntry) (n : Nat) (oL : Obj) (gs : GenState) (s₁ s : Shared) (pre : List It), (linesB t).length = j →
      RdF (cxP prog w A' s₀ L top z N W (r.H og oL es n H0) V ((r.g2, gs) :: G0) (muP r.x fS k a vs) s₁) r ls0 t og oL es n gs H0 G0 → Ext s₀ s₁ → FrD (cxP prog w A' s₀ L top z N W (r.H og oL es n H0) V ((r.g2, gs) :: G0) (muP r.x fS k a vs) s₁) s →
      (∀ b ∈ W₀, b ∈ W) → (∀ b ∈ Wc, b ∈ W) → Nfs Fs s₁.heap → vs.length + (linesB t).length ≤ 900 → (joinB [] vs).length + t.length ≤ 100000 → items = pre ++ (pmGo k vs (linesB t)).1 → (pmGo k vs (linesB t)).2 = refused →
      Seg (model prog w) A R (YP Wc W₀ L z N g (items.map It.d)) (pmGo k vs (linesB t)).1.length s₁ (.forLoop (tgOf forP) (.ref r.ga) (lbOf forP) (leOf forP) (envP w L)) ((model prog w).den (.forLoop (tgOf forP) (.ref r.ga) (lbOf forP) (leOf forP) (envP w L))) [loopF (envP w L) Kf H code p] s := by
  intro j
  induction j with
  | zero =>
    intro t k vs W a es n oL gs s₁ s pre hj RD e0 F hW0 hWc hN hb1 hb2 hits href
    have ht : t = [] := by
      cases t with
      | nil => rfl
      | cons y r => rw [linesB_first (by simp)] at hj; simp at hj
    subst ht
    refine seg_forLoop ?_
    refine wp_cast ((over_push A).trans hA.symm) ?_
    refine next_reader RD O T F (hr.le (by omega)) hg2 (fun p hp => (hG0 p hp).1) (fun ht => absurd rfl ht) (fun _ s' oL' es' n' B' F' => ?_)
    refine seg_block ?_
    have hG : ∀ p ∈ (r.g2, GenState.finished) :: G0, p.1 ≠ g := fun p hp => by
      rcases List.mem_cons.mp hp with rfl | hp
      · exact hgg
      · exact (hG0 p hp).2
    have S : ∀ {cc : Cx} {b : List Stmt}, cc.A = A' → Sp cc A (.block b (envP w L)) [loopF (envP w L) Kf H code p] := fun h => ⟨(h.trans hA).trans (over_push A).symm, rfl, rfl⟩
    have SH' : StripH s₀.heap (r.H og oL' es' n' H0) qual fS := SH.sub fun p hp => .tail _ (.tail _ (.tail _ (.tail _ hp)))
    have hits' : items = pre ++ (rowOf k vs ++ [.fin none]) := hits
    have hlen : (pmGo k vs (linesB [])).1.length = 1 + (rowD k vs).toList.length := by
      rw [rowD_list]
      show (rowOf k vs ++ [It.fin none]).length = _
      simp; omega
    have body : SB (cxP prog w A' s₀ L top z N W (r.H og oL' es' n' H0) V ((r.g2, .finished) :: G0) (muP r.x fS k a vs) s₁) A R (YP Wc W₀ L z N g (items.map It.d)) (pmGo k vs (linesB [])).1.length (.block (leOf forP) (envP w L)) [loopF (envP w L) Kf H code p] (fun f => .pure (.done f)) (passH (envP w L)) (leOf forP) := by
      refine SB.assign (d := .bool true) (S rfl) J_bool ?_
      refine SB.ifRow (n := 1) (r := rowD k vs) (Fs := Fs) (S rfl) (Sd _ _ _ _ _ hWc hG) (JB_rowK rfl) (J_rowD T (hr.le (by omega)) SH' rfl rfl rfl (by omega)) (rowD_at (tl := [.fin none]) hits') hlen hW0 hP hN fun s₂ hN2 => ?_
      refine SB.yieldF (d := .tuple [.none, .none]) (Fs := Fs) (S rfl) (Sd _ _ _ _ _ hWc hG) (J_tuple (JS.cons J_none (JS.cons J_none JS.nil))) ?_ hW0 hP hN2 fun s₃ hN3 => SB.nil fun s₄ e4 F4 => ?_
      · rw [hits', ← List.append_assoc, List.map_append, List.length_append]
        rw [List.getElem?_append_right (by simp)]
        simp; rfl
      · refine seg_done ?_
        exact after href.symm true [] W es' n' _ _ s₃ s₄ e4 hW0 hWc hG B' (by simp) rfl rfl (fun h => nomatch h) (F4.dropH (H := (r.dx, dictOf es' n') :: (r.x, instObj 75 r.dx) :: H0) fun p hp => .tail _ (.tail _ hp))
    exact body.run s' e0 F'
  | succ j ih =>
    intro t k vs W a es n oL gs s₁ s pre hj RD e0 F hW0 hWc hN hb1 hb2 hits href
    have ht : t ≠ [] := by
      rintro rfl
      simp [linesB] at hj
    have hlb := linesB_first ht
    have hfl := firstL_len t
    refine seg_forLoop ?_
    refine wp_cast ((over_push A).trans hA.symm) ?_
    refine next_reader RD O T F (hr.le (by omega)) hg2 (fun p hp => (hG0 p hp).1) (fun _ tk s' oL' es' n' gs' RD' F' => ?_) (fun h => absurd h ht)
    refine wp_cast ((over_push A).trans hA.symm) (wpAny_of_eq (a := ()) rfl ?_)
    refine wp_cast ((over_push A).trans hA.symm) ?_
    refine assignD (c := cxP prog w A' s₀ L top z N W (r.H og oL' es' n' H0) V ((r.g2, gs') :: G0) (muP r.x fS k a vs) s₁) (d := .bytes (firstL t)) F' (.bytes _ tk) (fun s₂ _ F2 => ?_) rfl rfl
    have hG : ∀ p ∈ (r.g2, gs') :: G0, p.1 ≠ g := fun p hp => by
      rcases List.mem_cons.mp hp with rfl | hp
      · exact hgg
      · exact (hG0 p hp).2
    have SH' : StripH s₀.heap (r.H og oL' es' n' H0) qual fS := SH.sub fun p hp => .tail _ (.tail _ (.tail _ (.tail _ hp)))
    generalize hls : linesB (t.drop (firstL t).length) = ls at hlb
    have hlen : (linesB t).length = ls.length + 1 := by rw [hlb]; rfl
    have htd : (t.drop (firstL t).length).length + (firstL t).length = t.length := by simp; omega
    have hfl2 : ls.flatten = t.drop (firstL t).length := by rw [← hls, linesB_flat]
    rw [hlb] at hits href ⊢
    refine (pm_turn (Fs := Fs) (pre := pre) (ls := ls) T (hr.le (by omega)) ⟨hA.trans (over_push A).symm, rfl, rfl⟩ (Sd _ _ _ _ _ hWc hG) hW0 SH' hP hN (by omega) (by omega) (by omega) hits rfl ?_ ?_ ?_).run s₂ e0 F2
    · intro k' vs' a' W' s₁' pre' hW' hN' hits' href' hv1 hv2 s₃ e3 F3
      refine seg_again rfl ?_
      rw [← hls]
      exact ih (t.drop (firstL t).length) k' vs' W' a' es' n' oL' gs' s₁' s₃ pre' (by rw [hls]; omega) RD'.re e3 F3 (fun b hb => hW' b (hW0 b hb)) (fun b hb => hW' b (hWc b hb)) hN' (by rw [hls]; omega) (by omega) (by rw [hls]; exact hits') (by rw [hls]; exact href'.trans href)
    · intro s₁' hnr hlast s₃ e3 F3
      refine seg_done ?_
      exact after (href.symm.trans hnr) false (t.drop (firstL t).length) W es' n' _ _ s₁' s₃ e3 hW0 hWc hG RD'.buf (by omega) rfl rfl (fun _ => by rw [← hfl2]; exact hlast) (F3.dropH (H := (r.dx, dictOf es' n') :: (r.x, instObj 75 r.dx) :: H0) fun p hp => .tail _ (.tail _ hp))
    · intro s₁' hr2 hN' s₃ e3 F3 h₁ h₂ tk e hk hx
      exact err (href.symm.trans hr2) W _ _ _ s₁' s₃ hWc hG hN' e3 F3 h₁ h₂ tk e hk hx
end
end Mine
end
section
open PySem PySem.W PyProof.Rows PySem.Calls
set_option Elab.async false
set_option linter.unusedVariables false
set_option maxRecDepth 100000
set_option maxHeartbeats 1000000
namespace Mine
/-- an exception in flight, noted -/
structure Trc (base : Heap) (l : List Env) (e : Addr) (cls a0 fl : Value) (h : Heap) : Prop where
  stay : base.StaysIn h
  new : base.get? e = none
  fr : h.FunFrames base l
  at_ : h.TracedAtW base e cls a0 fl
theorem Trc.there {base h : Heap} {l : List Env} {e : Addr} {cls a0 fl : Value} (x : Trc base l e cls a0 fl h) : ∃ ob, h.get? e = some ob ∧ ob.cls = cls := x.at_.there
theorem FunFrames.tail {base h : Heap} {env : Env} {l : List Env} (x : h.FunFrames base (env :: l)) : h.FunFrames base l := x.2.2
theorem Trc.tail {base h : Heap} {env : Env} {l : List Env} {e : Addr} {cls a0 fl : Value} (x : Trc base (env :: l) e cls a0 fl h) : Trc base l e cls a0 fl h := ⟨x.stay, x.new, x.fr.2.2, x.at_⟩
section
variable {M : Model} {A : Around} {E : Value → Shared → Prop} {s : Shared} {base : Heap} {l outer : List Env} {env : Env} {e L : Addr} {cls a0 fl : Value} {Q : Unit → Shared → Prop}
theorem trc_set {fr : Option Addr} (R : Trc base l e cls a0 fl s.heap) (h : ∀ h', Trc base l e cls a0 (fr.elim Value.none fun f => rawInt f) h' → s.heap.UpToSlots h' → Q () { s with heap := h' }) : wpAny M A (setFlight (.ref e) fr) Q E s := by
  obtain ⟨hkb, hen, hl, oe, vs, T, oT, ts, he, hcls, hd, h1, hnT, hTe, hT, hdT, h3⟩ := R
  have hsz3 : 3 < ts.size := (Array.getElem?_eq_some_iff.mp h3).1
  have other : ∀ b, b ≠ T → (s.heap.update T (Obj.mapFields (·.setIfInBounds 3 (fr.elim Value.none fun f => rawInt f)))).get? b = s.heap.get? b := fun b hb => Heap.get?_update_other _ _ (Ne.symm hb)
  have noRecord : ∀ b o, s.heap.get? b = some o → (∀ vs, o.data ≠ .fields vs) → b ≠ T := fun b o hb hnf q => by
    rw [q, hT] at hb; injection hb with hb; subst hb; exact hnf ts hdT
  unfold setFlight
  refine wpAny_bind (wpAny_field he hd h1 ?_)
  rw [if_pos (show (Value.ref T != Value.none) = true from by simp)]
  refine wpAny_setField hT hdT hsz3 (h _ ⟨fun b o hbo => (other b fun q => by rw [q, hnT] at hbo; cases hbo).trans (hkb b o hbo), hen,
    hl.of_keeps fun b o hb hnf => ⟨o, (other b (noRecord b o hb hnf)).trans hb, rfl⟩, ?_⟩ fun b o hb hnf => ⟨o.slots, (other b (noRecord b o hb hnf)).trans hb⟩)
  exact ⟨oe, vs, T, _, _, (other e (Ne.symm hTe)).trans he, hcls, hd, h1, hnT, hTe, Heap.get?_update_self _ hT (Obj.isFreed_of_fields (Obj.data_mapFields hdT _)), Obj.data_mapFields hdT _, by simp [hsz3]⟩
/-- an exception just made, noted for the first time -/
theorem trc_first {oe : Obj} {vs : Array Value} (hfr : A.frames = some (env :: outer)) (hf : env.frame = some L) (hl : s.heap.FunFrames base (env :: outer)) (hkb : base.StaysIn s.heap) (hen : base.get? e = none) (he : s.heap.get? e = some oe) (hc : oe.cls = cls) (hd : oe.data = .fields vs) (h1 : vs[1]? = some .none) (h0 : vs[0]? = some a0)
    (h : ∀ h', Trc base (env :: outer) e cls a0 (rawInt L) h' → s.heap.UpToSlots h' → Q () { s with heap := h' }) : wpAny M A (noteFrame (.ref e) env) Q E s := by
  subst hc
  unfold noteFrame
  simp only [hf]
  refine wpAny_bind (wpAny_field he hd h1 ?_)
  rw [if_neg (by decide)]
  refine wpAny_entryW hfr hl hf he hkb hen hd (Array.getElem?_eq_some_iff.mp h1).1 h0 fun h' hN => ?_
  obtain ⟨k1, k2, k3, k4⟩ := hN
  exact h h' ⟨k1, hen, k2, k3⟩ k4
theorem trc_again (hf : env.frame = some L) (R : Trc base l e cls a0 (rawInt L) s.heap) (h : Q () s) : wpAny M A (noteFrame (.ref e) env) Q E s := wpAny_noteFrame_againW hf R.at_ h
/-- noted in the next frame -/
theorem trc_on (hfr : A.frames = some (env :: outer)) (hf : env.frame = some L) (R : Trc base (env :: outer) e cls a0 .none s.heap) (h : ∀ h', Trc base (env :: outer) e cls a0 (rawInt L) h' → s.heap.UpToSlots h' → Q () { s with heap := h' }) : wpAny M A (noteFrame (.ref e) env) Q E s :=
  wpAny_looks_onW hfr hf ⟨R.stay, R.new, R.fr, R.at_⟩ fun h' hh hs => h h' ⟨hh.1, hh.2.1, hh.2.2.1, hh.2.2.2⟩ hs
/-- what a run of its own does with it on its way out -/
theorem trc_back {fr : Option Addr} (R : Trc base l e cls a0 fl s.heap) (h : ∀ h', Trc base l e cls a0 (fr.elim Value.none fun f => rawInt f) h' → s.heap.UpToSlots h' → Q () { s with heap := h' }) :
    wpAny M A (do
      if (← field (.ref e) 1) == .none then unsupported "frame.own-activation:exception-without-traceback"
      setFlight (.ref e) fr) Q E s := by
  obtain ⟨oe, vs, T, oT, ts, he, hcls, hd, h1, _⟩ := id R.at_
  refine wpAny_bind (wpAny_field he hd h1 ?_)
  rw [if_neg (show ¬ ((Value.ref T == Value.none) = true) from by simp)]
  exact trc_set R h
theorem trc_cameBack {E' : Value → Shared → Prop} (hf : env.frame = some L) (R : Trc base l e cls a0 fl s.heap) (h : ∀ h', Trc base l e cls a0 (rawInt L) h' → s.heap.UpToSlots h' → E' (.ref e) { s with heap := h' }) : cameBackBy M A env E' (.ref e) s := by
  unfold cameBackBy
  rw [hf]
  exact trc_back R h
end
/-- the frames below, as the exception finds them -/
theorem funFrames_of {base h : Heap} {Fs : List Addr} : ∀ {l : List Env}, (∀ env ∈ l, env.scope.kind ≠ .module ∧ ∃ f ∈ Fs, env.frame = some f) → (∀ f ∈ Fs, base.get? f = none) → Nfs Fs h → h.FunFrames base l
  | [], _, _, _ => trivial
  | env :: l, h1, h2, h3 => by
    obtain ⟨hk, f, hf, he⟩ := h1 env (.head _)
    obtain ⟨o, ho, hd⟩ := h3 f hf
    exact ⟨hk, ⟨f, o, he, h2 f hf, ho, hd⟩, funFrames_of (fun e he => h1 e (.tail _ he)) h2 h3⟩
/-- how a generator's run ends that raises -/
structure XEnd (Fs : List Addr) (outer : List Env) (L z N g : Nat) (s₁ : Shared) (e : Addr) (s' : Shared) : Prop where
  os : s'.os = s₁.os
  gens : ∀ i x, i < g → s₁.gens[i]? = some x → s'.gens[i]? = some x
  bare : AllBare s₁.gens → AllBare s'.gens
  fs : ∀ f ∈ Fs, ∀ o, s₁.heap.get? f = some o → (∀ vs, o.data ≠ .fields vs) → ∃ sl, s'.heap.get? f = some { o with slots := sl }
  fly : ∃ base a0, Trc base outer e (.type "ValueError") a0 .none s'.heap ∧ (∀ f ∈ Fs, base.get? f = none) ∧ ∀ b o, ((b < N ∧ b ≠ z ∧ b ≠ L) ∨ (o.cls = .type "tuple" ∧ ∃ i n, o.data = .seq i n)) → b ∉ Fs → s₁.heap.get? b = some o → base.get? b = some o
/-- what a frame does with an exception that leaves it -/
def leaveH (env : Env) : HF := fun e => (leaving env e).wrap (fun _ => .raise e) .raise id id
section
variable {prog : Program} {w : World} {mg mb : Str → Option Value}
theorem err_loop {A A' : Around} {s₀ : Shared} {L top z N g : Nat} {W Wc : List Addr} {HH : List (Addr × Obj)} {V : List (Value × D)} {GG : List (Nat × GenState)} {μ : Mu} {Z : Heap → Prop} {X : Shared → Addr → Shared → Prop} {Y : Protocol} {code lc : Code} {Kf : KF} {p : Pos} {Fs : List Addr} {outer : List Env} {s₁ s : Shared} {h₁ h₂ : Heap} {tk : Nat} {e : Addr}
    (hA : A' = A.over code []) (hlc : A.over lc [loopF (envP w L) Kf (leaveH (envP w L)) code p] = A.over code []) (hfr : A'.frames = some (envP w L :: outer)) (hout : ∀ env ∈ outer, env.scope.kind ≠ .module ∧ ∃ f ∈ Fs, env.frame = some f) (hP : ∀ f ∈ Fs, f < N ∧ f ≠ z ∧ f ≠ L)
    (Sd : Side (cxP prog w A' s₀ L top z N W HH V GG μ s₁) Wc g N) (hN : Nfs Fs s₁.heap) (e0 : Ext s₀ s₁) (F : FrD (cxP prog w A' s₀ L top z N W HH V GG μ s₁) s) (hk : ∀ b o, s.heap.get? b = some o → h₁.get? b = some o) (hx : Heap.NewExc h₁ h₂ e "ValueError") (hX : ∀ s₁ e s', XEnd Fs outer L z N g s₁ e s' → X s₁ e s') :
    Seg (model prog w) A (RN Z X L z N g) Y 0 s₁ lc (passH (envP w L) (.ref e)) [loopF (envP w L) Kf (leaveH (envP w L)) code p] { s with heap := h₂, toks := tk } := by
  have hN' := Nfs.now F Sd.lo hP hN
  obtain ⟨m, hm, _⟩ := F.fr
  obtain ⟨oL, es, ep, hoL, hdL, _⟩ := id hm.ns
  have k2 : ∀ b o, s.heap.get? b = some o → h₂.get? b = some o := fun b o h => hx.keeps b o (hk b o h)
  have hse : s.heap.get? e = none := by
    cases q : s.heap.get? e with
    | none => rfl
    | some o => have := hk _ _ q; rw [hx.new] at this; cases this
  obtain ⟨ob, t, hoe, hoc, hod⟩ := hx.there
  generalize hb : hideAll s.heap (L :: Fs) = base
  have hbs : ∀ b o, base.get? b = some o → s.heap.get? b = some o := fun b o h => of_hideAll _ (hb ▸ h)
  have hbn : ∀ f ∈ L :: Fs, base.get? f = none := fun f hf => hb ▸ hideAll_none _ hf
  have hbe : base.get? e = none := by
    cases q : base.get? e with
    | none => rfl
    | some o => have := hbs _ _ q; rw [hse] at this; cases this
  have hfun : h₂.FunFrames base (envP w L :: outer) := ⟨by show (scOf (stNo 5)).kind ≠ .module; decide, ⟨L, oL, rfl, hbn _ (.head _), k2 _ _ hoL, fun vs q => by rw [hdL] at q; cases q⟩,
    funFrames_of hout (fun f hf => hbn f (.tail _ hf)) fun f hf => let ⟨o, ho, hd⟩ := hN' f hf; ⟨o, k2 _ _ ho, hd⟩⟩
  have hup : s.heap.UpToSlots h₂ := .of_keeps k2
  refine seg_wrap ?_
  rw [hlc, ← hA]
  refine wpAny_bind (trc_first (s := { s with heap := h₂, toks := tk }) (a0 := t) (cls := .type "ValueError") hfr rfl hfun (fun b o h => k2 b o (hbs b o h)) hbe hoe hoc hod rfl rfl fun h₃ T3 u3 => ?_)
  refine wpAny_theTreesLotGoes ?_
  refine seg_leaf (.error (.ref e)) ?_
  show Seg _ A _ Y 0 s₁ code ((((Sem.raise (.ref e) : Sem Flow)).onRaise fun (x : Value) => do
        if (← field x 1) == Value.none then unsupported "frame.own-activation:exception-without-traceback"
        setFlight x (envP w L).frame).wrap Kf (leaveH (envP w L)) id id) [] _
  refine seg_wrap (wpAny_onRaise (wpAny_throw (trc_back (fr := (envP w L).frame) T3 fun h₄ T4 u4 => ?_)))
  show Seg _ A _ Y 0 s₁ code ((leaving (envP w L) (.ref e)).wrap (fun _ => .raise (.ref e)) .raise id id) [] _
  refine seg_wrap ?_
  unfold leaving
  refine wpAny_bind (trc_again (L := L) rfl T4 ?_)
  refine trc_set (fr := none) T4 fun h₅ T5 u5 => ?_
  have hu : s.heap.UpToSlots h₅ := ((hup.trans u3).trans u4).trans u5
  refine seg_end (.error (.ref e)) ⟨rfl, .inr ⟨e, rfl, hX _ _ _ ⟨?_, ?_, ?_, fun f hf o ho hd => ?_, base, t, T5.tail, fun f hf => hbn f (.tail _ hf), fun b o hp hbF h => ?_⟩⟩⟩
  · exact (F.kp (Wc := Wc) e0 Sd).os
  · exact (F.kp (Wc := Wc) e0 Sd).gens
  · exact (F.kp (Wc := Wc) e0 Sd).bare
  · obtain ⟨p1, p2, p3⟩ := hP f hf
    exact hu f o ((F.kp (Wc := Wc) e0 Sd).obj f o (.inl ⟨p1, p2, p3⟩) ho) hd
  · have h' := (F.kp (Wc := Wc) e0 Sd).obj b o hp h
    have hbL : b ≠ L := fun q => by
      rcases hp with ⟨_, _, h3⟩ | ⟨_, i, n, h3⟩
      · exact h3 q
      · rw [q, hoL] at h'; cases h'; rw [hdL] at h3; cases h3
    rw [← hb]
    exact hideAll_get _ h' fun hm => by
      rcases List.mem_cons.mp hm with q | hm
      · exact hbL q
      · exact hbF hm
end
end Mine
end
section
open PySem PySem.W PyProof.Rows PySem.Calls
set_option Elab.async false
set_option linter.unusedVariables false
set_option maxRecDepth 100000
set_option maxHeartbeats 1000000
namespace Mine
/-- how a generator's function ends -/
def endK : KF := fun f => .pure (.done (.ret (match f with | .ret v => v | _ => .none)))
theorem bd5_eq : (bdOf (stNo 5)).drop 5 = forP :: restP := rfl
section
variable {c : Cx} {A : Around} {R : GenEnd} {Y : Protocol} {n : Nat} {code : Code} {fs : List Frame} {K : KF} {H : HF} {b : List Stmt}
theorem SB.reH {H' : List (Addr × Obj)} (h : SB (c.hd H') A R Y n code fs K H b) (hH : ∀ p ∈ H', p ∈ c.H) : SB c A R Y n code fs K H b := .mk fun s e F => h.run s e (F.dropH hH)
end
section
variable {prog : Program} {w : World} {mg mb : Str → Option Value}
/-- the loop, and what is behind it -/
theorem pm_mid {A A' : Around} {s₀ : Shared} {L top z N g : Nat} {W W₀ Wc : List Addr} {H0 : List (Addr × Obj)} {Z : Heap → Prop} {X : Shared → Addr → Shared → Prop} {x dx fS a : Addr} {qual : Str} {es : List DictEntry} {n : Nat} {text : List UInt8} {items : List It} {Fs : List Addr} {outer : List Env} {refused : Bool} {s₁ : Shared} {μ : Mu}
    (T : Top1 w mg mb s₀.heap) (hr : Room A' 5) (hA : A' = A.over (.func (bdOf (stNo 5)) (envP w L)) []) (SH : StripH s₀.heap H0 qual fS) (hP : ∀ f ∈ Fs, f < N ∧ f ≠ z ∧ f ≠ L) (hW : ∀ b ∈ W₀, b ∈ W) (hg : s₀.gens.size = g + 1)
    (Sd : ∀ W HH GG μ s₁, (∀ b ∈ Wc, b ∈ W) → (∀ p ∈ GG, p.1 ≠ g) → Side (cxP prog w A' s₀ L top z N W HH [] GG μ s₁) Wc g N) (hWc : ∀ b ∈ Wc, b ∈ W)
    (B : IsBuf es text) (hz : text.length ≤ 800) (hxd : x ≠ dx) (hH0 : ∀ p ∈ H0, p.1 ≠ dx) (hN : Nfs Fs s₁.heap) (hμ : AllE μ [("f", .val (.raw (.ref x))), ("k", .val (optB none)), ("v", .own a []), ("eof", .val (.bool false)), ("_strip_last_newline", .val (.raw (.ref fS)))])
    (hits : (pmGo none [] (linesB text)).1 = items) (href : (pmGo none [] (linesB text)).2 = refused) (hZ : ∀ W es m GG μ s₁' s, FrD (cxP prog w A' s₀ L top z N W ((dx, dictOf es m) :: (x, instObj 75 dx) :: H0) [] GG μ s₁') s → Z s.heap)
    (hX : refused = true → (∀ s₁ e s', XEnd Fs outer L z N g s₁ e s' → X s₁ e s') ∧ A'.frames = some (envP w L :: outer) ∧ ∀ env ∈ outer, env.scope.kind ≠ .module ∧ ∃ f ∈ Fs, env.frame = some f) :
    SB (cxP prog w A' s₀ L top z N W ((dx, dictOf es n) :: (x, instObj 75 dx) :: H0) [] [] μ s₁) A (RN (fun h => refused = false ∧ Z h) X L z N g) (YP Wc W₀ L z N g (items.map It.d)) items.length (.func (bdOf (stNo 5)) (envP w L)) [] endK (leaveH (envP w L)) (forP :: restP) := .mk fun s e0 F => by
  refine seg_execs_cons ?_
  refine seg_For ?_ (fun _ => rfl)
  refine wp_cast hA.symm ?_
  refine raw_name F (nm := "f") (v := .ref x) (c := cxP prog w A' s₀ L top z N W ((dx, dictOf es n) :: (x, instObj 75 dx) :: H0) [] [] μ s₁) hμ.1 ?_ rfl rfl (by decide)
  refine wp_cast hA.symm ?_
  refine iter_reader T hr F rfl B (by omega) hxd hH0 fun r og oL gs s' hdx hx O hg2 hGn hga hL2 RD F' p => ?_
  subst hdx hx
  have hrg : r.g2 ≠ g := fun q => by
    have : s₀.gens.size ≤ r.g2 := hg2
    omega
  have F2 : FrD (cxP prog w A' s₀ L top z N (r.ga :: r.L2 :: W) (r.H og oL es n H0) [] ((r.g2, gs) :: []) (muP r.x fS none a []) s₁) s' := F'.weaken (weak_of ⟨hμ.1, hμ.2.1, hμ.2.2.1, hμ.2.2.2.1, hμ.2.2.2.2.1, trivial⟩)
  have key := pm_loop (Kf := fun f => match f with | .next => (execs restP (envP w L)).wrap endK (leaveH (envP w L)) id id | f => endK f) (H := leaveH (envP w L)) (p := p) (R := RN (fun h => refused = false ∧ Z h) X L z N g) (G0 := []) (items := items) (refused := refused) (Fs := Fs) (W₀ := W₀) (Wc := Wc) (ls0 := linesB text) T (hr.le (by omega)) hA O hg2 (fun p hp => nomatch hp) hrg SH hP Sd ?_ ?_ (linesB text).length text none [] (r.ga :: r.L2 :: W) a es n oL gs s₁ s' [] rfl RD.re e0 F2 (fun b hb => .tail _ (.tail _ (hW b hb))) (fun b hb => .tail _ (.tail _ (hWc b hb))) hN ?_ ?_ hits.symm href
  · rw [hits] at key
    exact key
  · intro hnr eof b W1 es1 m1 GG μ1 s₂ s₃ e2 hw0 hwc hGG B1 hb1 hf1 he1 hlast F3
    have := (pm_rest (its := items.map It.d) (Wc := Wc) (W₀ := W₀) (g := g) (b := b) (eof := eof) (n := if eof = true then 0 else 1) (R := RN (fun h => refused = false ∧ Z h) X L z N g) (K := endK) (H := leaveH (envP w L)) (code := .func (bdOf (stNo 5)) (envP w L)) (fs := []) T (hr.le (by omega)) ⟨hA, rfl, rfl⟩ (Sd _ _ _ _ _ hwc hGG) hw0 B1 hb1 (fun p hp => by
      rcases List.mem_cons.mp hp with rfl | hp
      · exact hxd
      · exact hH0 p hp) hf1 he1 rfl (fun h => by rw [List.length_map, List.getElem?_map, hlast h]; rfl) fun es' m' s4 s5 e5 F5 => ?_).run s₃ e2 F3
    · exact this
    · refine seg_end (.ok (.ret .none)) ⟨rfl, .inl ⟨rfl, F5.kp e5 (Sd _ _ _ _ _ hwc hGG), hnr, hZ _ _ _ _ _ _ _ F5⟩⟩
  · intro hrf W1 HH GG μ1 s₂ s₃ hwc hGG hN2 e2 F3 h₁ h₂ tk e hk hx
    obtain ⟨hXX, hfr, hout⟩ := hX hrf
    exact err_loop hA (over_push A) hfr hout hP (Sd _ _ _ _ _ hwc hGG) hN2 e2 F3 hk hx hXX
  · have := linesB_len text
    simp; omega
  · simp [joinB]; omega
end
end Mine
end
section
open PySem PySem.W PyProof.Rows PySem.Calls
set_option Elab.async false
set_option linter.unusedVariables false
set_option maxRecDepth 100000
set_option maxHeartbeats 1000000
namespace Mine
/-- the name of the def within, in full -/
noncomputable def qualS (w : World) (L : Addr) : Str := qualnameIn (envP w L) (naOf stripSt) (naOf stripSt)
theorem qualS_eq (w : World) (L L' : Addr) : qualS w L = qualS w L' := rfl
/-- the grown table and the code that it bears -/
structure Tab (w : World) (h : Heap) (c' : Addr) (oc : Obj) : Prop where
  tab : h.get? 88 = some (grown (posOf stripSt) c')
  code : h.get? c' = some oc
  shape : CodeShape (qualS w 0) oc
theorem Tab.keeps {w : World} {h h' : Heap} {c' : Addr} {oc : Obj} (x : Tab w h c' oc) (k : ∀ b o, h.get? b = some o → h'.get? b = some o) : Tab w h' c' oc := ⟨k _ _ x.tab, k _ _ x.code, x.shape⟩
/-- the table when a frame of _parse_message starts: grown before; or empty, and the frame's own -/
inductive TabIn (w : World) (s₀ : Shared) (z N : Nat) (Z : Heap → Prop) : List (Addr × Obj) → Prop
  | hit {c' : Addr} {oc : Obj} : Tab w s₀.heap c' oc → (∀ h, Z h) → TabIn w s₀ z N Z []
  | miss : z = 88 → (∀ h c' oc, Tab w h c' oc → N ≤ c' → Z h) → TabIn w s₀ z N Z [(88, tabObj #[])]
section
variable {prog : Program} {w : World} {mg mb : Str → Option Value}
theorem SB.makeBuf {c : Cx} {A : Around} {R : GenEnd} {Y : Protocol} {n : Nat} {code : Code} {fs : List Frame} {K : KF} {H : HF} {rest : List Stmt} {b : List UInt8} {nm : Str} {e : PySem.Expr} {p p1 p2 pos : Pos} (S : Sp c A code fs) (T : Top1 c.w mg mb c.s₀.heap) (hr : Room c.A 5) (hn : IsName c "BytesIO" (.ref 75)) (h : J c e (.bytes b))
    (r : ∀ x dx es n', IsBuf es b → x ≠ dx → (∀ p ∈ c.H, p.1 ≠ dx ∧ p.1 ≠ x) → x ∉ c.W → dx ∉ c.W → SB (c.wh (x :: dx :: c.W) ((dx, dictOf es n') :: (x, instObj 75 dx) :: c.H) (upd c.μ nm (some (.val (.raw (.ref x)))))) A R Y n code fs K H rest)
    (hk : c.sc.kind = .function := by rfl) (hl : c.env.kindOf nm = some .local := by rfl) (hs1 : starEach [e] c.env = [(false, eval e c.env)] := by rfl)
    (hs : swapsWith (.Call (.Name "BytesIO" p1) [e] [] p2) (some (.Name nm p)) pos.line c.env = pure false := by rfl) : SB c A R Y n code fs K H (.Assign [.Name nm p] (.Call (.Name "BytesIO" p1) [e] [] p2) pos :: rest) :=
  SB.plain S fun e0 => Blk.makeBuf T hr hn h (fun x dx es n' h1 h2 h3 h4 h5 => Blk.nil fun s F => (r x dx es n' h1 h2 h3 h4 h5).run s e0 F) hk hl hs1 hs
theorem SB.defIn {c : Cx} {A : Around} {R : GenEnd} {Y : Protocol} {n : Nat} {code : Code} {fs : List Frame} {K : KF} {H : HF} {rest : List Stmt} {H00 H1 : List (Addr × Obj)} {z N : Nat} {Z : Heap → Prop} (S : Sp c A code fs) (T : Top1 c.w mg mb c.s₀.heap) (hcd : c.cd = .ref 92) (hen : c.env = envP c.w c.L) (hz : c.z = z) (hlo : ∀ b, c.lo b ↔ b < N) (TI : TabIn c.w c.s₀ z N Z H00) (hH : c.H = H1 ++ H00) (hnot : H00 ≠ [] → ∀ p ∈ H1, p.1 ≠ 88)
    (r : ∀ f W' H0, (∀ b ∈ c.W, b ∈ W') → StripH c.s₀.heap H0 (qualS c.w c.L) f → (∀ p ∈ H0, p.1 ∈ c.W → p.1 = 88 ∧ H00 ≠ []) →
      (∀ (c2 : Cx) s, (∀ p ∈ H0, p ∈ c2.H) → c2.s₀ = c.s₀ → c2.z = c.z → c2.lo = c.lo → FrD c2 s → Z s.heap) → SB (c.wh W' (H1 ++ H0) (upd c.μ (naOf stripSt) (some (.val (.raw (.ref f)))))) A R Y n code fs K H rest)
    (hcl : closureFor (scOf stripSt) c.env = pure []) (ha : annTrees (paOf stripSt) none c.env = [])
    (hk : c.sc.kind = .function) (hl : c.env.kindOf (naOf stripSt) = some .local) : SB c A R Y n code fs K H (stripSt :: rest) := by
  rw [stripSt_eq]
  cases TI with
  | hit Tb hZ =>
    rename_i c' oc
    refine SB.plain S fun e0 => Blk.defHit T hcd Tb.tab (fun f ctv doc pm hf => Blk.nil fun s F => ?_) hcl rfl rfl ha hk hl
    have hq : qualnameIn c.env (naOf stripSt) (naOf stripSt) = qualS c.w c.L := by rw [hen]; rfl
    rw [hq] at F
    rw [List.append_nil] at hH
    have F2 : FrD (c.wh (f :: c.W) (H1 ++ [(f, fnMade (naOf stripSt) (qualS c.w c.L) (paOf stripSt) (bdOf stripSt) (scOf stripSt) [] doc pm c' ctv)]) (upd c.μ (naOf stripSt) (some (.val (.raw (.ref f)))))) s := F.dropH (fun p hp => by
      rcases List.mem_append.mp hp with h | h
      · exact .tail _ (hH ▸ h)
      · rcases List.mem_cons.mp h with rfl | h
        · exact .head _
        · exact absurd h List.not_mem_nil)
    refine (r f (f :: c.W) _ (fun b hb => .tail _ hb) ⟨c', ctv, doc, pm, .head _, .inl (Tb.shape.rec Tb.code)⟩ (fun p hp => ?_) (fun _ _ _ _ _ _ _ => hZ _)).run s e0 F2
    · rcases List.mem_cons.mp hp with rfl | hp
      · exact fun h => absurd h hf
      · exact absurd hp List.not_mem_nil
  | miss hz8 hZ =>
    have S' : Sp (c.hd ((88, tabObj #[]) :: H1)) A code fs := ⟨S.a, S.s, S.g⟩
    refine SB.reH (H' := (88, tabObj #[]) :: H1) ?_ (fun p hp => by
      rw [hH]
      rcases List.mem_cons.mp hp with rfl | hp
      · exact List.mem_append_right _ (.head _)
      · exact List.mem_append_left _ hp)
    refine SB.plain S' fun e0 => Blk.defMiss (c := c.hd ((88, tabObj #[]) :: H1)) (H := H1) T hcd rfl (hnot (by simp)) (fun f c' oc ctv doc pm hf hc' hsh => Blk.nil fun s F => ?_) hcl rfl rfl ha hk hl
    have hq : qualnameIn (c.hd ((88, tabObj #[]) :: H1)).env (naOf stripSt) (naOf stripSt) = qualS c.w c.L := by rw [show (c.hd ((88, tabObj #[]) :: H1)).env = c.env from rfl, hen]; rfl
    rw [hq] at F hsh
    generalize hfo : fnMade (naOf stripSt) (qualS c.w c.L) (paOf stripSt) (bdOf stripSt) (scOf stripSt) [] doc pm c' ctv = fo at F
    have F2 : FrD (c.wh (f :: c' :: c.W) (H1 ++ [(f, fo), (c', oc), (88, grown (posOf stripSt) c')]) (upd c.μ (naOf stripSt) (some (.val (.raw (.ref f)))))) s := F.dropH (fun p hp => by
      rcases List.mem_append.mp hp with h | h
      · exact .tail _ (.tail _ (.tail _ h))
      · rcases List.mem_cons.mp h with rfl | h
        · exact .head _
        · rcases List.mem_cons.mp h with rfl | h
          · exact .tail _ (.head _)
          · rcases List.mem_cons.mp h with rfl | h
            · exact .tail _ (.tail _ (.head _))
            · exact absurd h List.not_mem_nil)
    have zz : ∀ (c2 : Cx) s, (∀ p ∈ [(f, fo), (c', oc), (88, grown (posOf stripSt) c')], p ∈ c2.H) → c2.s₀ = c.s₀ → c2.z = c.z → c2.lo = c.lo → FrD c2 s → Z s.heap := fun c2 s hm h1 h2 h3 F3 => by
      have hc := F3.hh (c', oc) (hm _ (.tail _ (.head _)))
      have ht := F3.hh (88, grown (posOf stripSt) c') (hm _ (.tail _ (.tail _ (.head _))))
      refine hZ _ c' oc ⟨ht.g, hc.g, (qualS_eq c.w c.L 0) ▸ hsh⟩ ?_
      rcases hc.n.2 with h | h
      · exact Nat.not_lt.mp fun hlt => h (by rw [h3]; exact (hlo c').mpr hlt)
      · have e8 : c' = 88 := h.trans (h2.trans (hz.trans hz8))
        have g1 := hc.g
        have g2 := ht.g
        rw [show (c', oc).1 = (88, grown (posOf stripSt) c').1 from e8, g2] at g1
        have := Option.some.inj g1
        obtain ⟨vs, t, hd, hv⟩ := hsh
        rw [show oc = grown (posOf stripSt) c' from this.symm] at hd
        cases hd
        cases hv
    refine (r f (f :: c' :: c.W) [(f, fo), (c', oc), (88, grown (posOf stripSt) c')] (fun b hb => .tail _ (.tail _ hb)) ⟨c', ctv, doc, pm, by rw [hfo]; exact .head _, .inr ⟨oc, .tail _ (.head _), hsh⟩⟩ (fun p hp => ?_) zz).run s e0 F2
    rcases List.mem_cons.mp hp with rfl | hp
    · exact fun h => absurd h hf
    · rcases List.mem_cons.mp hp with rfl | hp
      · exact fun h => absurd h hc'
      · rcases List.mem_cons.mp hp with rfl | hp
        · exact fun _ => ⟨rfl, by simp⟩
        · exact absurd hp List.not_mem_nil
theorem TabIn.ne {s₀ : Shared} {z N : Nat} {Z : Heap → Prop} {H00 : List (Addr × Obj)} (TI : TabIn w s₀ z N Z H00) {x dx : Addr} (h : ∀ p ∈ H00, p.1 ≠ dx ∧ p.1 ≠ x) (hn : H00 ≠ []) : dx ≠ 88 ∧ x ≠ 88 := by
  cases TI with
  | hit _ _ => exact absurd rfl hn
  | miss _ _ => exact ⟨(h _ (.head _)).1.symm, (h _ (.head _)).2.symm⟩
/-- the body of _parse_message -/
theorem pm_all {A A' : Around} {s₀ : Shared} {L top z N g : Nat} {W W₀ Wc : List Addr} {H00 : List (Addr × Obj)} {Z : Heap → Prop} {X : Shared → Addr → Shared → Prop} {bs : List (List UInt8)} {d : D} {text : List UInt8} {items : List It} {Fs : List Addr} {outer : List Env} {refused : Bool} {s₁ : Shared}
    (hd : d = .list (bs.map D.bytes) ∨ d = .tuple (bs.map D.bytes)) (htext : joinB [] bs = text) (T : Top1 w mg mb s₀.heap) (hr : Room A' 5) (hA : A' = A.over (.func (bdOf (stNo 5)) (envP w L)) []) (hP : ∀ f ∈ Fs, f < N ∧ f ≠ z ∧ f ≠ L) (hW : ∀ b ∈ W₀, b ∈ W) (hg : s₀.gens.size = g + 1)
    (Sd : ∀ W HH GG μ s₁, (∀ b ∈ Wc, b ∈ W) → (∀ p ∈ GG, p.1 ≠ g) → Side (cxP prog w A' s₀ L top z N W HH [] GG μ s₁) Wc g N) (hWc : ∀ b ∈ Wc, b ∈ W) (hz : text.length ≤ 800) (hN : Nfs Fs s₁.heap) (TI : TabIn w s₀ z N Z H00)
    (hits : (pmGo none [] (linesB text)).1 = items) (href : (pmGo none [] (linesB text)).2 = refused)
    (hX : refused = true → (∀ s₁ e s', XEnd Fs outer L z N g s₁ e s' → X s₁ e s') ∧ A'.frames = some (envP w L :: outer) ∧ ∀ env ∈ outer, env.scope.kind ≠ .module ∧ ∃ f ∈ Fs, env.frame = some f) :
    SB (cxP prog w A' s₀ L top z N W H00 [] [] (muOf [("chunks", d)]) s₁) A (RN (fun h => refused = false ∧ Z h) X L z N g) (YP Wc W₀ L z N g (items.map It.d)) items.length (.func (bdOf (stNo 5)) (envP w L)) [] endK (leaveH (envP w L)) (bdOf (stNo 5)) := by
  have S : ∀ {cc : Cx}, cc.A = A' → Sp cc A (.func (bdOf (stNo 5)) (envP w L)) [] := fun h => ⟨h.trans hA, rfl, rfl⟩
  refine SB.makeBuf (b := text) (S rfl) T hr (.global T (nm_some T (nm75 _))) ?_ (fun x dx es n B hxd hnH hxW hdW => ?_)
  · refine J.cast (J_join (ps := bs) J_bytes ?_ (by rw [htext]; omega)) (by rw [htext])
    rcases hd with rfl | rfl
    · exact .inl (J_name rfl)
    · exact .inr (J_name rfl)
  refine SB.assign (d := .none) (S rfl) J_none ?_
  refine SB.assignOwn (ds := []) (S rfl) JS.nil (fun a ha => ?_)
  refine SB.assign (d := .bool false) (S rfl) J_bool ?_
  refine SB.defIn (z := z) (N := N) (Z := Z) (H00 := H00) (H1 := [(dx, dictOf es n), (x, instObj 75 dx)]) (S rfl) T (cd92 w.params) rfl rfl (fun b => Iff.rfl) TI rfl (fun hn p hp => ?_) (fun f W' H0 hW' SH hH0 zz => ?_) rfl rfl rfl rfl
  · have := TI.ne hnH hn
    rcases List.mem_cons.mp hp with rfl | hp
    · exact this.1
    · rcases List.mem_cons.mp hp with rfl | hp
      · exact this.2
      · exact absurd hp List.not_mem_nil
  · refine pm_mid (fS := f) (a := a) (qual := qualS w L) (es := es) (n := n) (x := x) (dx := dx) (outer := outer) (Fs := Fs) T hr hA SH hP (fun b hb => hW' b (.tail _ (.tail _ (.tail _ (hW b hb))))) hg Sd (fun b hb => hW' b (.tail _ (.tail _ (.tail _ (hWc b hb))))) B hz hxd (fun p hp q => ?_) hN ⟨rfl, rfl, rfl, rfl, rfl, trivial⟩ hits href (fun W es m GG μ s₁' s F => zz (cxP prog w A' s₀ L top z N W ((dx, dictOf es m) :: (x, instObj 75 dx) :: H0) [] GG μ s₁') s (fun p hp => List.Mem.tail _ (List.Mem.tail _ hp)) rfl rfl rfl F) hX
    obtain ⟨h8, hn⟩ := hH0 p hp (q ▸ .tail _ (.tail _ (.head _)))
    exact (TI.ne hnH hn).1 (q.symm.trans h8)
end
end Mine
end
section
open PySem PySem.W PyProof.Rows PySem.Calls
set_option Elab.async false
set_option linter.unusedVariables false
set_option maxRecDepth 100000
set_option maxHeartbeats 1000000
namespace Mine
theorem bind93 (P : Params) : ∀ v0 : Value, bindArgs (docOf' P 93 (stNo 5)) ⟨[v0], []⟩ = pure ([("chunks", v0)] : List (Str × Value)) := by intros; kernel_rfl
theorem fine93 : fnFine (stNo 5) ["chunks"] true = true := by kernel_rfl
section
variable {prog : Program} {w : World} {mg mb : Str → Option Value}
theorem pm_seg {A : Around} {s s'' : Shared} {W X Wc : List Addr} {L N top z : Nat} {H00 : List (Addr × Obj)} {Z : Heap → Prop} {Xx : Shared → Addr → Shared → Prop} {bs : List (List UInt8)} {d : D} {text : List UInt8} {items : List It} {Fs : List Addr} {outer : List Env} {refused : Bool}
    (hd : d = .list (bs.map D.bytes) ∨ d = .tuple (bs.map D.bytes)) (htext : joinB [] bs = text) (T : Top1 w mg mb (baseG s X).heap) (hr : Room A 6) (hP : ∀ f ∈ Fs, f < N ∧ f ≠ z ∧ f ≠ L) (hz : text.length ≤ 800) (hN : Nfs Fs s''.heap) (TI : TabIn w (baseG s X) z N Z H00)
    (hits : (pmGo none [] (linesB text)).1 = items) (href : (pmGo none [] (linesB text)).2 = refused)
    (hX : refused = true → (∀ s₁ e s', XEnd Fs outer L z N s.gens.size s₁ e s' → Xx s₁ e s') ∧ A.frames = some outer ∧ ∀ env ∈ outer, env.scope.kind ≠ .module ∧ ∃ f ∈ Fs, env.frame = some f)
    (F : FrD (cxH prog w (stNo 5) 93 (fdOf w.params 93).code (A.over (.func (bdOf (stNo 5)) (envOf (naOf (stNo 5)) (scOf (stNo 5)) L 93 (fdOf w.params 93).code)) []) (L :: (Wc ++ W)) (baseG s X) L [("chunks", d)] s'' N top z H00) s'') (e0 : Ext (baseG s X) s'')
    (S : Side (cxH prog w (stNo 5) 93 (fdOf w.params 93).code (A.over (.func (bdOf (stNo 5)) (envOf (naOf (stNo 5)) (scOf (stNo 5)) L 93 (fdOf w.params 93).code)) []) (L :: (Wc ++ W)) (baseG s X) L [("chunks", d)] s'' N top z H00) Wc s.gens.size N) :
    Seg (model prog w) A (RN (fun h => refused = false ∧ Z h) Xx L z N s.gens.size) (YP Wc W L z N s.gens.size (items.map It.d)) (items.map It.d).length s'' (.func (bdOf (stNo 5)) (envOf (naOf (stNo 5)) (scOf (stNo 5)) L 93 (fdOf w.params 93).code)) ((model prog w).den (.func (bdOf (stNo 5)) (envOf (naOf (stNo 5)) (scOf (stNo 5)) L 93 (fdOf w.params 93).code))) [] s'' := by
  refine seg_func ?_
  rw [List.length_map]
  refine (pm_all (prog := prog) (top := top) (bs := bs) (d := d) (text := text) (outer := outer) (refused := refused) (A := A) hd htext T (room_func hr) rfl hP (fun b hb => .tail _ (List.mem_append_right _ hb)) (by simp [baseG]) (fun W HH GG μ s₁ h1 h2 => ⟨S.lo, h1, S.hid, S.lt, S.gs, S.run, h2⟩) (fun b hb => .tail _ (List.mem_append_left _ hb)) hz hN TI hits href (fun h => ?_)).run s'' e0 F
  obtain ⟨h1, h2, h3⟩ := hX h
  refine ⟨h1, ?_, h3⟩
  rw [over_func]
  show A.frames.map _ = _
  rw [h2]; rfl
end
section
variable {c : Cx} {mg mb : Str → Option Value}
theorem fl_two {a b : D} (ha : a = .none ∨ ∃ x, a = .bytes x) (hb : b = .none ∨ ∃ x, b = .bytes x) : Fl (.tuple [a, b]) := .tuple fun d hd => by
  rcases List.mem_cons.mp hd with rfl | hd
  · exact ha
  · rcases List.mem_cons.mp hd with rfl | hd
    · exact hb
    · exact absurd hd List.not_mem_nil
theorem It.fl : ∀ i : It, Fl i.d
  | .row _ _ => fl_two (.inr ⟨_, rfl⟩) (.inr ⟨_, rfl⟩)
  | .fin none => fl_two (.inl rfl) (.inl rfl)
  | .fin (some _) => fl_two (.inl rfl) (.inr ⟨_, rfl⟩)
theorem baseG_nil (s : Shared) : (baseG s []).heap = s.heap := rfl
/-- list(_parse_message(e)), the def within met before -/
theorem J_listP {e : PySem.Expr} {p lp pos lpos : Pos} {bs : List (List UInt8)} {text : List UInt8} {items : List It} {d : D} (T : Top1 c.w mg mb c.s₀.heap) (hr : Room c.A 9) (hl : IsName c "list" (.type "list")) (hx : IsName c "_parse_message" (.ref 93)) (hT : ∀ s, FrD c s → ∃ c' oc, Tab c.w s.heap c' oc)
    (hd : d = .list (bs.map D.bytes) ∨ d = .tuple (bs.map D.bytes)) (h : J c e d) (htext : joinB [] bs = text) (hz : text.length ≤ 800) (hits : pmGo none [] (linesB text) = (items, false)) (hlen : items.length ≤ 100000)
    (hs1 : starEach [e] c.env = [(false, eval e c.env)] := by rfl) (hs : starEach [.Call (.Name "_parse_message" p) [e] [] pos] c.env = [(false, eval (.Call (.Name "_parse_message" p) [e] [] pos) c.env)] := by rfl) :
    J c (.Call (.Name "list" lp) [.Call (.Name "_parse_message" p) [e] [] pos] [] lpos) (.list (items.map It.d)) := .mk fun s E F => by
  refine Call_Name1 (hl.run s _ E lp F ?_) hs
  refine PyProof.Rows.callWith_type rfl (evalArgs_plain (spliced_cons ?_))
  refine eval_gen (k := 1) (ps := [("chunks", d)]) T (hr.le (by omega)) hx (JS1 h hs1) (fn93 _) (cd93 _) (fun vs hv => by
    match vs, hv with
    | [v], _ => exact ⟨_, bind93 _ v, rfl, rfl⟩) fine93 (by rw [hs1]; rfl) F fun s₁ s' binds ga e1 F1 hga M b2 b3 => ?_
  refine spliced_nil ?_
  obtain ⟨c', oc, tb⟩ := hT s₁ F1
  have T1 := F1.top T
  have hcl := cstat_lt T1
  refine wpAny_mono (list_madeX (prog := c.prog) (its := items.map It.d) (Z := fun _ => false = false ∧ True) (X := []) (H0 := []) (L := s₁.heap.objs.size) (z := s₁.heap.objs.size) (fun _ _ _ => ⟨rfl, trivial⟩) M T1 F1.live b2 b3 hr.hh hr.lim rfl hga (fun d hd => by
      obtain ⟨i, _, rfl⟩ := List.mem_map.mp hd
      exact i.fl) (by rw [List.length_map]; exact hlen) (fun _ h => nomatch h) (Nat.ne_of_lt (by omega)) (Nat.ne_of_lt (by omega)) (Nat.ne_of_gt hcl) (fun _ h => nomatch h) fun s'' F' e0 S => ?_) (fun v s₂ ⟨kz, _, _, h2⟩ => ⟨e1.trans (kz.ext (get_size _)), h2⟩) fun _ _ x => x
  exact pm_seg (Fs := []) (outer := []) (refused := false) (bs := bs) (d := d) (text := text) (items := items) hd htext T1 (hr.in1.in1.in1) (fun _ h => nomatch h) hz (fun _ h => nomatch h) (TabIn.hit (s₀ := baseG s₁ []) tb fun _ => trivial) (by rw [hits]) (by rw [hits]) (fun h => nomatch h) F' e0 S
end
end Mine
end
section
open PySem PySem.W PyProof.Rows PySem.Calls
set_option Elab.async false
set_option linter.unusedVariables false
set_option maxRecDepth 100000
set_option maxHeartbeats 1000000
namespace Mine
mutual
/-- a record's address may be barred -/
theorem Den.barF {W : List Addr} {h : Heap} {a : Addr} {o : Obj} {ws : Array Value} (k : h.get? a = some o) (kd : o.data = .fields ws) : ∀ {v : Value} {d : D}, Den W h v d → Den (a :: W) h v d
  | _, _, .none => .none
  | _, _, .bool b => .bool b
  | _, _, .int i t => .int i t
  | _, _, .bytes b t => .bytes b t
  | _, _, .raw v => .raw v
  | _, _, .list ha hl r => .list (fun x => by
      rcases List.mem_cons.mp x with rfl | x
      · obtain ⟨o', e, _, n, hd⟩ := hl
        rw [k] at e
        cases e
        rw [kd] at hd
        cases hd
      · exact ha x) hl (DenAll.barF k kd r)
  | _, _, .tuple ha hl r => .tuple (fun x => by
      rcases List.mem_cons.mp x with rfl | x
      · obtain ⟨o', e, _, n, hd⟩ := hl
        rw [k] at e
        cases e
        rw [kd] at hd
        cases hd
      · exact ha x) hl (DenAll.barF k kd r)
theorem DenAll.barF {W : List Addr} {h : Heap} {a : Addr} {o : Obj} {ws : Array Value} (k : h.get? a = some o) (kd : o.data = .fields ws) : ∀ {vs : List Value} {ds : List D}, DenAll W h vs ds → DenAll (a :: W) h vs ds
  | _, _, .nil => .nil
  | _, _, .cons x r => .cons (Den.barF k kd x) (DenAll.barF k kd r)
end
section
variable {c : Cx} {s s' : Shared}
/-- the table has grown -/
theorem FrD.grow {c' : Addr} {oc o88 og : Obj} {H : List (Addr × Obj)} (F : FrD c s) (hH : c.H = (88, o88) :: H) (hnot : ∀ p ∈ H, p.1 ≠ 88) (kz : KZ 88 s s') (ht : s'.heap.get? 88 = some og) (hog : NL og ∧ NT og ∧ og.isFreed = false) (hc : s'.heap.get? c' = some oc) (hoc : NL oc ∧ NT oc) (hge : s.heap.objs.size ≤ c') :
    FrD (c.wh (c' :: c.W) ((c', oc) :: (88, og) :: H) c.μ) s' := by
  have h88 := F.hh (88, o88) (by rw [hH]; exact .head _)
  have hup : (s.heap.update 88 (fun _ => og)).get? 88 = some og := Heap.get?_update_self (fun _ => og) h88.g hog.2.2
  have hot : ∀ b o, b ≠ 88 → s.heap.get? b = some o → (s.heap.update 88 (fun _ => og)).get? b = some o := fun b o hb e => (Heap.get?_update_other _ _ (Ne.symm hb)).trans e
  have F1 : FrD (c.hg ((88, og) :: H) c.G) { s with heap := s.heap.update 88 (fun _ => og) } := by
    refine F.vary (X := [88]) (fun a ha => ?_) (fun a o ha e => hot a o (fun q => ha (q ▸ .head _)) e) (fun a ha => ?_) rfl (fun _ _ _ e => e) (fun h => h) (fun p hp => ?_) (fun p hp => F.gg p hp)
    · rcases List.mem_cons.mp ha with rfl | ha
      · exact ⟨_, by rw [hH]; exact .head _⟩
      · exact absurd ha List.not_mem_nil
    · rcases List.mem_cons.mp ha with rfl | ha
      · exact ⟨_, hup⟩
      · exact absurd ha List.not_mem_nil
    · rcases List.mem_cons.mp hp with rfl | hp
      · exact .inr ⟨.head _, hog.1, hog.2.1, hup⟩
      · exact .inl ⟨by rw [hH]; exact .tail _ hp, fun hm => by
          rcases List.mem_cons.mp hm with q | hm
          · exact hnot p hp q
          · exact absurd hm List.not_mem_nil⟩
  have back : ∀ b o, b ≠ 88 → (s.heap.update 88 (fun _ => og)).get? b = some o → s.heap.get? b = some o := fun b o hb e => (Heap.get?_update_other _ _ (Ne.symm hb)).symm.trans e
  have e1 : Ext ({ s with heap := s.heap.update 88 (fun _ => og) } : Shared) s' := ⟨fun b o e => by
    by_cases q : b = 88
    · subst q
      rw [show ({ s with heap := s.heap.update 88 (fun _ => og) } : Shared).heap.get? 88 = some og from hup] at e
      cases e
      exact ht
    · exact kz.obj b o q (back b o q e), kz.os, kz.gens, kz.bare⟩
  have hsc : s.heap.get? c' = none := Heap.get?_none_of_le hge
  have hc8 : c' ≠ 88 := fun q => by have := h88.g; rw [← q, hsc] at this; cases this
  have hmc : (s.heap.update 88 (fun _ => og)).get? c' = none := (Heap.get?_update_other _ _ (Ne.symm hc8)).trans hsc
  obtain ⟨m0, hm0, _⟩ := F.fr
  have hLc : c' ≠ c.L := Nat.ne_of_gt (Nat.lt_of_lt_of_le hm0.ns.lt hge)
  have hgc : c.s₀.heap.get? c' = none ∧ ¬ c.lo c' := by
    refine ⟨Heap.get?_none_of_le (Nat.le_trans hm0.above (Nat.le_trans (Nat.le_of_lt hm0.ns.lt) hge)), fun hlo => ?_⟩
    rcases F.tl.2 c' hlo with h | ⟨o, h⟩
    · obtain ⟨o, ho⟩ := F.tl.1
      exact absurd (Nat.lt_of_lt_of_le (Heap.lt_size ho) hge) (Nat.not_lt.mpr h)
    · rw [hsc] at h; cases h
  exact F1.holdN e1 hmc hc hoc.1 hoc.2 hLc hgc
end
section
variable {c : Cx} {mg mb : Str → Option Value}
theorem Top1.hide {w : World} {s : Shared} {hb : Heap} {X : List Addr} (T : Top1 w mg mb hb) (hk : ∀ b o, hb.get? b = some o → s.heap.get? b = some o) (hX : ∀ b ∈ X, hb.get? b = none) : Top1 w mg mb (baseG s X).heap :=
  T.keeps fun b o e => hideAll_get _ (hk b o e) fun hm => by rw [hX b hm] at e; cases e
/-- list(_parse_message(e)), the def within made now -/
theorem eval_listMiss {e : PySem.Expr} {p lp pos lpos : Pos} {bs : List (List UInt8)} {text : List UInt8} {items : List It} {d : D} {H : List (Addr × Obj)} {s : Shared} {E : Value → Shared → Prop} {Q : Value → Shared → Prop} (T : Top1 c.w mg mb c.s₀.heap) (hr : Room c.A 9) (hl : IsName c "list" (.type "list")) (hx : IsName c "_parse_message" (.ref 93)) (F : FrD c s)
    (hH : c.H = (88, tabObj #[]) :: H) (hnot : ∀ p ∈ H, p.1 ≠ 88)
    (hd : d = .list (bs.map D.bytes) ∨ d = .tuple (bs.map D.bytes)) (h : J c e d) (htext : joinB [] bs = text) (hz : text.length ≤ 800) (hits : pmGo none [] (linesB text) = (items, false)) (hlen : items.length ≤ 100000)
    (hQ : ∀ v s' c' oc, CodeShape (qualS c.w 0) oc → FrD (c.wh (c' :: c.W) ((c', oc) :: (88, grown (posOf stripSt) c') :: H) c.μ) s' → Den (c' :: c.W) s'.heap v (.list (items.map It.d)) → Q v s')
    (hs1 : starEach [e] c.env = [(false, eval e c.env)] := by rfl) (hs : starEach [.Call (.Name "_parse_message" p) [e] [] pos] c.env = [(false, eval (.Call (.Name "_parse_message" p) [e] [] pos) c.env)] := by rfl) :
    wpAny c.M c.A (eval (.Call (.Name "list" lp) [.Call (.Name "_parse_message" p) [e] [] pos] [] lpos) c.env) Q E s := by
  refine Call_Name1 (hl.run s _ E lp F ?_) hs
  refine PyProof.Rows.callWith_type rfl (evalArgs_plain (spliced_cons ?_))
  refine eval_gen (k := 1) (ps := [("chunks", d)]) T (hr.le (by omega)) hx (JS1 h hs1) (fn93 _) (cd93 _) (fun vs hv => by
    match vs, hv with
    | [v], _ => exact ⟨_, bind93 _ v, rfl, rfl⟩) fine93 (by rw [hs1]; rfl) F fun s₁ s' binds ga e1 F1 hga M b2 b3 => ?_
  refine spliced_nil ?_
  have T1 := F1.top T
  have h88 := F1.hh (88, tabObj #[]) (by rw [hH]; exact .head _)
  have hlt : 88 < s₁.heap.objs.size := Heap.lt_size h88.g
  generalize hL : s₁.heap.objs.size = L at hlt
  refine wpAny_mono (list_madeX (prog := c.prog) (its := items.map It.d) (Z := fun h => false = false ∧ ∃ c' oc, Tab c.w h c' oc ∧ L + 3 ≤ c') (X := [88]) (H0 := [(88, tabObj #[])]) (L := L) (z := 88) (fun h o ⟨_, c', oc, x, y⟩ => ⟨rfl, c', oc, x.keeps fun _ _ e => Heap.get?_push_of_some _ e, y⟩) M T1 F1.live b2 b3 hr.hh hr.lim hL (hL ▸ hga) (fun d hd => by
      obtain ⟨i, _, rfl⟩ := List.mem_map.mp hd
      exact i.fl) (by rw [List.length_map]; exact hlen) (fun b hb => by
        rcases List.mem_cons.mp hb with rfl | hb
        · exact h88.w
        · exact absurd hb List.not_mem_nil) (Nat.ne_of_lt (by omega)) (Nat.ne_of_lt (by omega)) (by decide) (fun p hp => by
        rcases List.mem_cons.mp hp with rfl | hp
        · exact ⟨.head _, rfl, h88.c, h88.t, h88.g⟩
        · exact absurd hp List.not_mem_nil) fun s'' F' e0 S => ?_) (fun v s₂ ⟨kz, ⟨_, c', oc, tb, hge⟩, _, h2⟩ => ?_) fun _ _ x => x
  · have hz8 : (88 : Addr) = 88 := rfl
    exact pm_seg (Fs := []) (outer := []) (refused := false) (bs := bs) (d := d) (text := text) (items := items) hd htext (Top1.hide T F1.ext.keep (fun b hb => by
      rcases List.mem_cons.mp hb with rfl | hb
      · exact h88.n.1
      · exact absurd hb List.not_mem_nil)) (hr.in1.in1.in1) (fun _ h => nomatch h) hz (fun _ h => nomatch h) (.miss rfl fun h c' oc x y => ⟨c', oc, x, y⟩) (by rw [hits]) (by rw [hits]) (fun h => nomatch h) F' e0 S
  · obtain ⟨vs, t, hdd, _⟩ := tb.shape
    refine hQ v s₂ c' oc tb.shape ?_ (h2.barF tb.code hdd)
    exact F1.grow hH hnot kz tb.tab ⟨fun i n e => (by cases e), fun e => (by cases e.1), rfl⟩ tb.code ⟨tb.shape.nl, tb.shape.nt⟩ (by rw [hL]; omega)
end
end Mine
end
section
open PySem PySem.W PyProof.Rows PySem.Calls
set_option Elab.async false
set_option linter.unusedVariables false
set_option maxRecDepth 100000
set_option maxHeartbeats 1000000
namespace Mine
/-- flat entries -/
def FlE : Ent → Prop
  | .val d => Fl d
  | .own _ ds => ∀ d ∈ ds, Fl d
theorem Den.flT {W : List Addr} {h h' : Heap} {v : Value} {d : D} (x : Den W h v d) (hf : Fl d) (k : ∀ b o, (o.cls = .type "tuple" ∧ ∃ i n, o.data = .seq i n) → h.get? b = some o → h'.get? b = some o) : Den W h' v d := by
  cases hf with
  | none => exact x.small (.inl rfl)
  | bytes b => exact x.small (.inr ⟨b, rfl⟩)
  | tuple h =>
    cases x with
    | tuple ha hl r =>
      obtain ⟨o, ho, hc, n, hd⟩ := hl
      exact .tuple ha ⟨o, k _ _ ⟨hc, _, _, hd⟩ ho, hc, n, hd⟩ (r.small h)
theorem DenAll.flT {W : List Addr} {h h' : Heap} {vs : List Value} {ds : List D} (x : DenAll W h vs ds) (hf : ∀ d ∈ ds, Fl d) (k : ∀ b o, (o.cls = .type "tuple" ∧ ∃ i n, o.data = .seq i n) → h.get? b = some o → h'.get? b = some o) : DenAll W h' vs ds := by
  induction vs generalizing ds with
  | nil => cases x; exact .nil
  | cons v vs ih =>
    cases x with
    | cons x r => exact .cons (x.flT (hf _ (.head _)) k) (ih r fun d h => hf d (.tail _ h))
section
variable {c : Cx} {s s' : Shared}
/-- the frame of one who resumes a generator, the generator having run -/
theorem FrD.kpx {N : Nat} {Lg : Addr} {Fs : List Addr} {H' : List (Addr × Obj)} {g : Nat} (F : FrD c s) (hV : c.V = []) (hG : c.G = []) (hfl : ∀ x e, c.μ x = some e → FlE e) (hN : ∀ b ∈ c.W, b < N ∧ b ≠ Lg) (h0 : ∀ b o, c.s₀.heap.get? b = some o → b < N ∧ b ≠ Lg) (h1 : ∀ b o, c.lo b → c.s₁.heap.get? b = some o → b < N ∧ b ≠ Lg) (htop : c.top < N ∧ c.top ≠ Lg) (hlo : ∀ b, c.lo b → b ≤ c.top)
    (hF0 : ∀ f ∈ Fs, c.s₀.heap.get? f = none) (hF1 : ∀ f ∈ Fs, f = c.L ∨ f = c.z ∨ ¬ c.lo f)
    (keep : ∀ b o, ((b < N ∧ b ≠ Lg) ∨ (o.cls = .type "tuple" ∧ ∃ i n, o.data = .seq i n)) → b ∉ Fs → s.heap.get? b = some o → s'.heap.get? b = some o)
    (hfs : ∀ f ∈ Fs, ∃ o es ep, s.heap.get? f = some o ∧ o.data = .dict es ep ∧ ∃ sl, s'.heap.get? f = some { o with slots := sl })
    (hos : s'.os = s.os) (hgens : ∀ i x, i < g → s.gens[i]? = some x → s'.gens[i]? = some x) (hg : c.s₀.gens.size ≤ g) (hbare : AllBare s.gens → AllBare s'.gens)
    (hH : ∀ p ∈ H', (∃ o, (p.1, o) ∈ c.H) ∧ NL p.2 ∧ NT p.2 ∧ s'.heap.get? p.1 = some p.2) : FrD (c.hd H') s' := by
  obtain ⟨m, hm, hμ⟩ := F.fr
  have kT : ∀ b o, (o.cls = .type "tuple" ∧ ∃ i n, o.data = .seq i n) → s.heap.get? b = some o → s'.heap.get? b = some o := fun b o ht e => keep b o (.inr ht) (fun hf => by
    obtain ⟨o', es, ep, ho, hd, _⟩ := hfs b hf
    rw [e] at ho
    cases ho
    obtain ⟨_, i, n, h⟩ := ht
    rw [hd] at h
    cases h) e
  have live : ∀ b, (b < N ∧ b ≠ Lg) → (∃ o, s.heap.get? b = some o) → ∃ o, s'.heap.get? b = some o := fun b hb ⟨o, ho⟩ => by
    by_cases hf : b ∈ Fs
    · obtain ⟨_, _, _, _, _, sl, h⟩ := hfs b hf
      exact ⟨_, h⟩
    · exact ⟨o, keep b o (.inl hb) hf ho⟩
  have k0 : ∀ b o, c.s₀.heap.get? b = some o → s'.heap.get? b = some o := fun b o e => keep b o (.inl (h0 b o e)) (fun hf => by rw [hF0 b hf] at e; cases e) (F.ext.keep b o e)
  have hns : s'.heap.Ns c.L m := by
    obtain ⟨o, es, ep, ho, hd, r⟩ := hm.ns
    by_cases hf : c.L ∈ Fs
    · obtain ⟨o', _, _, ho', _, sl, h⟩ := hfs c.L hf
      rw [ho] at ho'
      cases ho'
      exact ⟨_, es, ep, h, hd, r⟩
    · exact ⟨o, es, ep, keep _ _ (.inl (hN _ F.lw)) hf ho, hd, r⟩
  refine ⟨⟨m, ⟨hns, k0, hm.above⟩, fun y e hy => ?_⟩, F.inj, F.new, ⟨live _ htop F.tl.1, fun b hb => .inl (hlo b hb)⟩, F.lw, fun b hb => live b (hN b hb) (F.live b hb), ⟨k0, hos.trans F.ext.os, fun i x hx => hgens i x (Nat.lt_of_lt_of_le (Array.getElem?_eq_some_iff.mp hx).1 hg) (F.ext.gens i x hx), fun h => hbare (F.ext.bare h)⟩, fun p hp => ?_, (fun q hq => by rw [show (c.hd H').V = c.V from rfl, hV] at hq; cases hq), (fun q hq => by rw [show (c.hd H').G = c.G from rfl, hG] at hq; cases hq), fun b o hp e => ?_⟩
  · obtain ⟨v, hv, he⟩ := hμ y e hy
    refine ⟨v, hv, ?_⟩
    have hfe := hfl y e hy
    cases e with
    | val d => exact Den.flT he hfe kT
    | own a ds =>
      obtain ⟨r1, r2, vs, n, r3, r4⟩ := he
      refine ⟨r1, r2, vs, n, keep a _ (.inl (hN a r2)) (fun hf => ?_) r3, r4.flT hfe kT⟩
      obtain ⟨o', es, ep, ho', hd, _⟩ := hfs a hf
      rw [r3] at ho'
      cases ho'
      cases hd
  · obtain ⟨⟨o, ho⟩, h2, h3, h4⟩ := hH p hp
    have := F.hh _ ho
    exact ⟨this.w, this.n, this.l, h2, h3, h4⟩
  · have e2 := F.kr b o hp e
    rcases hp with ⟨p1, p2, p3⟩ | hp
    · refine keep b o (.inl (h1 b o p1 e)) (fun hf => ?_) e2
      rcases hF1 b hf with h | h | h
      · exact p3 h
      · exact p2 h
      · exact h p1
    · exact kT b o hp e2
end
/-- a step that alters only Y -/
structure StepK (Y : List Addr) (s s' : Shared) : Prop where
  obj : ∀ b o, b ∉ Y → s.heap.get? b = some o → s'.heap.get? b = some o
  live : ∀ b ∈ Y, (∃ o, s.heap.get? b = some o) → ∃ o, s'.heap.get? b = some o
  nf : ∀ b ∈ Y, NFat s.heap b → NFat s'.heap b
  os : s'.os = s.os
  gens : ∀ (i : Nat) x, s.gens[i]? = some x → s'.gens[i]? = some x
  bare : AllBare s.gens → AllBare s'.gens
theorem StepK.agree {Y Wc : List Addr} {g : Nat} {s s' : Shared} (x : StepK Y s s') (h : ∀ b ∈ Y, b ∈ Wc) : Agree Wc g s s' where
  obj b o hb e := x.obj b o (fun q => hb (h b q)) e
  live b hb e := by
    by_cases q : b ∈ Y
    · exact x.live b q e
    · obtain ⟨o, ho⟩ := e; exact ⟨o, x.obj b o q ho⟩
  nf b hb e := by
    by_cases q : b ∈ Y
    · exact x.nf b q e
    · obtain ⟨o, ho, hd⟩ := e; exact ⟨o, x.obj b o q ho, hd⟩
  os := x.os
  gens i v _ e := x.gens i v e
  bare := x.bare
theorem StepK.of_ext {s s' : Shared} (e : Ext s s') : StepK [] s s' := ⟨fun b o _ h => e.keep b o h, (fun b hb => nomatch hb), (fun b hb => nomatch hb), e.os, e.gens, e.bare⟩
section
variable {c : Cx} {s : Shared} {E : Value → Shared → Prop}
theorem assign_step {x : Str} {p : Pos} {v : Value} {d : D} (F : FrD c s) (hd : Den c.W s.heap v d) (hk : c.sc.kind = .function) (hl : c.env.kindOf x = some .local) :
    wpAny c.M c.A (assign (.Name x p) c.env v) (fun _ s' => FrD (c.up x (some (.val d))) s' ∧ StepK [c.L] s s') E s := by
  rw [PySem.assign_Name]
  refine wpAny_bind (wpAny_standAt (wpAny_bindName ?_))
  obtain ⟨m, hm, hμ⟩ := F.fr
  refine wpAny_storeName_local (env := c.env) hl hm.ns (fun h' hn hs => ⟨F.store hm hμ hn hs hd, fun b o hb e => Heap.SameBut.to hs b o (fun q => hb (q ▸ .head _)) e, fun b hb _ => ?_, fun b hb _ => ?_, rfl, fun _ _ e => e, fun h => h⟩) (noCls hk)
  · rcases List.mem_cons.mp hb with rfl | hb
    · obtain ⟨o, _, _, ho, _⟩ := hn; exact ⟨o, ho⟩
    · exact absurd hb List.not_mem_nil
  · rcases List.mem_cons.mp hb with rfl | hb
    · obtain ⟨o, es, ep, ho, hd, _⟩ := hn; exact ⟨o, ho, fun vs q => by rw [hd] at q; cases q⟩
    · exact absurd hb List.not_mem_nil
theorem append_step {x : Str} {e : PySem.Expr} {p apos cpos pos : Pos} {a : Addr} {ds : List D} {d : D} (F : FrD c s) (hx : c.μ x = some (.own a ds)) (h : J c e d) (hz : ds.length ≤ 1000)
    (hk : c.sc.kind = .function := by rfl) (hl : c.env.kindOf x = some .local := by rfl) (hd : (x == ("__debug__" : Str)) = false := by decide)
    (hbase : attributeBase (.Name x p) "append" c.env (eval (.Name x p) c.env) = eval (.Name x p) c.env := by rfl)
    (htrees : starEach [e] c.env = [(false, eval e c.env)] := by rfl) (hline : (apos.endLine == cpos.line) = true := by rfl)
    (hi : interactive c.env = false := by rfl) (hs : swapsWith (.Call (.Attribute (.Name x p) "append" apos) [e] [] cpos) none pos.line c.env = pure false := by rfl) :
    wpAny c.M c.A (exec (.Expr (.Call (.Attribute (.Name x p) "append" apos) [e] [] cpos) pos) c.env) (fun f s' => f = .next ∧ FrD (c.up x (some (.own a (ds ++ [d])))) s' ∧ StepK [a] s s') E s := by
  refine wpAny_Expr (PySem.wpAny_Call_append hbase (by rw [htrees]; rfl) hline (by rw [htrees]; rfl) (own_name F hx (by
    obtain ⟨vs, n, ho, hds⟩ := own_at F hx
    refine ⟨a, _, rfl, ⟨_, n, ho, rfl, rfl, rfl⟩, wpAny_mono (h.run s E F) (fun y s₁ ⟨e1, x1⟩ => ?_) fun _ _ x => x⟩
    have F1 := F.go e1
    refine call_append (e1.keep _ _ ho) (fun h' n' ho' hsb => ?_) (by have := hds.length; rw [sizeLine_eq]; simp; omega)
    rw [List.push_toArray] at ho'
    refine ⟨rfl, F1.ownSet (tk := s₁.toks) (h' := h') hx (Heap.SameBut.to hsb) ho' ((hds.ext e1).append (.cons x1 .nil)), fun b o hb e => Heap.SameBut.to hsb b o (fun q => hb (q ▸ .head _)) (e1.keep b o e), fun b hb _ => ?_, fun b hb _ => ?_, e1.os, e1.gens, e1.bare⟩
    · rcases List.mem_cons.mp hb with rfl | hb
      · exact ⟨_, ho'⟩
      · exact absurd hb List.not_mem_nil
    · rcases List.mem_cons.mp hb with rfl | hb
      · exact ⟨_, ho', fun vs q => by cases q⟩
      · exact absurd hb List.not_mem_nil) hk hl hd)) hi hs
end
end Mine
end
section
open PySem PySem.W PyProof.Rows PySem.Calls
set_option Elab.async false
set_option linter.unusedVariables false
set_option maxRecDepth 100000
set_option maxHeartbeats 1000000
namespace Mine
theorem bt_ValueError : bootBuiltins "ValueError" = some (.type "ValueError") := by decide +kernel
theorem sub_valExc : isSubtype (.type "ValueError") (.type "BaseException") = pure true := by rw [isSubtype_type]; kernel_rfl
theorem sub_valVal : isSubtype (.type "ValueError") (.type "ValueError") = pure true := by rw [isSubtype_type]; kernel_rfl
theorem sub_valTup : isSubtype (.type ((Manifest.find? "ValueError").elim "type" fun x => x.metatype)) (.type "tuple") = pure false := by
  have : ((Manifest.find? "ValueError").elim "type" fun x => x.metatype) = "type" := by kernel_rfl
  rw [this, isSubtype_type]; kernel_rfl
/-- the frame of _law_take -/
noncomputable abbrev cxT (prog : Program) (w : World) (A : Around) (W : List Addr) (s₀ : Shared) (L Lw : Addr) (oLw : Obj) (μ : Mu) (s₁ : Shared) : Cx :=
  { prog := prog, w := w, A := A, nm := naOf (stNo 14), sc := scOf (stNo 14), fa := 143, cd := (fdOf w.params 143).code, W := W, s₀ := s₀, L := L, μ := μ, H := [(Lw, oLw)], V := [], G := [], s₁ := s₁, lo := (· < L), top := L, z := Lw }
noncomputable abbrev envT (w : World) (L : Addr) : Env := envOf (naOf (stNo 14)) (scOf (stNo 14)) L 143 (fdOf w.params 143).code
def toldMu (S : Addr) (ds : List D) : Mu := lk [("told", .own S ds)]
theorem toldMu_fl {S : Addr} {ds : List D} (h : ∀ d ∈ ds, Fl d) : ∀ x e, toldMu S ds x = some e → FlE e := fun x e hx => by
  have : e = .own S ds := by
    simp only [toldMu, lk, List.lookup_cons, List.lookup_nil] at hx
    split at hx
    · exact (Option.some.inj hx).symm
    · cases hx
  subst this
  exact h
section
variable {prog : Program} {w : World} {mg mb : Str → Option Value} {A : Around} {W : List Addr} {s₀ s₁ s s' : Shared} {L Lw S Lg N : Addr} {oLw : Obj} {ds : List D} {es : Array DictEntry} {ep : Nat}
/-- the generator has run one step: the frame -/
theorem take_kp {g : Nat} (F : FrD (cxT prog w A W s₀ L Lw oLw (toldMu S ds) s₁) s) (hfl : ∀ d ∈ ds, Fl d) (hLg : L < Lg) (hN : N = Lg + 2) (hW : ∀ b ∈ W, b < Lg) (h0 : s₀.heap.objs.size ≤ Lg) (hg : s₀.gens.size ≤ g) (k : KP Lg Lg N g s s') (hLw : Lw < Lg) : FrD (cxT prog w A W s₀ L Lw oLw (toldMu S ds) s₁) s' := by
  subst hN
  have lt : ∀ b : Nat, b < Lg → b < Lg + 2 ∧ b ≠ Lg := fun b h => ⟨by omega, by omega⟩
  refine FrD.kpx (N := Lg + 2) (Lg := Lg) (Fs := []) (g := g) (H' := [(Lw, oLw)]) F rfl rfl (toldMu_fl hfl) (fun b hb => lt b (hW b hb)) (fun b o e => lt b (Nat.lt_of_lt_of_le (Heap.lt_size e) h0)) (fun b o h _ => lt b (Nat.lt_trans h hLg)) (lt L hLg) (fun b hb => Nat.le_of_lt hb) (fun _ h => nomatch h) (fun _ h => nomatch h) (fun b o h _ e => k.obj b o (h.imp (fun h => ⟨h.1, h.2, h.2⟩) id) e) (fun _ h => nomatch h) k.os k.gens hg k.bare (fun p hp => ?_)
  rcases List.mem_cons.mp hp with rfl | hp
  · have := F.hh (Lw, oLw) (.head _)
    exact ⟨⟨_, .head _⟩, this.c, this.t, k.obj _ _ (.inl ⟨(lt Lw hLw).1, (lt Lw hLw).2, (lt Lw hLw).2⟩) this.g⟩
  · exact absurd hp List.not_mem_nil
/-- the generator has raised: the frame -/
theorem take_exc {g : Nat} {base : Heap} (F : FrD (cxT prog w A W s₀ L Lw oLw (toldMu S ds) s₁) s) (hfl : ∀ d ∈ ds, Fl d) (hLg : L < Lg) (hN : N = Lg + 2) (hW : ∀ b ∈ W, b < Lg) (h0 : s₀.heap.objs.size ≤ Lg) (hg : s₀.gens.size ≤ g) (hLw : Lw < Lg)
    (hob : ∃ es ep, oLw.data = .dict es ep) (hs0 : s₀.heap.get? Lw = none) (hs0L : s₀.heap.get? L = none)
    (keep : ∀ b o, ((b < N ∧ b ≠ Lg ∧ b ≠ Lg) ∨ (o.cls = .type "tuple" ∧ ∃ i n, o.data = .seq i n)) → b ∉ [L, Lw] → s.heap.get? b = some o → base.get? b = some o) (hst : base.StaysIn s'.heap)
    (hfs : ∀ f ∈ [L, Lw], ∀ o, s.heap.get? f = some o → (∀ vs, o.data ≠ .fields vs) → ∃ sl, s'.heap.get? f = some { o with slots := sl })
    (hos : s'.os = s.os) (hgens : ∀ (i : Nat) x, i < g → s.gens[i]? = some x → s'.gens[i]? = some x) (hbare : AllBare s.gens → AllBare s'.gens) :
    ∃ sl, FrD (cxT prog w A W s₀ L Lw { oLw with slots := sl } (toldMu S ds) s₁) s' := by
  subst hN
  have lt : ∀ b : Nat, b < Lg → b < Lg + 2 ∧ b ≠ Lg := fun b h => ⟨by omega, by omega⟩
  have hl := F.hh (Lw, oLw) (.head _)
  obtain ⟨es, ep, hd⟩ := hob
  obtain ⟨sl, hsl⟩ := hfs Lw (.tail _ (.head _)) oLw hl.g (fun vs q => by rw [hd] at q; cases q)
  refine ⟨sl, FrD.kpx (N := Lg + 2) (Lg := Lg) (Fs := [L, Lw]) (g := g) (H' := [(Lw, { oLw with slots := sl })]) F rfl rfl (toldMu_fl hfl) (fun b hb => lt b (hW b hb)) (fun b o e => lt b (Nat.lt_of_lt_of_le (Heap.lt_size e) h0)) (fun b o h _ => lt b (Nat.lt_trans h hLg)) (lt L hLg) (fun b hb => Nat.le_of_lt hb) (fun f hf => ?_) (fun f hf => ?_) (fun b o h1 h2 e => hst b o (keep b o (h1.imp (fun h => ⟨h.1, h.2, h.2⟩) id) h2 e)) (fun f hf => ?_) hos hgens hg hbare (fun p hp => ?_)⟩
  · rcases List.mem_cons.mp hf with rfl | hf
    · exact hs0L
    · rcases List.mem_cons.mp hf with rfl | hf
      · exact hs0
      · exact absurd hf List.not_mem_nil
  · rcases List.mem_cons.mp hf with rfl | hf
    · exact .inl rfl
    · rcases List.mem_cons.mp hf with rfl | hf
      · exact .inr (.inl rfl)
      · exact absurd hf List.not_mem_nil
  · rcases List.mem_cons.mp hf with rfl | hf
    · obtain ⟨m, hm, _⟩ := F.fr
      obtain ⟨o, es1, ep1, ho, hd1, _⟩ := hm.ns
      obtain ⟨sl1, h1⟩ := hfs _ (.head _) o ho (fun vs q => by rw [hd1] at q; cases q)
      exact ⟨o, es1, ep1, ho, hd1, sl1, h1⟩
    · rcases List.mem_cons.mp hf with rfl | hf
      · exact ⟨oLw, es, ep, hl.g, hd, sl, hsl⟩
      · exact absurd hf List.not_mem_nil
  · rcases List.mem_cons.mp hp with rfl | hp
    · refine ⟨⟨_, .head _⟩, fun i n e => ?_, fun e => ?_, hsl⟩
      · have : ({ oLw with slots := sl } : Obj).data = (listOf i n).data := congrArg Obj.data e
        replace this : oLw.data = (listOf i n).data := this
        rw [hd] at this
        cases this
      · obtain ⟨_, i, n, e⟩ := e
        have e' : oLw.data = .seq i n := e
        rw [hd] at e'
        cases e'
    · exact absurd hp List.not_mem_nil
end
end Mine
end
section
open PySem PySem.W PyProof.Rows PySem.Calls
set_option Elab.async false
set_option linter.unusedVariables false
set_option maxRecDepth 100000
set_option maxHeartbeats 1000000
namespace Mine
theorem FrD.aA {c : Cx} {s : Shared} {A' : Around} (F : FrD c s) : FrD { c with A := A' } s := F.atS
theorem toldMu_up {S : Addr} {ds : List D} {x : Str} (hx : x ≠ "told") {e : Option Ent} : ∀ y en, toldMu S ds y = some en → upd (toldMu S ds) x e y = some en := fun y en h => by
  unfold upd
  by_cases q : y = x
  · subst q
    simp only [toldMu, lk, List.lookup_cons, List.lookup_nil] at h
    rw [show (y == ("told" : Str)) = false by simpa using hx] at h
    cases h
  · rw [if_neg q]; exact h
section
variable {prog : Program} {w : World} {mg mb : Str → Option Value}
/-- _law_take, its list made -/
theorem take_body {A : Around} {W Wl : List Addr} {s₀ sC : Shared} {L Lw S c' : Addr} {oLw oc : Obj} {d : D} {bs : List (List UInt8)} {text : List UInt8} {items : List It} {refused : Bool} {outer : List Env} {Q : Flow → Shared → Prop} {E : Value → Shared → Prop}
    (T : Top1 w mg mb s₀.heap) (tb : Tab w s₀.heap c' oc) (hr : Room A 12) (hfr : A.frames = some (envT w L :: outer)) (hout : ∀ env ∈ outer, env.scope.kind ≠ .module ∧ env.frame = some Lw) (hob : ∃ es ep, oLw.data = .dict es ep) (hs0 : s₀.heap.get? Lw = none) (hs0L : s₀.heap.get? L = none)
    (hWl : ∀ a ∈ Wl, a ∈ W ∧ a ≠ S) (hd : d = .list (bs.map D.bytes) ∨ d = .tuple (bs.map D.bytes)) (htext : joinB [] bs = text) (hz : text.length ≤ 800) (hits : pmGo none [] (linesB text) = (items, refused)) (hlen : items.length ≤ 900)
    (hR : ∀ v s' sl, Ext s₀ s' → Den Wl s'.heap v (.tuple [.list (items.map It.d), .bool refused]) → s'.heap.get? Lw = some { oLw with slots := sl } → Q (.ret v) s') :
    Blk (cxT prog w A W s₀ L Lw oLw (upd (muOf [("chunks", d)]) "told" (some (.own S []))) sC) ((bdOf (stNo 14)).drop 1) Q E := by
  have hfl : ∀ d ∈ items.map It.d, Fl d := fun d hd => by
    obtain ⟨i, _, rfl⟩ := List.mem_map.mp hd
    exact i.fl
  have hflk : ∀ k, ∀ d ∈ (items.map It.d).take k, Fl d := fun k d hd => hfl d (List.mem_of_mem_take hd)
  refine Blk.stmt fun s F => wpAny_Try_except (wpAny_execs_cons (wpAny_For (eval_gen (c := cxT prog w A W s₀ L Lw oLw (upd (muOf [("chunks", d)]) "told" (some (.own S []))) sC) (k := 1) (ps := [("chunks", d)]) T (hr.le (by omega)) (.global T (nm_some T (nm93 _))) (JS1 (J_name rfl)) (fn93 _) (cd93 _) (fun vs hv => by
    match vs, hv with
    | [v], _ => exact ⟨_, bind93 _ v, rfl, rfl⟩) fine93 rfl F fun s₁ s' binds ga e1 F1 hga M b2 b3 => ?_)))
  subst hga
  refine wpAny_pyIter_gen M.gen ?_
  have T1 := F1.top T
  have hcl := cstat_lt T1
  have hs0S : s₀.heap.get? S = none := (F1.new "told" S [] rfl).1
  have hF' : FrD (cxT prog w A W s₀ L Lw oLw (toldMu S ((items.map It.d).take 0)) sC) s' := (F1.go M.ext).weaken (weak_of ⟨rfl, trivial⟩)
  have hMs := M.size
  have hMg := M.gen
  have hLg : L < s₁.heap.objs.size := by obtain ⟨m, hm, _⟩ := F1.fr; exact hm.ns.lt
  have hLwg : Lw < s₁.heap.objs.size := Heap.lt_size (F1.hh (Lw, oLw) (.head _)).g
  have hWg : ∀ b ∈ W, b < s₁.heap.objs.size := fun b hb => let ⟨o, ho⟩ := F1.live b hb; Heap.lt_size ho
  have hSW : S ∈ W := by
    obtain ⟨m, hm, hμ⟩ := F1.fr
    obtain ⟨v, _, _, h, _⟩ := hμ "told" (.own S []) rfl
    exact h
  have hLW : L ∈ W := F1.lw
  have h0sz : s₀.heap.objs.size ≤ s₁.heap.objs.size := by
    obtain ⟨m, hm, _⟩ := F1.fr
    exact Nat.le_trans hm.above (Nat.le_of_lt hLg)
  have h0g : s₀.gens.size ≤ s₁.gens.size := by
    by_cases q : s₀.gens.size = 0
    · omega
    · have h0 := Array.getElem?_eq_getElem (xs := s₀.gens) (i := s₀.gens.size - 1) (by omega)
      have := (Array.getElem?_eq_some_iff.mp (F1.ext.gens _ _ h0)).1
      omega
  have hNL : NFat s'.heap L := by
    obtain ⟨m, hm, _⟩ := hF'.fr
    obtain ⟨o, es, ep, ho, hd, _⟩ := hm.ns
    exact ⟨o, ho, fun vs q => by rw [hd] at q; cases q⟩
  have hNS : NFat s'.heap S := by
    obtain ⟨vs, n, ho, _⟩ := own_at hF' (x := "told") rfl
    exact ⟨_, ho, fun vs q => by cases q⟩
  have hNLw : NFat s'.heap Lw := by
    obtain ⟨es, ep, hd⟩ := hob
    exact ⟨oLw, (hF'.hh (Lw, oLw) (.head _)).g, fun vs q => by rw [hd] at q; cases q⟩
  generalize hLgd : s₁.heap.objs.size = Lg at *
  generalize hgd : s₁.gens.size = g at *
  have lt : ∀ b : Nat, b < Lg → b < Lg + 2 ∧ b ≠ Lg ∧ b ≠ Lg := fun b h => ⟨by omega, by omega, by omega⟩
  have cLS : ∀ b ∈ [L, S], b ∈ W := fun b hb => by
    rcases List.mem_cons.mp hb with rfl | hb
    · exact hLW
    · rcases List.mem_cons.mp hb with rfl | hb
      · exact hSW
      · exact absurd hb List.not_mem_nil
  have c0 : ∀ b ∈ [L, S], s₀.heap.get? b = none := fun b hb => by
    rcases List.mem_cons.mp hb with rfl | hb
    · exact hs0L
    · rcases List.mem_cons.mp hb with rfl | hb
      · exact hs0S
      · exact absurd hb List.not_mem_nil
  have G0 : GIt prog w A (Lg + 1) g (RN (fun h => refused = false ∧ True) (fun s₁ e s' => refused = true ∧ XEnd [L, Lw] (envT w L :: outer) Lg Lg (Lg + 2) g s₁ e s') Lg Lg (Lg + 2) g) [L, S] W Lg Lg (Lg + 2) (items.map It.d) 0 s' := by
    have := git_made (prog := prog) (A := A) (sG := s') (X := [L, S]) (Wc := [L, S]) (H0 := []) (L := Lg) (N := Lg + 2) (top := Lg + 1) (z := Lg) (its := items.map It.d) (R := RN (fun h => refused = false ∧ True) (fun s₁ e s' => refused = true ∧ XEnd [L, Lw] (envT w L :: outer) Lg Lg (Lg + 2) g s₁ e s') Lg Lg (Lg + 2) g) M T1 F1.live b2 b3 hLgd (.refl _) rfl cLS (fun b hb => ⟨.inl hb, lt b (hWg b (cLS b hb)), let ⟨o, ho⟩ := F1.live b (cLS b hb); ⟨o, M.ext.keep _ _ ho⟩⟩)
      (let ⟨o, _, _, ho, _⟩ := hMg; ⟨o, ho⟩) (Nat.le_refl _) (fun p hp => nomatch hp) (fun s'' F' e0 ag S' => ?_)
    · rw [hgd] at this
      exact this
    · rw [← hgd]
      have tb' : Tab w (baseG s₁ [L, S]).heap c' oc := tb.keeps fun b o e => hideAll_get _ (F1.ext.keep _ _ e) fun hm => by rw [c0 b hm] at e; cases e
      refine pm_seg (Z := fun _ => True) (Fs := [L, Lw]) (outer := envT w L :: outer) (refused := refused) (bs := bs) (d := d) (text := text) (items := items) hd htext (Top1.hide T F1.ext.keep c0) (hr.in1.le (by omega)) (fun f hf => ?_) hz (fun f hf => ?_) (.hit tb' fun _ => trivial) (by rw [hits]) (by rw [hits]) (fun h => ⟨fun s₁ e s' x => ⟨h, x⟩, hfr, fun env he => ?_⟩) F' e0 S'
      · rcases List.mem_cons.mp hf with rfl | hf
        · exact lt _ hLg
        · rcases List.mem_cons.mp hf with rfl | hf
          · exact lt _ hLwg
          · exact absurd hf List.not_mem_nil
      · rcases List.mem_cons.mp hf with rfl | hf
        · exact ag.nf _ (.head _) hNL
        · rcases List.mem_cons.mp hf with rfl | hf
          · by_cases q : f ∈ [L, S]
            · exact ag.nf _ q hNLw
            · obtain ⟨o, ho, hd⟩ := hNLw
              exact ⟨o, ag.obj _ _ q ho, hd⟩
          · exact absurd hf List.not_mem_nil
      · rcases List.mem_cons.mp he with rfl | he
        · exact ⟨by show (scOf (stNo 14)).kind ≠ .module; decide, L, .head _, rfl⟩
        · exact ⟨(hout env he).1, Lw, .tail _ (.head _), (hout env he).2⟩
  have lenT : ∀ k, k ≤ items.length → ((items.map It.d).take k).length ≤ 1000 := fun k hk => by rw [List.length_take, List.length_map]; omega
  refine codeAny_forLoop (fun n s => ∃ k, n + k = items.length + 1 ∧ k ≤ items.length ∧ FrD (cxT prog w A W s₀ L Lw oLw (toldMu S ((items.map It.d).take k)) sC) s ∧ GIt prog w A (Lg + 1) g (RN (fun h => refused = false ∧ True) (fun s₁ e s' => refused = true ∧ XEnd [L, Lw] (envT w L :: outer) Lg Lg (Lg + 2) g s₁ e s') Lg Lg (Lg + 2) g) [L, S] W Lg Lg (Lg + 2) (items.map It.d) k s) ?_ (items.length + 1) ⟨0, rfl, Nat.zero_le _, hF', G0⟩ (fun _ => rfl)
  rintro n s₂ ⟨k, hn, hk, F2, G2⟩
  refine next_gen hr.hh hr.lim ⟨by omega, Nat.succ_ne_self _, Nat.succ_ne_self _⟩ ⟨Nat.lt_of_lt_of_le hcl (Nat.le_add_right _ _), Nat.ne_of_lt hcl, Nat.ne_of_lt hcl⟩ (fun _ _ h => h) G2 (fun v di s₃ hk' hdi hden kp G3 => ?_) (fun s₃ hk' kp hz3 => ?_) (fun s₃ e hk' hx => ?_)
  · -- one more
    have F3 := take_kp F2 (hflk k) hLg rfl hWg h0sz h0g kp hLwg
    rw [List.length_map] at hk'
    have htk : (items.map It.d).take (k + 1) = (items.map It.d).take k ++ [di] := by rw [List.take_add_one, hdi]; rfl
    obtain ⟨gs3, hgs3, _⟩ := G3.gs
    refine wpAny_mono (assign_step (c := cxT prog w A W s₀ L Lw oLw (toldMu S ((items.map It.d).take k)) sC) (x := "row") F3 hden rfl rfl) (fun _ s₄ ⟨F4, k4⟩ => ?_) fun _ _ x => x
    have G4 := G3.agree (k4.agree (g := g) (Wc := [L, S]) (fun b hb => by
      rcases List.mem_cons.mp hb with rfl | hb
      · exact .head _
      · exact absurd hb List.not_mem_nil)) (fun hm => ?_) (fun hm => ?_) ((k4.gens _ _ hgs3).trans hgs3.symm)
    · refine wpAny_execs_cons (wpAny_mono (append_step (c := (cxT prog w A W s₀ L Lw oLw (toldMu S ((items.map It.d).take k)) sC).up "row" (some (.val di))) (a := S) (ds := (items.map It.d).take k) (d := di) F4 (by rfl) (J_name rfl) (lenT k hk)) (fun f s₅ ⟨ef, F5, k5⟩ => ?_) fun _ _ x => x)
      subst ef
      refine wpAny_execs_nil ⟨n - 1, by omega, k + 1, by omega, hk', ?_, ?_⟩
      · rw [htk]
        exact F5.weaken (weak_of ⟨rfl, trivial⟩)
      · obtain ⟨gs4, hgs4, _⟩ := G4.gs
        exact G4.agree (k5.agree (g := g) (Wc := [L, S]) (fun b hb => by
          rcases List.mem_cons.mp hb with rfl | hb
          · exact .tail _ (.head _)
          · exact absurd hb List.not_mem_nil)) (fun hm => absurd (hWg _ (cLS _ hm)) (Nat.not_lt.mpr (Nat.le_succ _))) (fun hm => by
          have h1 := c0 _ hm
          obtain ⟨mc, hn, _⟩ := T.lim
          obtain ⟨o, _, _, ho, _⟩ := hn
          rw [h1] at ho; cases ho) ((k5.gens _ _ hgs4).trans hgs4.symm)
    · exact absurd (hWg _ (cLS _ hm)) (Nat.not_lt.mpr (Nat.le_succ _))
    · have h1 := c0 _ hm
      obtain ⟨mc, hn, _⟩ := T.lim
      obtain ⟨o, _, _, ho, _⟩ := hn
      rw [h1] at ho; cases ho
  · -- the end
    rw [List.length_map] at hk'
    have F3 := take_kp F2 (hflk k) hLg rfl hWg h0sz h0g kp hLwg
    have ek : k = items.length := by omega
    subst ek
    have eall : (items.map It.d).take items.length = items.map It.d := List.take_of_length_le (by simp)
    rw [eall] at F3
    obtain ⟨hnr, _⟩ := hz3
    subst hnr
    refine wpAny_execs_nil ?_
    refine wpAny_execs_nil ?_
    refine wpAny_execs_nil ?_
    refine Blk.run (c := cxT prog w A W s₀ L Lw oLw (toldMu S (items.map It.d)) sC) (Blk.disown (x := "told") (a := S) (ds := items.map It.d) rfl ?_) s₃ F3
    refine Blk.ret (d := .tuple [.list (items.map It.d), .bool false]) ?_ fun v s' F9 x9 => ?_
    · exact J_tuple (JS.cons (J_name rfl) (JS.cons J_bool JS.nil))
    exact hR v s' oLw.slots F9.ext (x9.sub fun a ha => List.mem_filter.mpr ⟨(hWl a ha).1, by simpa using (hWl a ha).2⟩) (F9.hh (Lw, oLw) (.head _)).g
  · -- a raise
    obtain ⟨hrf, X⟩ := hx
    subst hrf
    obtain ⟨base, a0, R0, hbF, hbk⟩ := X.fly
    have hTy : ∀ h', Trc base (envT w L :: outer) e (.type "ValueError") a0 .none h' → ∀ st : Shared, st.heap = h' → st.TypeIs (.ref e) "ValueError" := fun h' R st q => by
      obtain ⟨ob, h1, h2⟩ := R.there
      exact ⟨ob, by rw [q]; exact h1, h2⟩
    have fin : ∀ h', base.StaysIn h' → s₃.heap.UpToSlots h' → ∃ sl, FrD (cxT prog w A W s₀ L Lw { oLw with slots := sl } (toldMu S ((items.map It.d).take k)) sC) { s₃.setGen g .finished with heap := h' } := fun h' hst u => by
      refine take_exc (g := g) (base := base) F2 (hflk k) hLg rfl hWg h0sz h0g hLwg hob hs0 hs0L (fun b o h1 h2 e => hbk b o h1 h2 e) hst (fun f hf o ho hd => ?_) X.os (fun i x hi hx => ?_) (fun h => allBare_set (X.bare (allBare_set h rfl)) rfl)
      · obtain ⟨sl, h1⟩ := X.fs f hf o ho hd
        obtain ⟨sl2, h2⟩ := u f _ h1 hd
        exact ⟨sl2, h2⟩
      · have hne : i ≠ g := Nat.ne_of_lt hi
        exact (setGen_ne hne).trans (X.gens i x hi ((setGen_ne hne).trans hx))
    have ek : k = items.length := by rw [List.length_map] at hk'; omega
    have eall : (items.map It.d).take k = items.map It.d := by rw [ek]; exact List.take_of_length_le (by simp)
    rw [eall] at fin
    refine ⟨?_, hTy _ R0 s₃ rfl, ?_⟩
    · obtain ⟨o, nm, qn, ho, hr'⟩ := G2.obj
      refine ⟨o, nm, qn, R0.stay _ _ (hbk _ o (.inl ⟨Nat.lt_succ_self _, Nat.succ_ne_self _, Nat.succ_ne_self _⟩) (fun hm => ?_) ho), hr'⟩
      rcases List.mem_cons.mp hm with q | hm
      · exact absurd (q ▸ hLg) (Nat.not_lt.mpr (Nat.le_succ _))
      · rcases List.mem_cons.mp hm with q | hm
        · exact absurd (q ▸ hLwg) (Nat.not_lt.mpr (Nat.le_succ _))
        · exact absurd hm List.not_mem_nil
    · refine trc_on (A := A) (L := L) (env := envT w L) (outer := outer) (s := s₃.setGen g .finished) hfr rfl R0 fun h1 R1 u1 => ?_
      refine trc_cameBack (L := L) rfl R1 fun h2 R2 u2 => ?_
      refine trc_again (L := L) (l := envT w L :: outer) (base := base) (cls := .type "ValueError") (a0 := a0) rfl R2 ?_
      refine trc_set (fr := none) (l := envT w L :: outer) (base := base) (cls := .type "ValueError") (a0 := a0) R2 fun h3 R3 u3 => ?_
      have u123 : s₃.heap.UpToSlots h3 := (Heap.UpToSlots.trans u1 u2).trans u3
      refine wpAny_handleBy_builtin (X := "ValueError") (T := "ValueError") (b := true) sub_valExc sub_valTup sub_valVal ?_
      obtain ⟨sl, F4⟩ := fin h3 R3.stay u123
      refine (IsName.builtin (c := cxT prog w (A.mark (some (.ref e))) W s₀ L Lw { oLw with slots := sl } (toldMu S (items.map It.d)) sC) (x := "ValueError") T (nm_none T (nmNo_ValueError _)) bt_ValueError).run _ _ _ _ F4.aA ⟨rfl, hTy _ R3 _ rfl, ?_⟩
      rw [if_pos rfl]
      refine trc_set (fr := none) (l := envT w L :: outer) (base := base) (cls := .type "ValueError") (a0 := a0) R3 fun h4 R4 u4 => ?_
      obtain ⟨sl4, F5⟩ := fin h4 R4.stay (u123.trans u4)
      refine Blk.run (c := cxT prog w (A.mark (some (.ref e))) W s₀ L Lw { oLw with slots := sl4 } (toldMu S (items.map It.d)) sC) (Blk.disown (x := "told") (a := S) (ds := items.map It.d) rfl ?_) _ F5.aA
      refine Blk.ret (d := .tuple [.list (items.map It.d), .bool true]) ?_ fun v s' F9 x9 => ?_
      · exact J_tuple (JS.cons (J_name rfl) (JS.cons J_bool JS.nil))
      exact hR v s' sl4 F9.ext (x9.sub fun a ha => List.mem_filter.mpr ⟨(hWl a ha).1, by simpa using (hWl a ha).2⟩) (F9.hh (Lw, { oLw with slots := sl4 }) (.head _)).g
end
end Mine
end
section
open PySem PySem.W PyProof.Rows PySem.Calls
set_option Elab.async false
set_option linter.unusedVariables false
set_option maxRecDepth 100000
set_option maxHeartbeats 1000000
namespace Mine
/-- a comprehension's frame -/
abbrev compCx (c : Cx) (scope : Scope) (L : Addr) (W : List Addr) (H : List (Addr × Obj)) (V : List (Value × D)) (s₀ : Shared) (μ : Mu) : Cx :=
  { prog := c.prog, w := c.w, A := c.A, nm := c.nm, sc := scope, fa := c.fa, cd := c.cd, W := W, s₀ := s₀, L := L, μ := μ, H := H, V := V, G := [], s₁ := s₀, lo := fun b => b < s₀.heap.objs.size, top := L, z := L, fn := none, frm := c.frm }
section
variable {c : Cx} {s : Shared}
/-- a private object, a list even, is altered; the frame has no lists of its own -/
theorem FrD.touchL {h' : Heap} {tk : Nat} {b : Addr} {ob : Obj} (F : FrD c s) (hno : ∀ x a ds, c.μ x ≠ some (.own a ds)) (hb : b ∈ c.W) (hn : Free c b) (hL : b ≠ c.L) (hg : s.heap.get? b = some ob) (ht : NT ob)
    (hH : ∀ p ∈ c.H, p.1 ≠ b) (hs : ∀ a o, a ≠ b → s.heap.get? a = some o → h'.get? a = some o) (ho : ∃ o, h'.get? b = some o) : FrD c { s with heap := h', toks := tk } := by
  obtain ⟨m, hm, hμ⟩ := F.fr
  have k : Kb c.W s.heap h' := Kb.change hb hs
  refine ⟨⟨m, ⟨let ⟨o, es, ep, h1, r⟩ := hm.ns; ⟨o, es, ep, hs _ _ hL.symm h1, r⟩, fun a o e => hs a o (Free.ne hn e) (hm.keep a o e), hm.above⟩, fun y e hy => ?_⟩, F.inj, F.new, ⟨tl_change F.tl.1 hs ho, fun b hb => (F.tl.2 b hb).imp id fun h => tl_change h hs ho⟩, F.lw, F.live.change hs ho, F.ext.change tk hn.1 hs, fun p hp => let ⟨a1, b1, d, e, t, f⟩ := F.hh p hp; ⟨a1, b1, d, e, t, hs _ _ (fun q => hH p hp q) f⟩, fun q hq => (F.vv q hq).kb k, F.gg, F.krc (fun o h1 => by rw [hg] at h1; cases h1; exact hn.prot ht) hs⟩
  obtain ⟨u, hu, he⟩ := hμ y e hy
  refine ⟨u, hu, ?_⟩
  cases e with
  | val d => exact Den.kb k he
  | own a es => exact absurd hy (hno _ _ _)
/-- a barred object is given up -/
theorem FrD.forgetN {h' : Heap} {tk : Nat} {b : Addr} {ob : Obj} (F : FrD { c with W := b :: c.W } s) (hob : s.heap.get? b = some ob) (hcl : NL ob) (hct : NT ob) (hbL : b ≠ c.L) (hH : ∀ p ∈ c.H, p.1 ≠ b) (hn : Free c b)
    (hs : ∀ a o, a ≠ b → s.heap.get? a = some o → h'.get? a = some o) (hW : c.L ∈ c.W) (hbW : b ∉ c.W) (hbt : b ≠ c.top) (hblo : ¬ c.lo b) : FrD c { s with heap := h', toks := tk } := by
  obtain ⟨m, hm, hμ⟩ := F.fr
  have k : Kb (b :: c.W) s.heap h' := Kb.change (.head _) hs
  have sb : ∀ a ∈ c.W, a ∈ b :: c.W := fun a ha => .tail _ ha
  refine ⟨⟨m, ⟨let ⟨o, es, ep, h1, r⟩ := hm.ns; ⟨o, es, ep, hs _ _ hbL.symm h1, r⟩, fun a o e => hs a o (Free.ne hn e) (hm.keep a o e), hm.above⟩, fun y e hy => ?_⟩, F.inj, F.new, ⟨let ⟨o, h⟩ := F.tl.1; ⟨o, hs _ _ hbt.symm h⟩, fun a ha => ?_⟩, hW, fun a ha => ?_, F.ext.change tk hn.1 hs,
    fun p hp => let ⟨a1, b1, d, e, t, f⟩ := F.hh p hp; ⟨?_, b1, d, e, t, hs _ _ (hH p hp) f⟩, fun q hq => ((F.vv q hq).kb k).sub sb, F.gg, F.krc (fun o h1 => by rw [hob] at h1; cases h1; exact Free.prot (c := c) hn hct) hs⟩
  · obtain ⟨u, hu, he⟩ := hμ y e hy
    refine ⟨u, hu, ?_⟩
    cases e with
    | val d => exact (Den.kb k he).sub sb
    | own a es =>
      obtain ⟨r1, r2, us, j, r3, r4⟩ := he
      have hab : a ≠ b := fun q => by subst q; rw [hob] at r3; exact hcl _ _ (Option.some.inj r3)
      refine ⟨r1, ?_, us, j, hs a _ hab r3, (r4.kb k).sub sb⟩
      rcases List.mem_cons.mp r2 with h | h
      · exact absurd h hab
      · exact h
  · refine (F.tl.2 a ha).imp id fun ⟨o, h⟩ => ⟨o, hs a o (fun q => hblo (q ▸ ha)) h⟩
  · obtain ⟨o, ho⟩ := F.live a (.tail _ ha)
    have hab : a ≠ b := fun q => hbW (q ▸ ha)
    exact ⟨o, hs a o hab ho⟩
  · have := a1
    rcases List.mem_cons.mp this with h | h
    · exact absurd h (hH p hp)
    · exact h
theorem lk1_no {x : Str} {d : D} : ∀ y a ds, lk [(x, .val d)] y ≠ some (.own a ds) := fun y a ds h => by
  simp only [lk, List.lookup_cons, List.lookup_nil] at h
  split at h <;> cases h
theorem lk0_no : ∀ y a ds, lk [] y ≠ some (.own a ds) := fun y a ds h => by cases h
theorem comp_core {elt iter : PySem.Expr} {x : Str} {px : Pos} {ifs : List PySem.Expr} {scope : Scope} {pos : Pos} {ds : List D} {f : D → D} {p : D → Bool} {s₁ : Shared} {E : Value → Shared → Prop} {RR : Value → Env → Result → Shared → Prop} {l : Addr} {vs0 : List Value} (hh : c.A.handled = none) (F1 : FrD c s₁) (hnw : l ∉ c.W) (hl0 : s₁.heap.IsList l vs0.toArray) (hds : DenAll c.W s₁.heap vs0 ds) (hz : ds.length ≤ 1000)
    (test : ∀ W' H' V' L' s' d s E, Ext c.s₀ s' → d ∈ ds → FrD (compCx c scope L' W' H' V' s' (lk [(x, .val d)])) s → wpAny c.M c.A (forIn ifs true fun t r => if r = true then do let ok ← isTrue t (compCx c scope L' W' H' V' s' (lk [(x, .val d)])).env (eval t (compCx c scope L' W' H' V' s' (lk [(x, .val d)])).env); pure (ForInStep.yield ok) else pure (ForInStep.yield r)) (fun ok s₃ => ok = p d ∧ Ext s s₃) E s)
    (step : ∀ W' H' V' L' s' d, Ext c.s₀ s' → d ∈ ds → p d = true → J (compCx c scope L' W' H' V' s' (lk [(x, .val d)])) elt (f d))
    (hRR : ∀ D C s', s₁.heap.get? D = none → s₁.heap.objs.size ≤ C → Ext s₁ s' → (∃ m, s'.heap.Ns C m) → Den (C :: c.W) s'.heap (.ref D) (.list ((ds.filter p).map f)) → RR (.ref D) (compCx c scope C [] [] [] s₁ (lk [])).env (.ok .next) s')
    (hkind : scope.kind = .function) (hl : scope.names.lookup x = some .local) (hcell : ∀ y ∈ scope.names, y.2 ≠ .cell) :
    wpAny c.M c.A (pyIter (.ref l)) (fun it s₂ => wpAny c.M c.A (newList []) (fun acc s₃ => wpAny c.M c.A (newFunctionEnv scope c.env.globals [] [] c.env.qual none .none (some c.env)) (fun cenv s₄ =>
      codeAny c.M c.A (.compStart (.ListComp elt [⟨.Name x px, iter, ifs, 0⟩] scope pos) 0 it acc { cenv with scope := scope }) (RR acc { cenv with scope := scope }) s₄) E s₃) E s₂) E s₁ := by
  refine wpAny_pyIter_list hl0 ?_
  refine wpAny_newObj_type ?_ (by size_fits)
  generalize hit : s₁.heap.objs.size = it
  have hsz2 : (s₁.heap.push { cls := .type "list_iterator", data := .fields #[.ref l, .int 0 0] }).objs.size = it + 1 := by rw [Heap.size_push, hit]
  have hitn : s₁.heap.get? it = none := hit ▸ get_size _
  have hito : (s₁.heap.push { cls := .type "list_iterator", data := .fields #[.ref l, .int 0 0] }).get? it = some { cls := .type "list_iterator", data := .fields #[.ref l, .int 0 0] } := hit ▸ Heap.get?_push_size _ rfl
  obtain ⟨h3, hh3⟩ : ∃ h3 : Heap, h3 = (s₁.heap.push { cls := .type "list_iterator", data := .fields #[.ref l, .int 0 0] }).push { cls := .type "list", data := .seq ([] : List Value).toArray } := ⟨_, rfl⟩
  have hDo : h3.get? (it + 1) = some (listOf ([] : List Value).toArray 0) := by rw [hh3, ← hsz2]; exact Heap.get?_push_size _ rfl
  have hito3 : h3.get? it = some { cls := .type "list_iterator", data := .fields #[.ref l, .int 0 0] } := by rw [hh3]; exact Heap.get?_push_of_some _ hito
  have hsz3 : h3.objs.size = it + 2 := by rw [hh3, Heap.size_push, hsz2]
  have k13 : ∀ b o, s₁.heap.get? b = some o → h3.get? b = some o := fun b o e => by rw [hh3]; exact Heap.get?_push_of_some _ (Heap.get?_push_of_some _ e)
  show wpAny c.M c.A (newFunctionEnv scope c.env.globals [] [] c.env.qual none .none (some c.env)) _ E { s₁ with heap := (s₁.heap.push { cls := .type "list_iterator", data := .fields #[.ref l, .int 0 0] }).push { cls := .type "list", data := .seq ([] : List Value).toArray } }
  rw [← hh3, hsz2]
  refine wpAny_newFunctionEnv hcell (fun _ h => nomatch h) (fun h₁ hns hsb => ?_) hkind
  rw [show ({ s₁ with heap := h3 } : Shared).heap.objs.size = it + 2 from hsz3] at hns hsb ⊢
  have k14 : ∀ b o, b ≠ it + 2 → h3.get? b = some o → h₁.get? b = some o := fun b o hb e => hsb.extBut b o hb (Heap.get?_push_of_some _ e)
  have lt1 : ∀ b o, s₁.heap.get? b = some o → b < it := fun b o e => hit ▸ Heap.lt_size e
  have nL : ∀ b : Nat, b < it → b ≠ it + 2 := fun b h => by omega
  have e4 : Ext s₁ ({ s₁ with heap := h₁, toks := s₁.toks + 0 } : Shared) := .heap _ fun b o e => k14 b o (nL b (lt1 b o e)) (k13 b o e)
  generalize hW : ((it + 2 : Addr) :: (it + 1 : Addr) :: (it : Addr) :: c.W) = W'
  have bar : ∀ b ∈ W', b ∉ c.W → s₁.heap.get? b = none := fun b hb hn => by
    rw [← hW] at hb
    rcases List.mem_cons.mp hb with rfl | hb
    · exact Heap.get?_none_of_le (by rw [hit]; omega)
    · rcases List.mem_cons.mp hb with rfl | hb
      · exact Heap.get?_none_of_le (by rw [hit]; omega)
      · rcases List.mem_cons.mp hb with rfl | hb
        · exact hitn
        · exact absurd hb hn
  have hsub : ∀ a ∈ c.W, a ∈ W' := fun a ha => hW ▸ .tail _ (.tail _ (.tail _ ha))
  have hLo : ∃ o, h₁.get? (it + 2) = some o := let ⟨o, _, _, ho, _⟩ := hns; ⟨o, ho⟩
  have hD4 : h₁.get? (it + 1) = some (listOf ([] : List Value).toArray 0) := k14 _ _ (by show (it + 1 : Nat) ≠ it + 2; omega) hDo
  have hit4 : h₁.get? it = some { cls := .type "list_iterator", data := .fields #[.ref l, .int 0 0] } := k14 _ _ (by show (it : Nat) ≠ it + 2; omega) hito3
  have nitL : it ≠ it + 2 := by omega
  have F4 : FrD (compCx c scope (it + 2) W' [(it, { cls := .type "list_iterator", data := .fields #[.ref l, .int 0 0] })] [(.ref l, .list ds)] s₁ (lk [])) { s₁ with heap := h₁, toks := s₁.toks + 0 } := by
    refine ⟨⟨_, ⟨hns, e4.keep, by show s₁.heap.objs.size ≤ it + 2; rw [hit]; omega⟩, fun y e hy => (by cases hy)⟩, fun y z a ds es h1 _ => (by cases h1), fun y a ds h1 => (by cases h1), ⟨hLo, fun b hb => .inl ?_⟩, hW ▸ .head _, fun b hb => ?_, e4, fun q hq => ?_, fun q hq => ?_, (fun q hq => nomatch hq), fun b o _ h => e4.keep b o h⟩
    · have : b < it := hit ▸ hb
      exact Nat.le_trans (Nat.le_of_lt this) (Nat.le_add_right _ _)
    · rw [show (compCx c scope (it + 2) W' [(it, { cls := .type "list_iterator", data := .fields #[.ref l, .int 0 0] })] [(.ref l, .list ds)] s₁ (lk [])).W = W' from rfl, ← hW] at hb
      rcases List.mem_cons.mp hb with rfl | hb
      · exact hLo
      · rcases List.mem_cons.mp hb with rfl | hb
        · exact ⟨_, hD4⟩
        · rcases List.mem_cons.mp hb with rfl | hb
          · exact ⟨_, hit4⟩
          · obtain ⟨o, ho⟩ := F1.live b hb
            exact ⟨o, e4.keep _ _ ho⟩
    · rcases List.mem_cons.mp hq with rfl | hq
      · exact ⟨hW ▸ .tail _ (.tail _ (.head _)), ⟨hitn, .inl fun (h : it < s₁.heap.objs.size) => Nat.lt_irrefl _ (hit ▸ h)⟩, nitL, .of (by show Value.type "list_iterator" ≠ Value.type "list"; decide), .of (by show Value.type "list_iterator" ≠ Value.type "tuple"; decide), hit4⟩
      · exact absurd hq List.not_mem_nil
    · rcases List.mem_cons.mp hq with rfl | hq
      · exact (Den.bar bar (.list hnw hl0 hds)).ext e4
      · exact absurd hq List.not_mem_nil
  have e01 : Ext c.s₀ s₁ := F1.ext
  have hlx : (compCx c scope (it + 2) W' [] [] s₁ (lk [])).env.kindOf x = some .local := hl
  have loop : codeAny c.M c.A (.compLoop (.ListComp elt [⟨.Name x px, iter, ifs, 0⟩] scope pos) 0 (.ref it) (.ref (it + 1)) (compCx c scope (it + 2) W' [] [] s₁ (lk [])).env) (RR (.ref (it + 1)) (compCx c scope (it + 2) W' [] [] s₁ (lk [])).env) { s₁ with heap := h₁, toks := s₁.toks + 0 } := by
    refine codeAny_compLoop_tests (fun n s => ∃ (i : Nat) (o : Obj) (vs : List Value) (k : Nat), n + i = ds.length + 1 ∧ i ≤ ds.length ∧ FrD (compCx c scope (it + 2) W' [(it, o)] [(.ref l, .list ds)] s₁ (lk [])) s ∧ s.heap.IsListIter it l i ∧ s.heap.get? (it + 1) = some (listOf vs.toArray k) ∧ DenAll W' s.heap vs (((ds.take i).filter p).map f)) ?_ (ds.length + 1) ⟨0, _, [], 0, rfl, Nat.zero_le _, F4, ⟨_, hit4, rfl, rfl⟩, hD4, .nil⟩ (fun _ => rfl)
    rintro n s₂ ⟨i, o, vs, k, hn, hile, F3, hi, hD, hden⟩
    have hhd := F3.hh (it, o) (.head _)
    have hlst := F3.vv (.ref l, .list ds) (.head _)
    cases hlst with
    | list hnl hl3 hds3 =>
    rename_i vs3
    have hlen := hds3.length
    have itW : it ∈ W' := hhd.w
    have LW : (it + 2 : Addr) ∈ W' := F3.lw
    have DW : (it + 1 : Addr) ∈ W' := hW ▸ .tail _ (.head _)
    cases hd : ds[i]? with
    | some d =>
      have hmem : d ∈ ds := List.mem_of_getElem? hd
      obtain ⟨v, hv, hvd⟩ := hds3.get hd
      refine wpAny_pyNext_list_item hi hl3 (x := v) (by simpa using hv) fun h' hi' hsb' => ?_
      obtain ⟨o', ho', hoc, hod⟩ := id hi'
      have F5 := FrD.reheld (c := compCx c scope (it + 2) W' [] [(.ref l, .list ds)] s₁ (lk [])) (H := []) F3 (tk := s₂.toks) (h' := h') (fun p hp => nomatch hp) (Heap.SameBut.to hsb') ho' (by rw [hoc]; decide) (by rw [hoc]; decide)
      have hkb : Kb W' s₂.heap h' := Kb.change itW (Heap.SameBut.to hsb')
      refine wpAny_mono (assign_step (c := compCx c scope (it + 2) W' [(it, o')] [(.ref l, .list ds)] s₁ (lk [])) (x := x) F5 (hvd.kb hkb) hkind hl) (fun _ s₃ ⟨F6, k6⟩ => ?_) fun _ _ y => y
      have F7 : FrD (compCx c scope (it + 2) W' [(it, o')] [(.ref l, .list ds)] s₁ (lk [(x, .val d)])) s₃ := F6.weaken (weak_of ⟨by simp [Cx.up, upd], trivial⟩)
      have kb6 : Kb W' h' s₃.heap := fun b o hb e => k6.obj b o (fun hm => by
        rcases List.mem_cons.mp hm with rfl | hm
        · exact hb LW
        · exact absurd hm List.not_mem_nil) e
      have hD3 : s₃.heap.get? (it + 1) = some (listOf vs.toArray k) := k6.obj _ _ (fun hm => by
        rcases List.mem_cons.mp hm with q | hm
        · exact absurd q (by show (it + 1 : Nat) ≠ it + 2; omega)
        · exact absurd hm List.not_mem_nil) (Heap.SameBut.to hsb' _ _ (by show (it + 1 : Nat) ≠ it; omega) hD)
      refine wpAny_mono (test W' [(it, o')] [(.ref l, .list ds)] (it + 2) s₁ d s₃ _ e01 hmem F7) (fun ok s₄ ⟨eok, e4'⟩ => ?_) fun _ _ y => y
      have F8 := F7.go e4'
      have hlt := (List.getElem?_eq_some_iff.mp hd).1
      have hden4 := ((hden.kb hkb).kb kb6).ext e4'
      have htk : (ds.take (i + 1)).filter p = (ds.take i).filter p ++ (if p d then [d] else []) := take_succ_filter p ds i d hd
      subst eok
      cases hp : p d with
      | false =>
        rw [if_neg Bool.false_ne_true]
        refine ⟨n - 1, by omega, i + 1, o', vs, k, by omega, hlt, F8.weaken (weak_of trivial), ⟨o', (F8.hh _ (.head _)).g, hoc, hod⟩, e4'.keep _ _ hD3, ?_⟩
        rw [htk, hp, if_neg Bool.false_ne_true, List.append_nil]
        exact hden4
      | true =>
        rw [if_pos rfl]
        refine wpAny_mono ((step W' [(it, o')] [(.ref l, .list ds)] (it + 2) s₁ d e01 hmem hp).run s₄ _ F8) (fun y s₅ ⟨e5, x5⟩ => ?_) fun _ _ y => y
        have F9 := F8.go e5
        have hD5 := e5.keep _ _ (e4'.keep _ _ hD3)
        have hvl : vs.length ≤ 1000 := by
          rw [hden.length, List.length_map]
          exact Nat.le_trans (List.length_filter_le _ _) (by rw [List.length_take]; omega)
        refine call_append hD5 (fun h6 n6 ho6 hsb6 => ?_) (by rw [sizeLine_eq, List.size_toArray]; omega)
        rw [List.push_toArray] at ho6
        have F10 := FrD.touchL (tk := s₅.toks) (h' := h6) F9 lk1_no DW (free_of ⟨Heap.get?_none_of_le (by show s₁.heap.objs.size ≤ it + 1; rw [hit]; exact Nat.le_succ _), fun (hb : it + 1 < s₁.heap.objs.size) => by rw [hit] at hb; omega⟩) (by show (it + 1 : Nat) ≠ it + 2; omega) hD5 (.of (by show Value.type "list" ≠ Value.type "tuple"; decide)) (fun q hq => by
          rcases List.mem_cons.mp hq with rfl | hq
          · show (it : Nat) ≠ it + 1; omega
          · exact absurd hq List.not_mem_nil) (Heap.SameBut.to hsb6) ⟨_, ho6⟩
        refine ⟨n - 1, by omega, i + 1, o', vs ++ [y], n6, by omega, hlt, F10.weaken (weak_of trivial), ⟨o', (F10.hh _ (.head _)).g, hoc, hod⟩, ho6, ?_⟩
        rw [htk, hp, if_pos rfl, List.map_append]
        exact DenAll.kb (Kb.change DW (Heap.SameBut.to hsb6)) ((hden4.ext e5).append (.cons x5 .nil))
    | none =>
      have hge : ds.length ≤ i := List.getElem?_eq_none_iff.mp hd
      have ei : i = ds.length := by omega
      subst ei
      rw [List.take_length] at hden
      refine wpAny_pyNext_list_end hh hi hl3 (by rw [List.getElem?_toArray]; exact List.getElem?_eq_none (by omega)) fun h' he => ?_
      obtain ⟨m, hm, _⟩ := F3.fr
      have kk : ∀ b o, b ≠ it → s₂.heap.get? b = some o → h'.get? b = some o := fun b o h1 e => he b o h1 e
      have kb2 : Kb W' s₂.heap h' := fun b o hb e => kk b o (fun q => hb (q ▸ itW)) e
      refine hRR (it + 1) (it + 2) _ (Heap.get?_none_of_le (by rw [hit]; exact Nat.le_succ _)) (by rw [hit]; exact Nat.le_add_right _ _) ⟨fun b o e => ?_, F3.ext.os, F3.ext.gens, F3.ext.bare⟩ ⟨m, hm.ns.extBut he (by show (it + 2 : Nat) ≠ it; omega)⟩ (.list (fun hm => ?_) ⟨_, kk _ _ (by show (it + 1 : Nat) ≠ it; omega) hD, rfl, k, rfl⟩ ((hden.kb kb2).sub fun a ha => ?_))
      · have hb := lt1 b o e
        exact kk b o (Nat.ne_of_lt hb) (F3.ext.keep b o e)
      · rcases List.mem_cons.mp hm with q | hm
        · exact absurd q (by show (it + 1 : Nat) ≠ it + 2; omega)
        · obtain ⟨o, ho⟩ := F1.live _ hm
          have := lt1 _ _ ho
          exact absurd this (by show ¬ (it + 1 : Nat) < it; omega)
      · rcases List.mem_cons.mp ha with rfl | ha
        · exact LW
        · exact hsub a ha
  exact codeAny_compStart_list loop (wpAny_pyIter_listiter ⟨_, hit4, rfl, rfl⟩ loop)
/-- y = [.. for x in ..]: bound before the comprehension's own names go -/
theorem Blk.assignComp {Q : Flow → Shared → Prop} {E : Value → Shared → Prop} {rest : List Stmt} {elt iter : PySem.Expr} {x y : Str} {px py : Pos} {ifs : List PySem.Expr} {scope : Scope} {pos spos : Pos} {ds ds' : List D} (f : D → D) (p : D → Bool) (hh : c.A.handled = none) (hi : J c iter (.list ds)) (hz : ds.length ≤ 1000)
    (test : ∀ W' H' V' L' s' d s E, Ext c.s₀ s' → d ∈ ds → FrD (compCx c scope L' W' H' V' s' (lk [(x, .val d)])) s → wpAny c.M c.A (forIn ifs true fun t r => if r = true then do let ok ← isTrue t (compCx c scope L' W' H' V' s' (lk [(x, .val d)])).env (eval t (compCx c scope L' W' H' V' s' (lk [(x, .val d)])).env); pure (ForInStep.yield ok) else pure (ForInStep.yield r)) (fun ok s₃ => ok = p d ∧ Ext s s₃) E s)
    (step : ∀ W' H' V' L' s' d, Ext c.s₀ s' → d ∈ ds → p d = true → J (compCx c scope L' W' H' V' s' (lk [(x, .val d)])) elt (f d)) (hds' : (ds.filter p).map f = ds')
    (r : Blk (c.up y (some (.val (.list ds')))) rest Q E)
    (hkind : scope.kind = .function := by rfl) (hl : scope.names.lookup x = some .local := by rfl) (hfree : ∀ y ∈ scope.names, y.2 ≠ .free := by decide) (hcell : ∀ y ∈ scope.names, y.2 ≠ .cell := by decide) (hnames : ∀ y ∈ scope.names, y.2 = .local → scope.names.lookup y.1 = some .local := by decide)
    (hk : c.sc.kind = .function := by rfl) (hly : c.env.kindOf y = some .local := by rfl)
    (hsw : swapsWith (.ListComp elt [⟨.Name x px, iter, ifs, 0⟩] scope pos) (some (.Name y py)) spos.line c.env = pure true := by rfl)
    (hs : ∀ x, foldedSetIterable iter c.env x = pure x := by intro _; rfl) :
    Blk c (.Assign [.Name y py] (.ListComp elt [⟨.Name x px, iter, ifs, 0⟩] scope pos) spos :: rest) Q E := Blk.stmt fun s F => by
  subst hds'
  rw [exec_Assign_Name_used _ _ _ _ hsw]
  refine wpAny_bind (wpAny_standAt (wpAny_bind ?_))
  show wpAny _ _ (do let _ ← comprehension (.ListComp elt [⟨.Name x px, iter, ifs, 0⟩] scope pos) scope c.env _ (newList []) false (eval iter c.env) (some (PySem.assign (PySem.Expr.Name y py) c.env))) _ _ s
  refine wpAny_bind (wpAny_mono (wpAny_comprehension_use (Q := fun _ s' => thn c rest Q E .next s') rfl hs hfree hkind hnames (wpAny_mono (hi.run s E F) (fun v s₁ ⟨e1, x1⟩ => ?_) fun _ _ e => e)) (fun _ s' hq => wpAny_pure (wpAny_pure hq)) fun _ _ e => e)
  have F1 := F.go e1
  cases x1 with
  | list hnw hl0 hds =>
  refine comp_core (f := f) (p := p) hh F1 hnw hl0 hds hz test step (RR := fun acc cenv r s' => match r with
      | .ok _ => wpAny c.M c.A (PySem.assign (PySem.Expr.Name y py) c.env acc) (fun _ s'' => ∃ m, s''.heap.Ns cenv.locals m ∧ ∀ h', Heap.SameBut cenv.locals s''.heap h' → thn c rest Q E .next { s'' with heap := h' }) E s'
      | .error x => ∃ m, s'.heap.Ns cenv.locals m ∧ ∀ h', Heap.SameBut cenv.locals s'.heap h' → wpAny c.M c.A (passOn "comprehension.variables-let-go" x cenv) (fun _ s' => thn c rest Q E .next s') E { s' with heap := h' }) (fun D C s' hD hC e2 hns xd => ?_) hkind hl hcell
  obtain ⟨mC, hnC⟩ := hns
  obtain ⟨oC, esC, epC, hoC, hdC, rC⟩ := id hnC
  have hCn : s₁.heap.get? C = none := Heap.get?_none_of_le hC
  have F2 := F1.barNew e2 hCn ⟨oC, hoC⟩
  obtain ⟨m1, hm1, _⟩ := F1.fr
  have hCL : C ≠ c.L := Nat.ne_of_gt (Nat.lt_of_lt_of_le hm1.ns.lt hC)
  obtain ⟨ot, hot⟩ := F1.tl.1
  have htop := Heap.lt_size hot
  refine wpAny_mono (assign_step (c := { c with W := C :: c.W }) (x := y) (p := py) F2 xd hk hly) (fun _ s₃ ⟨F3, k3⟩ => ?_) fun _ _ x => x
  have hoC3 := k3.obj C oC (fun hm => by
    rcases List.mem_cons.mp hm with q | hm
    · exact hCL q
    · exact absurd hm List.not_mem_nil) hoC
  refine ⟨mC, ⟨oC, esC, epC, hoC3, hdC, rC⟩, fun h' hs' => ?_⟩
  have hC0 : c.s₀.heap.get? C = none := by
    cases q : c.s₀.heap.get? C with
    | none => rfl
    | some o => have := F1.ext.keep _ _ q; rw [hCn] at this; cases this
  have hloC : ¬ c.lo C := fun hlo => by
    rcases F1.tl.2 C hlo with h | ⟨o, h⟩
    · exact absurd (Nat.lt_of_lt_of_le htop hC) (Nat.not_lt.mpr h)
    · rw [hCn] at h; cases h
  have F4 : FrD (c.up y (some (.val (.list ((ds.filter p).map f))))) { s₃ with heap := h' } :=
    FrD.forgetN (c := c.up y (some (.val (.list ((ds.filter p).map f))))) (tk := s₃.toks) (h' := h') (b := C) F3 hoC3 (fun i n q => by rw [q] at hdC; cases hdC) (fun q => by obtain ⟨_, i, n, q⟩ := q; rw [hdC] at q; cases q) hCL (fun p hp q => by
      have := (F1.hh p hp).g
      rw [q, hCn] at this
      cases this) (free_of ⟨hC0, hloC⟩) (Heap.SameBut.to hs') F1.lw (fun hm => by
      obtain ⟨o, ho⟩ := F1.live C hm
      rw [hCn] at ho
      cases ho) (Nat.ne_of_gt (Nat.lt_of_lt_of_le htop hC)) hloC
  exact r.run _ F4
end
end Mine
end
section
open PySem PySem.W PyProof.Rows PySem.Calls
set_option Elab.async false
set_option linter.unusedVariables false
set_option maxRecDepth 100000
set_option maxHeartbeats 1000000
namespace Mine
theorem fine143' : fnFine (stNo 14) ["chunks"] false = true := fine143
section
variable {c : Cx} {s : Shared}
/-- a step that alters but the slots of the frame's own namespace -/
theorem FrD.lawStep {s' : Shared} {o : Obj} {sl : Array (Option Value)} (F : FrD c s) (hG : c.G = []) (ho : s.heap.get? c.L = some o) (e : Ext { s with heap := hideAll s.heap [c.L] } s') (ho' : s'.heap.get? c.L = some { o with slots := sl }) : FrD c s' := by
  obtain ⟨m, hm, hμ⟩ := F.fr
  have hs : ∀ a o, a ≠ c.L → s.heap.get? a = some o → s'.heap.get? a = some o := fun a o hne h => e.keep _ _ (hide_get h hne)
  have k : Kb c.W s.heap s'.heap := Kb.change F.lw hs
  have hl : ∃ o, s'.heap.get? c.L = some o := ⟨_, ho'⟩
  have hn : ∀ a o, c.s₀.heap.get? a = some o → a ≠ c.L := fun a o h q => by rw [q, Heap.get?_none_of_le hm.above] at h; cases h
  have hd : ∃ es ep, o.data = .dict es ep := by
    obtain ⟨o1, es, ep, h1, h2, _⟩ := hm.ns
    rw [ho] at h1
    cases h1
    exact ⟨es, ep, h2⟩
  refine ⟨⟨m, ⟨?_, fun a o h => hs a o (hn a o h) (hm.keep a o h), hm.above⟩, fun y en hy => ?_⟩, F.inj, F.new, ⟨tl_change F.tl.1 hs hl, fun b hb => (F.tl.2 b hb).imp id fun h => tl_change h hs hl⟩, F.lw, F.live.change hs hl,
    ⟨fun a o h => hs a o (hn a o h) (F.ext.keep a o h), e.os.trans F.ext.os, fun i x h => e.gens i x (F.ext.gens i x h), fun h => e.bare (F.ext.bare h)⟩, fun p hp => ?_, fun q hq => (F.vv q hq).kb k, (fun p hp => by rw [hG] at hp; cases hp), fun b o1 hp h1 => ?_⟩
  · obtain ⟨o1, es, ep, h1, h2, r⟩ := hm.ns
    rw [ho] at h1
    cases h1
    exact ⟨_, es, ep, ho', h2, r⟩
  · obtain ⟨u, hu, he⟩ := hμ y en hy
    refine ⟨u, hu, ?_⟩
    cases en with
    | val d => exact Den.kb k he
    | own a es =>
      obtain ⟨r1, r2, us, j, r3, r4⟩ := he
      exact ⟨r1, r2, us, j, hs a _ (ns_notList hm.ns r3) r3, r4.kb k⟩
  · have := F.hh p hp
    exact ⟨this.w, this.n, this.l, this.c, this.t, hs _ _ this.l this.g⟩
  · have e2 := F.kr b o1 hp h1
    have hb : b ≠ c.L := fun q => by
      rcases hp with ⟨_, _, h3⟩ | ⟨_, i, n, h3⟩
      · exact h3 q
      · obtain ⟨es, ep, hd⟩ := hd
        rw [q, ho] at e2
        cases e2
        rw [hd] at h3
        cases h3
    exact hs b o1 hb e2
end
section
variable {prog : Program} {w : World} {mg mb : Str → Option Value} {A : Around} {s : Shared} {W : List Addr}
/-- the frame of _law_take at its start -/
theorem FrD.startT {L Lw : Addr} {oLw : Obj} {h₁ : Heap} {tk : Nat} {binds : List (Str × Value)} {ps : List (Str × D)} (hW : Live W s.heap) (hLwW : Lw ∈ W) (F : Fr s.heap L h₁ (fun x => binds.reverse.lookup x)) (hL : L = s.heap.objs.size) (hn : binds.map (·.1) = ps.map (·.1)) (hd : DenAll W s.heap (binds.map (·.2)) (ps.map (·.2)))
    (hLw : s.heap.get? Lw = some oLw) (hob : ∃ es ep, oLw.data = .dict es ep) :
    FrD (cxT prog w A (L :: W) { s with heap := hideAll s.heap [Lw] } L Lw oLw (muOf ps) s) { s with heap := h₁, toks := tk } := by
  have e : Ext s { s with heap := h₁, toks := tk } := .heap tk F.keep
  have bar : ∀ b ∈ L :: W, b ∉ W → s.heap.get? b = none := fun b hb hn => by
    rcases List.mem_cons.mp hb with rfl | h
    · rw [hL]; exact get_size _
    · exact absurd h hn
  have nv : ∀ (x : Str) (a : Addr) (ds : List D), muOf ps x ≠ some (.own a ds) := fun x a ds hx => by
    simp only [muOf, Option.map_eq_some_iff] at hx
    obtain ⟨d, _, hd⟩ := hx
    cases hd
  obtain ⟨es, ep, hod⟩ := hob
  have hLd : Lw ≠ L := fun q => by rw [q, hL, get_size] at hLw; cases hLw
  have hLo : ∃ o, h₁.get? L = some o := let ⟨o, _, _, ho, _⟩ := F.ns; ⟨o, ho⟩
  refine ⟨⟨_, ⟨F.ns, fun b o e => F.keep b o (of_hideAll _ e), ?_⟩, fun x en hx => ?_⟩, fun x y b es fs h1 _ => absurd h1 (nv _ _ _), fun x b es h1 => absurd h1 (nv _ _ _), ⟨hLo, fun b hb => .inl (Nat.le_of_lt hb)⟩, .head _, fun b hb => ?_, ⟨fun b o e => F.keep b o (of_hideAll _ e), rfl, fun _ _ e => e, fun h => h⟩, fun p hp => ?_, (fun p hp => nomatch hp), (fun p hp => nomatch hp), fun b o _ h => F.keep b o h⟩
  · show (hideAll s.heap [Lw]).objs.size ≤ L
    rw [hideAll_size, hL]
    exact Nat.le_refl _
  · simp only [muOf, Option.map_eq_some_iff] at hx
    obtain ⟨d, hl, rfl⟩ := hx
    obtain ⟨v, hv, hvd⟩ := lookup_zip binds.reverse ps.reverse (by rw [List.map_reverse, List.map_reverse, hn]) (by rw [List.map_reverse, List.map_reverse]; exact hd.rev) x d hl
    exact ⟨v, hv, (Den.bar bar hvd).ext e⟩
  · rcases List.mem_cons.mp hb with rfl | hb
    · exact hLo
    · exact hW.ext e b hb
  · rcases List.mem_cons.mp hp with rfl | hp
    · refine ⟨.tail _ hLwW, ⟨hideAll_none _ (.head _), .inr rfl⟩, hLd, fun i n q => ?_, fun q => ?_, F.keep _ _ hLw⟩
      · have : oLw.data = (listOf i n).data := congrArg Obj.data (show oLw = listOf i n from q)
        rw [hod] at this
        cases this
      · obtain ⟨_, i, n, q⟩ := q
        have q' : oLw.data = .seq i n := q
        rw [hod] at q'
        cases q'
    · exact absurd hp List.not_mem_nil
end
section
variable {c : Cx} {mg mb : Str → Option Value}
/-- _law_take(e), called by the law -/
theorem eval_take {e : PySem.Expr} {p pos : Pos} {d : D} {bs : List (List UInt8)} {text : List UInt8} {items : List It} {refused : Bool} {c' : Addr} {oc : Obj} {s : Shared} {E Q : Value → Shared → Prop} (T : Top1 c.w mg mb c.s₀.heap) (hr : Room c.A 13) (hx : IsName c "_law_take" (.ref 143)) (F : FrD c s) (hG : c.G = []) (hfr : c.A.frames = some [c.env]) (hef : c.env.frame = some c.L) (hek : c.sc.kind ≠ .module)
    (hT : ∀ s, FrD c s → s.heap.get? 88 = some (grown (posOf stripSt) c') ∧ s.heap.get? c' = some oc ∧ c.L ≠ 88 ∧ c.L ≠ c') (hsh : CodeShape (qualS c.w 0) oc)
    (hd : d = .list (bs.map D.bytes) ∨ d = .tuple (bs.map D.bytes)) (h : J c e d) (htext : joinB [] bs = text) (hz : text.length ≤ 800) (hits : pmGo none [] (linesB text) = (items, refused)) (hlen : items.length ≤ 900)
    (hQ : ∀ v s', FrD c s' → Den c.W s'.heap v (.tuple [.list (items.map It.d), .bool refused]) → Q v s')
    (hs1 : starEach [e] c.env = [(false, eval e c.env)] := by rfl) : wpAny c.M c.A (eval (.Call (.Name "_law_take" p) [e] [] pos) c.env) Q E s := by
  refine Call_Name rfl (hx.run s _ E p F ?_)
  refine callWith_function (o := fnObj c.w.params 143 (stNo 14)) (fd := docOf' c.w.params 143 (stNo 14)) (wpAny_mono (evalArgs_JS (JS1 h hs1) (by rw [hs1]; rfl) F) (fun as s₁ ⟨e1, vs, ea, x1⟩ => ?_) fun _ _ x => x)
  subst ea
  obtain ⟨v, rfl, xv⟩ := denAll1 x1
  have F1 := F.go e1
  have T1 := F1.top T
  obtain ⟨m, hm, _⟩ := F1.fr
  obtain ⟨oL, es, ep, hoL, hdL, _⟩ := id hm.ns
  obtain ⟨ht1, ht2, hn1, hn2⟩ := hT s₁ F1
  have hs0L : c.s₀.heap.get? c.L = none := Heap.get?_none_of_le hm.above
  have T2 : Top1 c.w mg mb (hideAll s₁.heap [c.L]) := top_hide T F1.ext.keep hs0L
  refine ⟨⟨T1.k _ _ (fn143 _), rfl⟩, wpAny_call ?_⟩
  obtain ⟨hloc, hco, hgen, hk, hcell⟩ := fnFine_iff fine143
  refine call_plain hr.lim (T1.k _ _ (fn143 _)) rfl T1.lim (codeRec_of T1.k (cd143 _)) (bind143 _ v) (fun y hy => hloc y.1 (by
    rcases List.mem_cons.mp hy with rfl | hy
    · exact .head _
    · exact absurd hy List.not_mem_nil)) (fun h₁ Fr1 => ?_) hco hgen hk hcell
  have hlt : c.L < s₁.heap.objs.size := hm.ns.lt
  have hFT := FrD.startT (prog := c.prog) (w := c.w) (A := c.A.deeper (envT c.w s₁.heap.objs.size)) (tk := s₁.toks + 1) (ps := [("chunks", d)]) F1.live F1.lw Fr1 rfl rfl (.cons xv .nil) hoL ⟨es, ep, hdL⟩
  generalize hLL : s₁.heap.objs.size = LT at hFT hlt
  refine wpAny_mono (Blk.run (Q := fun f s' => ∃ v sl, f = .ret v ∧ Ext { s₁ with heap := hideAll s₁.heap [c.L] } s' ∧ Den c.W s'.heap v (.tuple [.list (items.map It.d), .bool refused]) ∧ s'.heap.get? c.L = some { oL with slots := sl }) (c := cxT c.prog c.w (c.A.deeper (envT c.w LT)) (LT :: c.W) { s₁ with heap := hideAll s₁.heap [c.L] } LT c.L oL (muOf [("chunks", d)]) s₁) ?_ _ hFT) (fun f s' h' => ?_) fun _ _ x => x
  · refine Blk.assignOwn (ds := []) JS.nil (fun S hS => ?_)
    refine take_body (Wl := c.W) (c' := c') (oc := oc) (bs := bs) (text := text) (items := items) (refused := refused) (outer := [c.env]) T2 ⟨hide_get ht1 hn1.symm, hide_get ht2 hn2.symm, hsh⟩ hr.deeper ?_ (fun env he => ?_) ⟨es, ep, hdL⟩ (hideAll_none _ (.head _)) ?_ (fun a ha => ⟨.tail _ (.tail _ ha), fun q => hS (.tail _ (q ▸ ha))⟩) hd htext hz hits hlen (fun v s' sl e2 x2 hg => ⟨v, sl, rfl, e2, x2, hg⟩)
    · show c.A.frames.map _ = _
      rw [hfr]; rfl
    · rcases List.mem_cons.mp he with rfl | he
      · exact ⟨hek, hef⟩
      · exact absurd he List.not_mem_nil
    · exact Heap.get?_none_of_le (by rw [hideAll_size, hLL]; exact Nat.le_refl _)
  · obtain ⟨v, sl, rfl, e2, x2, hg⟩ := h'
    exact hQ v s' (F1.lawStep hG hoL e2 hg) x2
end
end Mine
end
section
open PySem PySem.W PyProof.Rows PySem.Calls
set_option Elab.async false
set_option linter.unusedVariables false
set_option maxRecDepth 100000
set_option maxHeartbeats 1000000
namespace Mine
/-- the rows of the table -/
def tableB : List (List UInt8) := [[116, 114, 101, 101, 32, 97, 10], [112, 97, 114, 101, 110, 116, 32, 98, 32, 99, 10], [120, 9, 121, 32, 32, 122, 10], [32, 109, 111, 114, 101, 10], [32, 32, 116, 119, 111, 10], [32, 10], [10], [98, 97, 114, 101, 10], [13, 10], [97, 32, 10],
  [97, 117, 116, 104, 111, 114, 32, 65, 32, 60, 97, 64, 98, 62, 32, 49, 32, 43, 48, 48, 48, 48, 10], [109, 10], [32, 255, 10], [255, 32, 0, 10], [103, 112, 103, 115, 105, 103, 32, 115], [32]]
noncomputable def tblVals (P : Params) : List Value := match (K0 P).lookup 101 with
  | some ⟨_, _, .seq vs _, _⟩ => vs.toList
  | _ => []
noncomputable def tblCnt (P : Params) : Nat := match (K0 P).lookup 101 with
  | some ⟨_, _, .seq _ n, _⟩ => n
  | _ => 0
def valB : Value → Option (List UInt8)
  | .bytes b _ => some b.toList
  | _ => none
theorem tbl101 (P : Params) : (K0 P).lookup 101 = some (listOf (tblVals P).toArray (tblCnt P)) := by kernel_rfl
theorem tblB (P : Params) : (tblVals P).map valB = tableB.map some := by kernel_rfl
theorem nm101 (P : Params) : nsIn (K0 P) mainGlobals "_law_table" = some (some (.ref 101)) := by kernel_rfl
theorem denAll_valB {W : List Addr} {h : Heap} : ∀ {vs : List Value} {bs : List (List UInt8)}, vs.map valB = bs.map some → DenAll W h vs (bs.map D.bytes)
  | [], [], _ => .nil
  | [], _ :: _, e => nomatch e
  | _ :: _, [], e => nomatch e
  | v :: vs, b :: bs, e => by
    simp only [List.map_cons, List.cons.injEq] at e
    obtain ⟨e1, e2⟩ := e
    refine .cons ?_ (denAll_valB e2)
    cases v with
    | bytes a t =>
      have : a.toList = b := Option.some.inj e1
      subst this
      have := Den.bytes (W := W) (h := h) a.toList t
      rwa [Array.toArray_toList] at this
    | _ => cases e1
section
variable {c : Cx} {mg mb : Str → Option Value}
theorem JT_table {p : Pos} (T : Top1 c.w mg mb c.s₀.heap) (hk : c.sc.kind = .function := by rfl) (hx : c.env.kindOf "_law_table" = some .globalImplicit := by rfl) : JT c (.Name "_law_table" p) (.list (tableB.map D.bytes)) := .mk fun s E F =>
  g_global T (nm_some T (nm101 _)) F ⟨.refl _, 101, tblVals c.w.params, rfl, ⟨_, (F.top T).k _ _ (tbl101 _), rfl, _, rfl⟩, denAll_valB (tblB _)⟩ hk hx (by decide)
end
/-- the frame of the law -/
noncomputable abbrev cxL (prog : Program) (w : World) (A : Around) (L : Addr) (W : List Addr) (s₀ : Shared) (H : List (Addr × Obj)) (μ : Mu) (s₁ : Shared) : Cx :=
  { prog := prog, w := w, A := A, nm := naOf (stNo 15), sc := scOf (stNo 15), fa := 148, cd := (fdOf w.params 148).code, W := W, s₀ := s₀, L := L, μ := μ, H := H, V := [], G := [], s₁ := s₁, lo := (· < L), top := L, z := 88 }
/-- the frame of the law, the def within _parse_message made -/
noncomputable abbrev cL (prog : Program) (w : World) (A : Around) (L c' : Addr) (oc : Obj) (s₀ : Shared) (μ : Mu) (s₁ : Shared) : Cx :=
  cxL prog w A L [c', L, 88] s₀ [(c', oc), (88, grown (posOf stripSt) c')] μ s₁
def modI (i : Int) : Int := i.fmod (10 ^ 12)
def fD (f : Int → D) : D → D
  | .int i => f i
  | d => d
theorem mem_map_int {is : List Int} {d : D} (h : d ∈ is.map D.int) : ∃ i ∈ is, d = .int i := by
  obtain ⟨i, hi, rfl⟩ := List.mem_map.mp h
  exact ⟨i, hi, rfl⟩
theorem mem_map_bytes {bs : List (List UInt8)} {d : D} (h : d ∈ bs.map D.bytes) : ∃ b ∈ bs, d = .bytes b := by
  obtain ⟨i, hi, rfl⟩ := List.mem_map.mp h
  exact ⟨i, hi, rfl⟩
theorem filter_true {α : Type} (l : List α) : l.filter (fun _ => true) = l := by simp
section
variable {prog : Program} {w : World} {mg mb : Str → Option Value} {A : Around} {L : Addr} {s₀ s₁ : Shared} {Q : Flow → Shared → Prop} {E : Value → Shared → Prop}
/-- the numbers -/
theorem law_0 {W : List Addr} {H : List (Addr × Obj)} {scr : List Int} (T : Top1 w mg mb s₀.heap) (hh : A.handled = none) (hs : scr.length ≤ 1000)
    (k : Blk (cxL prog w A L W s₀ H (lk [("numbers", .val (.list (((scr.take 12).map modI).map D.int)))]) s₁) ((bdOf (stNo 15)).drop 1) Q E) :
    Blk (cxL prog w A L W s₀ H (muOf [("script", .list (scr.map D.int))]) s₁) (bdOf (stNo 15)) Q E := by
  refine Blk.assignComp (ds := (scr.take 12).map D.int) (ds' := ((scr.take 12).map modI).map D.int) (fD fun i => .int (modI i)) (fun _ => true) hh ?_ (by simp; omega) (fun W' H' V' L' s' d s E e hm F => ?_) (fun W' H' V' L' s' d e hm _ => ?_) ?_ (Blk.weaken k (weak_of ⟨rfl, trivial⟩))
  · refine J.cast (J_cutL (J.top (J_name rfl)) .none (.some J_int) (by rw [List.length_map]; omega)) ?_
    rw [show ((12 : Int)) = ((12 : Nat) : Int) from rfl, cut_to, List.map_take]
  · exact wpAny_tests_nil ⟨rfl, .refl _⟩
  · obtain ⟨i, hi, rfl⟩ := mem_map_int hm
    refine J.cast (J_modI (a := i) (b := 10 ^ 12) (J_name rfl) (J.cast (J_powI (a := 10) (b := 12) J_int J_int (by decide) (by decide) (by decide)) rfl) (by decide)) rfl
  · rw [filter_true, List.map_map, List.map_map]
    rfl
/-- the first reading of a message -/
theorem law_1 {nums : List Int} (T : Top1 w mg mb s₀.heap) (hr : Room A 13)
    (k : ∀ c' oc, CodeShape (qualS w 0) oc → Blk (cL prog w A L c' oc s₀ (lk [("numbers", .val (.list (nums.map D.int)))]) s₁) ((bdOf (stNo 15)).drop 2) Q E) :
    Blk (cxL prog w A L [L, 88] s₀ [(88, tabObj #[])] (lk [("numbers", .val (.list (nums.map D.int)))]) s₁) ((bdOf (stNo 15)).drop 1) Q E := by
  have hits : pmGo none [] (linesB [116, 114, 101, 101, 32, 97, 10, 32, 98, 10, 10, 109]) = ([.row [116, 114, 101, 101] [97, 10, 98], .fin (some [109])], false) := by rfl
  refine Blk.stmt fun s F => wpAny_If (wpAny_isTrue_Compare1 (eval_listMiss (bs := [[116, 114, 101, 101, 32, 97, 10, 32, 98, 10, 10, 109]]) (d := .list [.bytes [116, 114, 101, 101, 32, 97, 10, 32, 98, 10, 10, 109]]) (H := []) T (hr.le (by omega)) (.builtin T (nm_none T (nmNo_list _)) bt_list) (.global T (nm_some T (nm93 _))) F rfl (fun p hp => nomatch hp) (.inl rfl) (J_list (ds := [.bytes [116, 114, 101, 101, 32, 97, 10, 32, 98, 10, 10, 109]]) (JS.cons J_bytes JS.nil)) rfl (by decide) hits (by decide) (fun v s' c' oc hsh F' x => ?_)) (by with_unfolding_all rfl))
  have hds : ∀ d ∈ [It.row [116, 114, 101, 101] [97, 10, 98], .fin (some [109])].map It.d, Plain 1 d := fun d hd => by
    rcases List.mem_cons.mp hd with rfl | hd
    · exact .tuple fun d hd => by
        rcases List.mem_cons.mp hd with rfl | hd
        · exact .bytes _
        · rcases List.mem_cons.mp hd with rfl | hd
          · exact .bytes _
          · exact absurd hd List.not_mem_nil
    · rcases List.mem_cons.mp hd with rfl | hd
      · exact .tuple fun d hd => by
          rcases List.mem_cons.mp hd with rfl | hd
          · exact .none
          · rcases List.mem_cons.mp hd with rfl | hd
            · exact .bytes _
            · exact absurd hd List.not_mem_nil
      · exact absurd hd List.not_mem_nil
  refine wpAny_mono (J.run (c := cL prog w A L c' oc s₀ (lk [("numbers", .val (.list (nums.map D.int)))]) s₁) (d := .list ([It.row [116, 114, 101, 101] [97, 10, 98], .fin (some [109])].map It.d)) ?_ s' E F') (fun v2 s₂ ⟨e2, x2⟩ => ?_) fun _ _ y => y
  · exact J_list (ds := [.tuple [.bytes [116, 114, 101, 101], .bytes [97, 10, 98]], .tuple [.none, .bytes [109]]]) (JS.cons (J_tuple (ds := [.bytes [116, 114, 101, 101], .bytes [97, 10, 98]]) (JS.cons J_bytes (JS.cons J_bytes JS.nil))) (JS.cons (J_tuple (ds := [.none, .bytes [109]]) (JS.cons J_none (JS.cons J_bytes JS.nil))) JS.nil))
  refine wpAny_mono ((Cmp_neL (c := cL prog w A L c' oc s₀ (lk [("numbers", .val (.list (nums.map D.int)))]) s₁) hds (by decide) hr.units).run s₂ E v v2 (F'.go e2) (x.ext e2).top x2.top) (fun b s₃ ⟨e3, eb⟩ => ?_) fun _ _ y => y
  subst eb
  refine wpAny_truthy_bool ?_
  exact wpAny_execs_nil ((k c' oc hsh).run s₃ ((F'.go e2).go e3))
end
end Mine
end
section
open PySem PySem.W PyProof.Rows PySem.Calls
set_option Elab.async false
set_option linter.unusedVariables false
set_option maxRecDepth 100000
set_option maxHeartbeats 1000000
namespace Mine
theorem fmod_pos (i : Int) {b : Int} (h : 0 < b) : 0 ≤ i.fmod b := by
  rw [Int.fmod_eq_emod_of_nonneg i (Int.le_of_lt h)]
  exact Int.emod_nonneg _ (Int.ne_of_gt h)
def tabRow (i : Int) : List UInt8 := tableB.getD (i.fmod 16).toNat []
theorem tab_mem (i : Int) : tabRow i ∈ tableB ∧ (tableB.map D.bytes)[(i.fmod 16).toNat]? = some (.bytes (tabRow i)) := by
  have h1 := fmod_pos i (b := 16) (by decide)
  have h2 := Int.fmod_lt_of_pos i (b := 16) (by decide)
  have h3 : (i.fmod 16).toNat < tableB.length := by show _ < 16; omega
  unfold tabRow
  rw [List.getD_eq_getElem?_getD, List.getElem?_map, List.getElem?_eq_getElem h3]
  exact ⟨List.getElem_mem _, rfl⟩
theorem tab_len : ∀ b ∈ tableB, b.length ≤ 30 := by decide
theorem joinB_nil_len {bs : List (List UInt8)} (h : ∀ b ∈ bs, b.length ≤ 30) : (joinB [] bs).length ≤ bs.length * 30 := by
  rw [joinB_nil]
  induction bs with
  | nil => simp
  | cons b bs ih =>
    have h1 := h b (.head _)
    have h2 := ih fun x hx => h x (.tail _ hx)
    simp only [List.flatten_cons, List.length_append, List.length_cons]
    omega
section
variable {prog : Program} {w : World} {mg mb : Str → Option Value} {A : Around} {L c' : Addr} {oc : Obj} {s₀ s₁ : Shared} {Q : Flow → Shared → Prop} {E : Value → Shared → Prop}
theorem law_2 {nums : List Int} (T : Top1 w mg mb s₀.heap) (hr : Room A 13) (hn : ∀ i ∈ nums, 0 ≤ i ∧ i < 2 ^ 50) (hlen : nums.length ≤ 12)
    (k : ∀ text : List UInt8, text.length ≤ 500 → Blk (cL prog w A L c' oc s₀ (lk [("numbers", .val (.list (nums.map D.int))), ("first", .val (.int nums.sum)), ("text", .val (.bytes text))]) s₁) ((bdOf (stNo 15)).drop 7) Q E) :
    Blk (cL prog w A L c' oc s₀ (lk [("numbers", .val (.list (nums.map D.int)))]) s₁) ((bdOf (stNo 15)).drop 2) Q E := by
  have hh : A.handled = none := hr.hh
  generalize hfi : nums.sum = first at k
  refine Blk.assign (d := .int first) (J.cast (J_sum hh (.builtin T (nm_none T (nmNo_sum _)) bt_sum) (J.top (J_name rfl)) hn (by omega)) (by rw [hfi])) ?_
  refine Blk.assignComp (ds := nums.map D.int) (ds' := (nums.map tabRow).map D.bytes) (fD fun i => .bytes (tabRow i)) (fun _ => true) hh (J_name rfl) (by simp; omega) (fun W' H' V' L' s' d s E e hm F => wpAny_tests_nil ⟨rfl, .refl _⟩) (fun W' H' V' L' s' d e hm _ => ?_) (by rw [filter_true, List.map_map, List.map_map]; rfl) ?_
  · obtain ⟨i, hi, rfl⟩ := mem_map_int hm
    have h1 := fmod_pos i (b := 16) (by decide)
    have h2 := Int.fmod_lt_of_pos i (b := 16) (by decide)
    exact J_item (k := i.fmod 16) (JT_table (T.ext e)) (J_modI (a := i) (b := 16) (J_name rfl) J_int (by decide)) h1 (by omega) (tab_mem i).2
  have hr0 : ∀ b ∈ nums.map tabRow, b.length ≤ 30 := fun b hb => by
    obtain ⟨i, _, rfl⟩ := List.mem_map.mp hb
    exact tab_len _ (tab_mem i).1
  have hl0 : (nums.map tabRow).length ≤ 12 := by rw [List.length_map]; exact hlen
  generalize nums.map tabRow = rows0 at hr0 hl0
  have J1 : ∀ {rows1 : List (List UInt8)}, (∀ b ∈ rows1, b.length ≤ 30) → rows1.length ≤ 12 → Blk (cL prog w A L c' oc s₀ (lk [("numbers", .val (.list (nums.map D.int))), ("first", .val (.int first)), ("rows", .val (.list (rows1.map D.bytes)))]) s₁) ((bdOf (stNo 15)).drop 5) Q E := by
    intro rows1 hr1 hl1
    have J2 : ∀ {rows2 : List (List UInt8)}, (∀ b ∈ rows2, b.length ≤ 30) → rows2.length ≤ 13 → Blk (cL prog w A L c' oc s₀ (lk [("numbers", .val (.list (nums.map D.int))), ("first", .val (.int first)), ("rows", .val (.list (rows2.map D.bytes)))]) s₁) ((bdOf (stNo 15)).drop 6) Q E := by
      intro rows2 hr2 hl2
      have hjl := joinB_nil_len hr2
      refine Blk.assign (d := .bytes (joinB [] rows2)) (J_join (ps := rows2) J_bytes (.inl (J_name rfl)) (by omega)) ?_
      exact Blk.weaken (k (joinB [] rows2) (by omega)) (weak_of ⟨rfl, rfl, rfl, trivial⟩)
    obtain ⟨sp, hsp⟩ : ∃ sp : Nat, (first.fdiv 4).fmod ((rows1.length : Int) + 1) = (sp : Int) := Int.eq_ofNat_of_zero_le (fmod_pos _ (by omega))
    refine Blk.if_ (b := (first.fdiv 2).fmod 2 == 0) (JB_cmp (J.top (J_modI (J_divI (J_name rfl) J_int (by decide) (by decide)) J_int (by decide))) (J.top J_int) Cmp_eqI) (fun hb => ?_) (fun hb => Blk.nil fun s F => (J2 hr1 (by omega)).run s F)
    refine Blk.assign (d := .int (sp : Int)) (J.cast (J_modI (J_divI (J_name rfl) J_int (by decide) (by decide)) (J_addI (J_lenL (ds := rows1.map D.bytes) (.builtin T (nm_none T (nmNo_len _)) bt_len) (J.top (J_name rfl)) (by rw [List.length_map]; omega)) J_int) (by rw [List.length_map]; omega)) (by rw [List.length_map, hsp])) ?_
    refine Blk.assign (d := .list ((rows1.take sp ++ [10] :: rows1.drop sp).map D.bytes)) ?_ (Blk.nil fun s F => (J2 (rows2 := rows1.take sp ++ [10] :: rows1.drop sp) ?_ ?_).run s (F.weaken (weak_of ⟨rfl, rfl, rfl, trivial⟩)))
    · refine J.cast (J_addL (a := (rows1.take sp ++ [[10]]).map D.bytes) (b := (rows1.drop sp).map D.bytes) (J.top (J.cast (J_addL (a := (rows1.take sp).map D.bytes) (b := [.bytes [10]]) (J.top (J.cast (J_cutL (J.top (J_name rfl)) .none (.some (J_name rfl)) (by rw [List.length_map]; omega)) ?_)) (J.top (J_list (ds := [.bytes [10]]) (JS.cons J_bytes JS.nil))) ?_) ?_)) (J.top (J.cast (J_cutL (J.top (J_name rfl)) (.some (J_name rfl)) .none (by rw [List.length_map]; omega)) ?_)) ?_) ?_
      · rw [cut_to, List.map_take]
      · simp; omega
      · rw [List.map_append]; rfl
      · rw [cut_from, List.map_drop]
      · simp; omega
      · rw [← List.map_append, List.append_assoc]; rfl
    · intro b hb
      rcases List.mem_append.mp hb with h | h
      · exact hr1 b (List.mem_of_mem_take h)
      · rcases List.mem_cons.mp h with rfl | h
        · decide
        · exact hr1 b (List.mem_of_mem_drop h)
    · have : (rows1.take sp ++ [10] :: rows1.drop sp).length = rows1.length + 1 := by simp; omega
      omega
  refine Blk.if_ (b := first.fmod 2 == 0) (JB_cmp (J.top (J_modI (J_name rfl) J_int (by decide))) (J.top J_int) Cmp_eqI) (fun hb => ?_) (fun hb => Blk.nil fun s F => (J1 hr0 hl0).run s (F.weaken (weak_of ⟨rfl, rfl, rfl, trivial⟩)))
  refine Blk.assignComp (ds := rows0.map D.bytes) (ds' := (rows0.filter fun b => !badB.contains b).map D.bytes) id (fun d => match d with | .bytes b => !badB.contains b | _ => false) hh (J_name rfl) (by simp; omega) (fun W' H' V' L' s' d s E e hm F => ?_) (fun W' H' V' L' s' d e hm _ => J_name rfl) ?_ (Blk.nil fun s F => (J1 (fun b hb => hr0 b (List.mem_filter.mp hb).1) (Nat.le_trans (List.length_filter_le _ _) hl0)).run s (F.weaken (weak_of ⟨rfl, rfl, rfl, trivial⟩)))
  · obtain ⟨b, hb, rfl⟩ := mem_map_bytes hm
    exact wpAny_tests_one (wpAny_mono ((JB_cmp (J.top (J_name rfl)) (J.top (J_bad (T.ext e) (hr.le (by omega)))) Cmp_notInL).run s E F) (fun r s' h => h) fun _ _ x => x)
  · rw [List.map_id, List.filter_map]
    rfl
end
end Mine
end
section
open PySem PySem.W PyProof.Rows PySem.Calls
set_option Elab.async false
set_option linter.unusedVariables false
set_option maxRecDepth 100000
set_option maxHeartbeats 1000000
namespace Mine
theorem It.plain1 (i : It) : Plain 1 i.d := by
  have two : ∀ a b : D, Plain 0 a → Plain 0 b → Plain 1 (.tuple [a, b]) := fun a b ha hb => .tuple fun d hd => by
    rcases List.mem_cons.mp hd with rfl | hd
    · exact ha
    · rcases List.mem_cons.mp hd with rfl | hd
      · exact hb
      · exact absurd hd List.not_mem_nil
  cases i with
  | row k v => exact two _ _ (.bytes _) (.bytes _)
  | fin b =>
    cases b with
    | none => exact two _ _ .none .none
    | some x => exact two _ _ .none (.bytes _)
theorem plain1_map (l : List It) : ∀ d ∈ l.map It.d, Plain 1 d := fun d hd => by
  obtain ⟨i, _, rfl⟩ := List.mem_map.mp hd
  exact i.plain1
theorem cuts_join (t : List UInt8) {lo hi : Nat} (h : lo ≤ hi) : joinB [] [t.take lo, (t.drop lo).take (hi - lo), [], t.drop hi] = t := by
  rw [joinB_nil]
  simp only [List.flatten_cons, List.flatten_nil, List.append_nil, List.nil_append]
  have e : t.drop hi = (t.drop lo).drop (hi - lo) := by rw [List.drop_drop]; congr 1; omega
  rw [e, List.take_append_drop, List.take_append_drop]
section
variable {prog : Program} {w : World} {mg mb : Str → Option Value} {A : Around} {L c' : Addr} {oc : Obj} {s₀ s₁ : Shared} {Q : Flow → Shared → Prop} {E : Value → Shared → Prop}
noncomputable abbrev envL (w : World) (L : Addr) : Env := envOf (naOf (stNo 15)) (scOf (stNo 15)) L 148 (fdOf w.params 148).code
theorem law_3 {numsD : D} {first : Int} {text : List UInt8} {due : List It} {refused whole : Bool} (T : Top1 w mg mb s₀.heap) (hr : Room A 13) (hfr : A.frames = some [envL w L]) (hsh : CodeShape (qualS w 0) oc) (hz : text.length ≤ 500) (hdue : due.length ≤ 600)
    (hp : plainP text = (due, refused, whole)) (hA : pmGo none [] (linesB text) = (due, refused))
    (k : Blk (cL prog w A L c' oc s₀ (lk [("numbers", .val numsD), ("first", .val (.int first)), ("text", .val (.bytes text)), ("due", .val (.list (due.map It.d))), ("whole", .val (.bool whole))]) s₁) ((bdOf (stNo 15)).drop 14) Q E) :
    Blk (cL prog w A L c' oc s₀ (lk [("numbers", .val numsD), ("first", .val (.int first)), ("text", .val (.bytes text))]) s₁) ((bdOf (stNo 15)).drop 7) Q E := by
  have hh : A.handled = none := hr.hh
  have hpd : plainD text = .tuple [.list (due.map It.d), .bool refused, .bool whole] := by unfold plainD; rw [hp]
  have hlen : ∀ {c : Cx}, Top1 c.w mg mb c.s₀.heap → c.sc.kind = .function → c.env.kindOf "len" = some .globalImplicit → IsName c "len" (.builtin "len") := fun T h1 h2 => .builtin T (nm_none T (nmNo_len _)) bt_len (by decide) h1 h2 (by decide)
  refine Blk.assignTriple (d1 := .list (due.map It.d)) (d2 := .bool refused) (d3 := .bool whole) hh (J.cast (J_fn (ps := [("text", .bytes text)]) (k := 0) T (hr.le (by omega)) (.global T (nm_some T (nm136 _))) (JS1 (J_name rfl)) (plain_ok text (by omega)) (fn136 _) (cd136 _) (fun vs hv => by
    match vs, hv with
    | [v], _ => exact ⟨_, bind136 _ v, rfl, rfl⟩) fine136) hpd) ?_
  obtain ⟨lo, hlo⟩ : ∃ lo : Nat, (first.fdiv 64).fmod ((text.length : Int) + 1) = (lo : Int) := Int.eq_ofNat_of_zero_le (fmod_pos _ (by omega))
  have hlo2 : lo ≤ text.length := by have := Int.fmod_lt_of_pos (first.fdiv 64) (b := (text.length : Int) + 1) (by omega); omega
  obtain ⟨md, hmd⟩ : ∃ md : Nat, (first.fdiv 8192).fmod ((text.length : Int) + 1 - lo) = (md : Int) := Int.eq_ofNat_of_zero_le (fmod_pos _ (by omega))
  refine Blk.assign (d := .int (lo : Int)) (J.cast (J_modI (J_divI (J_name rfl) J_int (by decide) (by decide)) (J_addI (J_lenB (l := text) (hlen T rfl rfl) (J_name rfl) (by omega)) J_int) (by omega)) (by rw [hlo])) ?_
  refine Blk.assign (d := .int ((lo + md : Nat) : Int)) (J.cast (J_addI (J_name rfl) (J_modI (J_divI (J_name rfl) J_int (by decide) (by decide)) (J_subI (J_addI (J_lenB (l := text) (hlen T rfl rfl) (J_name rfl) (by omega)) J_int) (J_name rfl)) (by omega))) (by rw [hmd]; rfl)) ?_
  generalize hhi : lo + md = hi
  have hle : lo ≤ hi := by omega
  have hcj := cuts_join text hle
  generalize hbs : [text.take lo, (text.drop lo).take (hi - lo), [], text.drop hi] = bs at hcj
  refine Blk.assign (d := .list (bs.map D.bytes)) ?_ ?_
  · rw [← hbs]
    refine J_list (ds := [.bytes (text.take lo), .bytes ((text.drop lo).take (hi - lo)), .bytes [], .bytes (text.drop hi)]) (JS.cons ?_ (JS.cons ?_ (JS.cons J_bytes (JS.cons ?_ JS.nil))))
    · exact J.cast (J_cutB (J_name rfl) .none (.some (J_name rfl)) (by omega)) (congrArg D.bytes (cut_to text lo))
    · exact J.cast (J_cutB (J_name rfl) (.some (J_name rfl)) (.some (J_name rfl)) (by omega)) (congrArg D.bytes (cut_mid text lo hi))
    · exact J.cast (J_cutB (J_name rfl) (.some (J_name rfl)) .none (by omega)) (congrArg D.bytes (cut_from text hi))
  have hbl : bs.length = 4 := by rw [← hbs]; rfl
  have J1 : ∀ {dc : D}, (dc = .list (bs.map D.bytes) ∨ dc = .tuple (bs.map D.bytes)) → Blk (cL prog w A L c' oc s₀ (lk [("numbers", .val numsD), ("first", .val (.int first)), ("text", .val (.bytes text)), ("due", .val (.list (due.map It.d))), ("refused", .val (.bool refused)), ("whole", .val (.bool whole)), ("chunks", .val dc)]) s₁) ((bdOf (stNo 15)).drop 12) Q E := by
    intro dc hdc
    refine Blk.stmt fun s F => Assign_Tuple (eval_take (c := cL prog w A L c' oc s₀ (lk [("numbers", .val numsD), ("first", .val (.int first)), ("text", .val (.bytes text)), ("due", .val (.list (due.map It.d))), ("refused", .val (.bool refused)), ("whole", .val (.bool whole)), ("chunks", .val dc)]) s₁) (bs := bs) (text := text) (items := due) (refused := refused) (c' := c') (oc := oc) T hr (.global T (nm_some T (nm143 _))) F rfl hfr rfl (by show (scOf (stNo 15)).kind ≠ .module; decide) (fun s F => ?_) hsh hdc (J_name rfl) hcj (by omega) hA (by omega) (fun v s' F' x => assign_pairT hh F' x.top (fun s' F' => ?_) rfl rfl rfl)) rfl rfl
    · exact ⟨(F.hh (88, _) (.tail _ (.head _))).g, (F.hh (c', oc) (.head _)).g, (F.hh (88, _) (.tail _ (.head _))).l.symm, (F.hh (c', oc) (.head _)).l.symm⟩
    · refine Blk.run (c := (Cx.up (Cx.up (cL prog w A L c' oc s₀ (lk [("numbers", .val numsD), ("first", .val (.int first)), ("text", .val (.bytes text)), ("due", .val (.list (due.map It.d))), ("refused", .val (.bool refused)), ("whole", .val (.bool whole)), ("chunks", .val dc)]) s₁) "told" (some (.val (.list (due.map It.d))))) "stopped" (some (.val (.bool refused))))) ?_ s' F'
      refine Blk.if_ (b := false || false) (JB_or (JB_cmp (J.top (J_name rfl)) (J.top (J_name rfl)) Cmp_neBool) (fun _ => JB_cmp (J.top (J_name rfl)) (J.top (J_name rfl)) (Cmp_neL (plain1_map due) (by decide) hr.units))) (fun h => nomatch h) (fun _ => Blk.nil fun s F => k.run s (F.weaken (weak_of ⟨rfl, rfl, rfl, rfl, rfl, trivial⟩)))
  refine Blk.if_ (b := (first.fdiv 32).fmod 2 == 0) (JB_cmp (J.top (J_modI (J_divI (J_name rfl) J_int (by decide) (by decide)) J_int (by decide))) (J.top J_int) Cmp_eqI) (fun hb => ?_) (fun hb => Blk.nil fun s F => (J1 (.inl rfl)).run s (F.weaken (weak_of ⟨rfl, rfl, rfl, rfl, rfl, rfl, rfl, trivial⟩)))
  refine Blk.assign (d := .tuple (bs.map D.bytes)) (J_tupleOf (.builtin T (nm_none T (nmNo_tuple _)) bt_tuple) (J.top (J_name rfl)) (by rw [List.length_map]; omega)) (Blk.nil fun s F => (J1 (.inr rfl)).run s (F.weaken (weak_of ⟨rfl, rfl, rfl, rfl, rfl, rfl, rfl, trivial⟩)))
end
end Mine
end
section
open PySem PySem.W PyProof.Rows PySem.Calls
set_option Elab.async false
set_option linter.unusedVariables false
set_option maxRecDepth 100000
set_option maxHeartbeats 1000000
namespace Mine
theorem bind100 (P : Params) : ∀ v0 v1 : Value, bindArgs (docOf' P 100 (stNo 6)) ⟨[v0, v1], []⟩ = pure ([("headers", v0), ("body", v1)] : List (Str × Value)) := by intros; kernel_rfl
theorem fine100 : fnFine (stNo 6) ["headers", "body"] true = true := by kernel_rfl
section
variable {prog : Program} {w : World} {mg mb : Str → Option Value}
theorem fmt_ok (hs : List (List UInt8 × List UInt8)) (b : Option (List UInt8)) (hz : ∀ p ∈ hs, p.1.length ≤ 100000 ∧ p.2.length ≤ 100000) (hb : ∀ x, b = some x → x.length ≤ 100000) :
    GenOk prog w mg mb 100 (stNo 6) [("headers", .list (hs.map hdD)), ("body", optB b)] ((fmtAll hs b).map D.bytes) 1 := by
  intro A A' W' s₀ s₁ L N top z g R code K H Wc W T hr S Sd hW fin
  rw [List.length_map]
  exact fmt_body hs b T hr S Sd hW hz hb fin
end
section
variable {c : Cx} {mg mb : Str → Option Value}
/-- b''.join(_format_message(e1, e2)) -/
theorem J_fmt {o e1 e2 : PySem.Expr} {p ap pos jpos : Pos} {hs : List (List UInt8 × List UInt8)} {b : Option (List UInt8)} (T : Top1 c.w mg mb c.s₀.heap) (hr : Room c.A 6) (hx : IsName c "_format_message" (.ref 100)) (hj : J c o (.bytes [])) (h1 : J c e1 (.list (hs.map hdD))) (h2 : J c e2 (optB b))
    (hz : ∀ p ∈ hs, p.1.length ≤ 100000 ∧ p.2.length ≤ 100000) (hb : ∀ x, b = some x → x.length ≤ 100000) (hl : (fmtAll hs b).length ≤ 100000) (hlj : (joinB [] (fmtAll hs b)).length ≤ 16777216)
    (hs2 : starEach [e1, e2] c.env = [(false, eval e1 c.env), (false, eval e2 c.env)] := by rfl)
    (hs0 : starEach [.Call (.Name "_format_message" p) [e1, e2] [] pos] c.env = [(false, eval (.Call (.Name "_format_message" p) [e1, e2] [] pos) c.env)] := by rfl)
    (hbase : attributeBase o "join" c.env (eval o c.env) = eval o c.env := by rfl) (hline : (ap.endLine == jpos.line) = true := by rfl) :
    J c (.Call (.Attribute o "join" ap) [.Call (.Name "_format_message" p) [e1, e2] [] pos] [] jpos) (.bytes (joinB [] (fmtAll hs b))) :=
  J_joinGen (ps := [("headers", .list (hs.map hdD)), ("body", optB b)]) (k := 1) T hr hx hj (JS2 h1 h2 hs2) (fmt_ok hs b hz hb) (fn100 _) (cd100 _) (fun vs hv => by
    match vs, hv with
    | [v, u], _ => exact ⟨_, bind100 _ v u, rfl, rfl⟩) fine100 hl hlj (by rw [hs2]; rfl) hs0 hbase hline
end
section
variable {prog : Program} {w : World} {mg mb : Str → Option Value} {A : Around} {L c' : Addr} {oc : Obj} {s₀ s₁ : Shared} {Q : Flow → Shared → Prop} {E : Value → Shared → Prop}
theorem law_4 {numsD : D} {first : Int} {text : List UInt8} {due : List It} {whole : Bool} (T : Top1 w mg mb s₀.heap) (hr : Room A 13) (hdue : due.length ≤ 600)
    (hB : whole = true → ∃ (hs : List (List UInt8 × List UInt8)) (b : List UInt8), due = hs.map (fun p => It.row p.1 p.2) ++ [.fin (some b)] ∧ joinB [] (fmtAll hs (some b)) = text ∧ (∀ p ∈ hs, p.1.length ≤ 100000 ∧ p.2.length ≤ 100000) ∧ b.length ≤ 100000 ∧ (fmtAll hs (some b)).length ≤ 100000) (hz : text.length ≤ 500)
    (k : Blk (cL prog w A L c' oc s₀ (lk [("numbers", .val numsD), ("first", .val (.int first))]) s₁) ((bdOf (stNo 15)).drop 15) Q E) :
    Blk (cL prog w A L c' oc s₀ (lk [("numbers", .val numsD), ("first", .val (.int first)), ("text", .val (.bytes text)), ("due", .val (.list (due.map It.d))), ("whole", .val (.bool whole))]) s₁) ((bdOf (stNo 15)).drop 14) Q E := by
  refine Blk.if_ (b := whole && false) (JB_and (JB_plain (J.top (J_name rfl)) (.bool _)) (fun hw => ?_)) (fun h => by rw [Bool.and_false] at h; cases h) (fun _ => Blk.nil fun s F => k.run s (F.weaken (weak_of ⟨rfl, rfl, trivial⟩)))
  obtain ⟨hs, b, rfl, hj, hz1, hz2, hz3⟩ := hB hw
  have e1 : ((hs.map (fun p => It.row p.1 p.2) ++ [It.fin (some b)]).map It.d).dropLast = hs.map hdD := by
    rw [List.map_append, List.map_map, List.map_cons, List.map_nil, List.dropLast_concat]
    rfl
  have e2 : ((hs.map (fun p => It.row p.1 p.2) ++ [It.fin (some b)]).map It.d).length = hs.length + 1 := by simp
  refine JB.cast (d := (text != text)) (JB_cmp (d1 := .bytes text) (J.top (J.cast (J_fmt (hs := hs) (b := some b) T (hr.le (by omega)) (.global T (nm_some T (nm100 _))) J_bytes ?_ ?_ hz1 (fun x hx => by cases hx; exact hz2) hz3 (by rw [hj]; exact Nat.le_trans hz (by decide))) (congrArg D.bytes hj))) (J.top (J_name rfl)) Cmp_neB) (by simp)
  · refine J.cast (J_cutL (J.top (J_name rfl)) .none (.some (J_negI J_int)) (by rw [e2]; rw [List.length_append, List.length_map] at hdue; simp at hdue; omega)) ?_
    rw [cut_init, e1]
  · refine J_itemT (ds := [.none, .bytes b]) (k := 1) (J.top (J_itemNeg (k := -1) (d := .tuple [.none, .bytes b]) (J.top (J_name rfl)) (J_negI J_int) (by decide) (by rw [e2]; omega) (by decide) ?_)) J_int (by decide) (by decide) rfl
    rw [e2, List.map_append, show ((-1 : Int) + ((hs.length + 1 : Nat) : Int)).toNat = hs.length by omega, List.getElem?_append_right (by simp)]
    simp
    rfl
end
end Mine
end
section
open PySem PySem.W PyProof.Rows PySem.Calls
set_option Elab.async false
set_option linter.unusedVariables false
set_option maxRecDepth 100000
set_option maxHeartbeats 1000000
namespace Mine
section
variable {c : Cx} {s : Shared} {E : Value → Shared → Prop} {Q : Flow → Shared → Prop} {rest : List Stmt}
theorem bind_step {x : Str} {v : Value} {d : D} (F : FrD c s) (hd : Den c.W s.heap v d) (hk : c.sc.kind = .function) (hl : c.env.kindOf x = some .local) :
    wpAny c.M c.A (bindName c.env x v) (fun _ s' => FrD (c.up x (some (.val d))) s' ∧ StepK [c.L] s s') E s := by
  refine wpAny_bindName ?_
  obtain ⟨m, hm, hμ⟩ := F.fr
  refine wpAny_storeName_local (env := c.env) hl hm.ns (fun h' hn hs => ⟨F.store hm hμ hn hs hd, fun b o hb e => Heap.SameBut.to hs b o (fun q => hb (q ▸ .head _)) e, fun b hb _ => ?_, fun b hb _ => ?_, rfl, fun _ _ e => e, fun h => h⟩) (noCls hk)
  · rcases List.mem_cons.mp hb with rfl | hb
    · obtain ⟨o, _, _, ho, _⟩ := hn; exact ⟨o, ho⟩
    · exact absurd hb List.not_mem_nil
  · rcases List.mem_cons.mp hb with rfl | hb
    · obtain ⟨o, es, ep, ho, hd, _⟩ := hn; exact ⟨o, ho, fun vs q => by rw [hd] at q; cases q⟩
    · exact absurd hb List.not_mem_nil
theorem unpack2 {t : Addr} {u v : Value} {Q : List Value → Shared → Prop} (hh : c.A.handled = none) (ht : s.heap.IsTuple t [u, v].toArray) (hQ : ∀ h', Heap.ExtBut s.heap.objs.size s.heap h' → Q [u, v] { s with heap := h' }) :
    wpAny c.M c.A (unpackItems (.ref t) 2 none) Q E s := wpAny_unpackItems_tuple (items := [u, v].toArray) hh ht hQ
/-- x, y = ([], e): the list is the frame's own -/
theorem Blk.assignSwapOwn {x y : Str} {px py tp lp p2 pos : Pos} {k k2 : Nat} {e : PySem.Expr} {d : D} (hh : c.A.handled = none) (h : ∀ c' : Cx, J c' e d)
    (r : ∀ a, a ∉ c.W → Blk ((c.wm (a :: c.W) (upd c.μ y (some (.val d)))).up x (some (.own a []))) rest Q E) (hsp : starEach [.List [] lp, e] c.env = [(false, eval (.List [] lp) c.env), (false, eval e c.env)] := by rfl)
    (hk : c.sc.kind = .function := by rfl) (hx : c.env.kindOf x = some .local := by rfl) (hy : c.env.kindOf y = some .local := by rfl)
    (hs : swapsWithSole [.Tuple [.Name x px, .Name y py] k tp] (.Tuple [.List [] lp, e] k2 p2) pos.line c.env = pure false := by rfl) (hw : swappedStores [.Tuple [.Name x px, .Name y py] k tp] (.Tuple [.List [] lp, e] k2 p2) c.env = pure (some [x, y]) := by rfl) :
    Blk c (.Assign [.Tuple [.Name x px, .Name y py] k tp] (.Tuple [.List [] lp, e] k2 p2) pos :: rest) Q E :=
  Blk.stmt fun s F => by
    refine Assign_Tuple_swapped (names := [x, y]) (Tuple_ ?_) hs hw
    rw [hsp]
    refine spliced_cons ?_
    refine List_ ?_
    show wpAny c.M c.A (spliced []) _ _ s
    refine spliced_nil ?_
    refine wpAny_newObj_type ?_ (by size_fits)
    have hz' : s.heap.get? s.heap.objs.size = none := get_size _
    have hge := F.ge
    have hnew : ({ s with heap := s.heap.push (listOf ([] : List Value).toArray 0) } : Shared).heap.get? s.heap.objs.size = some (listOf ([] : List Value).toArray 0) := Heap.get?_push_size _ rfl
    have F2 : FrD (c.wm (s.heap.objs.size :: c.W) c.μ) { s with heap := s.heap.push (listOf ([] : List Value).toArray 0) } := F.barNew (.push _) hz' ⟨_, hnew⟩
    have haW : s.heap.objs.size ∉ c.W := F.live.next
    have hno : ∀ z es, c.μ z ≠ some (.own s.heap.objs.size es) := fun z es hy => by
      obtain ⟨v, _, _, hw, _⟩ := F.fr.choose_spec.2 z _ hy
      exact haW hw
    have haL : s.heap.objs.size ≠ c.L := by
      obtain ⟨m, hm, _⟩ := F.fr
      exact (Nat.ne_of_lt hm.ns.lt).symm
    generalize s.heap.objs.size = a at *
    refine spliced_cons (wpAny_mono ((h (c.wm (a :: c.W) c.μ)).run _ E F2) (fun v2 s₂ ⟨e2, x2⟩ => ?_) fun _ _ y => y)
    refine spliced_nil (wpAny_newObj_type ?_ (by size_fits))
    have F3 := F2.go e2
    have e3 : Ext s₂ { s₂ with heap := s₂.heap.push { cls := .type "tuple", data := .seq [.ref a, v2].toArray } } := .push _
    have ht : ({ s₂ with heap := s₂.heap.push { cls := .type "tuple", data := .seq [.ref a, v2].toArray } } : Shared).heap.IsTuple s₂.heap.objs.size [.ref a, v2].toArray := ⟨_, Heap.get?_push_size _ rfl, rfl, 0, rfl⟩
    refine unpack2 hh ht fun h' he => ?_
    have e4 := ext_fresh he
    have F4 := (F3.go e3).go e4
    refine assignInOrder_cons (wpAny_mono (bind_step (c := c.wm (a :: c.W) c.μ) F4 ((x2.ext e3).ext e4) hk hy) (fun _ s₅ ⟨F5, k5⟩ => ?_) fun _ _ y => y)
    have ho5 : s₅.heap.get? a = some (listOf ([] : List Value).toArray 0) := k5.obj a _ (fun hm => by
      rcases List.mem_cons.mp hm with q | hm
      · exact haL q
      · exact absurd hm List.not_mem_nil) (e4.keep _ _ (e3.keep _ _ (e2.keep _ _ hnew)))
    obtain ⟨m5, hm5, hμ5⟩ := F5.fr
    refine assignInOrder_cons (wpAny_bindName (wpAny_storeName_local (env := c.env) hx hm5.ns (fun h6 hn6 hs6 => ?_) (noCls hk)))
    exact assignInOrder_nil ((r a haW).run _ (F5.storeOwn (x := x) (ds := []) (vs := []) hm5 hμ5 hn6 hs6 (.head _) hge (fun z es hz => by
      simp only [Cx.wm, upd] at hz
      split at hz
      · cases hz
      · exact hno _ _ hz) ho5 .nil))
end
end Mine
end
section
open PySem PySem.W PyProof.Rows PySem.Calls
set_option Elab.async false
set_option linter.unusedVariables false
set_option maxRecDepth 100000
set_option maxHeartbeats 1000000
namespace Mine
def fieldOf (i : Int) : List UInt8 := fieldsB.getD ((i.fdiv 16).fmod 4).toNat []
def valueOf (i : Int) : List UInt8 := valuesB.getD ((i.fdiv 64).fmod 9).toNat []
theorem field_at (i : Int) : fieldOf i ∈ fieldsB ∧ (fieldsB.map D.bytes)[((i.fdiv 16).fmod 4).toNat]? = some (.bytes (fieldOf i)) := by
  have h1 := fmod_pos (i.fdiv 16) (b := 4) (by decide)
  have h2 := Int.fmod_lt_of_pos (i.fdiv 16) (b := 4) (by decide)
  have h3 : ((i.fdiv 16).fmod 4).toNat < fieldsB.length := by show _ < 4; omega
  unfold fieldOf
  rw [List.getD_eq_getElem?_getD, List.getElem?_map, List.getElem?_eq_getElem h3]
  exact ⟨List.getElem_mem _, rfl⟩
theorem value_at (i : Int) : valueOf i ∈ valuesB ∧ (valuesB.map D.bytes)[((i.fdiv 64).fmod 9).toNat]? = some (.bytes (valueOf i)) := by
  have h1 := fmod_pos (i.fdiv 64) (b := 9) (by decide)
  have h2 := Int.fmod_lt_of_pos (i.fdiv 64) (b := 9) (by decide)
  have h3 : ((i.fdiv 64).fmod 9).toNat < valuesB.length := by show _ < 9; omega
  unfold valueOf
  rw [List.getD_eq_getElem?_getD, List.getElem?_map, List.getElem?_eq_getElem h3]
  exact ⟨List.getElem_mem _, rfl⟩
def hdOf (i : Int) : List UInt8 × List UInt8 := (fieldOf i, valueOf i)
def wrH (p : List UInt8 × List UInt8) : List UInt8 := p.1 ++ [32] ++ joinB [10, 32] (splitB 10 p.2) ++ [10]
def wrAll (hs : List (List UInt8 × List UInt8)) : List UInt8 := hs.flatMap wrH
def bodiesO : List (Option (List UInt8)) := [none, some [], some [109], some [109, 10, 10, 110], some [10], some [32, 120, 10]]
theorem bodiesO_eq : bodiesD = bodiesO.map optB := rfl
theorem fields_len : ∀ b ∈ fieldsB, b.length ≤ 10 := by decide
theorem values_len : ∀ b ∈ valuesB, b.length ≤ 10 ∧ (joinB [10, 32] (splitB 10 b)).length ≤ 20 ∧ b.length + (placesB 10 0 b).length * 2 ≤ 100 := by decide
theorem wrAll_len {hs : List (List UInt8 × List UInt8)} (h : ∀ p ∈ hs, p.1 ∈ fieldsB ∧ p.2 ∈ valuesB) : (wrAll hs).length ≤ hs.length * 40 := by
  induction hs with
  | nil => simp [wrAll]
  | cons p hs ih =>
    have h1 := fields_len _ (h p (.head _)).1
    have h2 := (values_len _ (h p (.head _)).2).2.1
    have h3 := ih fun x hx => h x (.tail _ hx)
    simp only [wrAll, List.flatMap_cons, List.length_append, wrH, List.length_cons, List.length_nil] at h3 ⊢
    omega
theorem optB_tr (b : Option (List UInt8)) : ∀ {c : Cx} {e : PySem.Expr} {p1 : Pos} {k1 : Nat}, J c e (optB b) → JB c (.Compare e [.Is] [.Constant .none k1 p1] p1) (b.isNone) := by
  intro c e p1 k1 h
  cases b with
  | none => exact JB_cmp (J.top h) (J.top J_none) Cmp_isNone
  | some x => exact JB_cmp (J.top h) (J.top J_none) Cmp_isNoneB
section
variable {prog : Program} {w : World} {mg mb : Str → Option Value} {A : Around} {L c' : Addr} {oc : Obj} {s₀ s₁ : Shared} {Q : Flow → Shared → Prop} {E : Value → Shared → Prop}
/-- the headers made and written, one by one -/
theorem law_5 {nums : List Int} {first : Int} (T : Top1 w mg mb s₀.heap) (hr : Room A 13) (hlen : nums.length ≤ 1000)
    (k : ∀ (a : Addr) (W : List Addr), (∀ b ∈ [c', L, 88], b ∈ W) → Blk (cxL prog w A L W s₀ [(c', oc), (88, grown (posOf stripSt) c')] (lk [("first", .val (.int first)), ("headers", .own a (((nums.take 3).map hdOf).map hdD)), ("written", .val (.bytes (wrAll ((nums.take 3).map hdOf))))]) s₁) ((bdOf (stNo 15)).drop 17) Q E) :
    Blk (cL prog w A L c' oc s₀ (lk [("numbers", .val (.list (nums.map D.int))), ("first", .val (.int first))]) s₁) ((bdOf (stNo 15)).drop 15) Q E := by
  have hh : A.handled = none := hr.hh
  refine Blk.assignSwapOwn (d := .bytes []) hh (fun c' => J_bytes) (fun a ha => ?_)
  generalize hW : a :: [c', L, 88] = W
  have hsub : ∀ b ∈ [c', L, 88], b ∈ W := fun b hb => hW ▸ .tail _ hb
  have hl3 : ((nums.take 3).map D.int).length ≤ 3 := by rw [List.length_map, List.length_take]; omega
  refine Blk.forList (ds := (nums.take 3).map D.int) hh (fun i => lk [("first", .val (.int first)), ("headers", .own a ((((nums.take 3).take i).map hdOf).map hdD)), ("written", .val (.bytes (wrAll (((nums.take 3).take i).map hdOf))))]) (fun _ => True) trivial (weak_of ⟨rfl, rfl, rfl, trivial⟩) ?_ ?_ ?_
  · refine J.cast (J_cutL (J.top (J_name rfl)) .none (.some J_int) (by rw [List.length_map]; omega)) ?_
    rw [show ((3 : Int)) = ((3 : Nat) : Int) from rfl, cut_to, List.map_take]
  · intro W' H' V' hW' i d hd _ E'
    rw [List.getElem?_map, Option.map_eq_some_iff] at hd
    obtain ⟨m, hm, rfl⟩ := hd
    have hi3 : i < (nums.take 3).length := (List.getElem?_eq_some_iff.mp hm).1
    have hi3' : i < 3 := by rw [List.length_take] at hi3; omega
    generalize hpre : ((nums.take 3).take i).map hdOf = pre
    have hnext : ((nums.take 3).take (i + 1)).map hdOf = pre ++ [hdOf m] := by rw [List.take_add_one, hm, List.map_append, hpre]; rfl
    have hpl : pre.length ≤ 3 := by rw [← hpre, List.length_map, List.length_take]; omega
    have hpm : ∀ p ∈ pre, p.1 ∈ fieldsB ∧ p.2 ∈ valuesB := fun p hp => by
      rw [← hpre] at hp
      obtain ⟨j, _, rfl⟩ := List.mem_map.mp hp
      exact ⟨(field_at j).1, (value_at j).1⟩
    have hwl := wrAll_len hpm
    have h16 := fmod_pos (m.fdiv 16) (b := 4) (by decide)
    have h16' := Int.fmod_lt_of_pos (m.fdiv 16) (b := 4) (by decide)
    have h64 := fmod_pos (m.fdiv 64) (b := 9) (by decide)
    have h64' := Int.fmod_lt_of_pos (m.fdiv 64) (b := 9) (by decide)
    have hfl := fields_len _ (field_at m).1
    have hvl := values_len _ (value_at m).1
    refine Blk.assignSwapped (d1 := .bytes (fieldOf m)) (d2 := .bytes (valueOf m)) hh ?_ ?_
    · refine J_tuple (ds := [.bytes (fieldOf m), .bytes (valueOf m)]) (JS.cons ?_ (JS.cons ?_ JS.nil))
      · exact J_item (k := (m.fdiv 16).fmod 4) (J.top (J_fields T (hr.le (by omega)))) (J_modI (J_divI (J_name rfl) J_int (by decide) (by decide)) J_int (by decide)) h16 (by omega) (field_at m).2
      · exact J_item (k := (m.fdiv 64).fmod 9) (J.top (J_values T (hr.le (by omega)))) (J_modI (J_divI (J_name rfl) J_int (by decide) (by decide)) J_int (by decide)) h64 (by omega) (value_at m).2
    · refine Blk.append (a := a) (ds := pre.map hdD) (d := hdD (hdOf m)) (by rw [← hpre]; rfl) ?_ ?_ (by rw [List.length_map]; omega)
      · exact J_tuple (ds := [.bytes (fieldOf m), .bytes (valueOf m)]) (JS.cons (J_name rfl) (JS.cons (J_name rfl) JS.nil))
      · refine Blk.assign (d := .bytes (wrAll pre ++ fieldOf m ++ [32] ++ joinB [10, 32] (splitB 10 (valueOf m)) ++ [10])) ?_ ?_
        · refine J_addB (J_addB (J_addB (J_addB (J_name (by rw [← hpre]; rfl)) (J_name rfl) (by omega)) J_bytes (by simp; omega)) (J_replace (J_name rfl) J_bytes J_bytes (by have := hvl.2.2; simp; omega)) (by simp; omega)) J_bytes (by simp; omega)
        · refine Blk.next fun s F => ⟨trivial, ?_⟩
          have ew : wrAll (pre ++ [hdOf m]) = wrAll pre ++ fieldOf m ++ [32] ++ joinB [10, 32] (splitB 10 (valueOf m)) ++ [10] := by
            simp [wrAll, wrH, hdOf]
          refine F.weaken (c := _) (weak_of ⟨rfl, ?_, ?_, trivial⟩)
          · rw [hnext, List.map_append]; rfl
          · rw [hnext, ew]; rfl
  · intro _
    have e3 : (nums.take 3).take ((nums.take 3).map D.int).length = nums.take 3 := by rw [List.length_map, List.take_length]
    rw [e3]
    rw [← hW] at hsub ⊢
    exact k a _ hsub
end
end Mine
end
section
open PySem PySem.W PyProof.Rows PySem.Calls
set_option Elab.async false
set_option linter.unusedVariables false
set_option maxRecDepth 100000
set_option maxHeartbeats 1000000
namespace Mine
theorem bodiesO_len : ∀ b ∈ bodiesO, (b.getD []).length ≤ 10 := by decide
theorem fmtAll_len {hs : List (List UInt8 × List UInt8)} {b : Option (List UInt8)} (h : ∀ p ∈ hs, p.1 ∈ fieldsB ∧ p.2 ∈ valuesB) (hl : hs.length ≤ 3) : (fmtAll hs b).length ≤ 1000 := by
  have hv : ∀ p ∈ valuesB, (splitB 10 p).length ≤ 10 := by decide
  have key : ∀ hs : List (List UInt8 × List UInt8), (∀ p ∈ hs, p.1 ∈ fieldsB ∧ p.2 ∈ valuesB) → (hs.flatMap fmtH).length ≤ hs.length * 11 := by
    intro hs
    induction hs with
    | nil => intro _; simp
    | cons p hs ih =>
      intro h
      have h1 := hv _ (h p (.head _)).2
      have h2 := ih fun x hx => h x (.tail _ hx)
      simp only [List.flatMap_cons, List.length_append, fmtH, List.length_cons, List.length_map, List.length_drop] at h2 ⊢
      omega
  have h1 := key hs h
  unfold fmtAll
  have h2 : (bodyR b).length ≤ 1 := by
    unfold bodyR
    split
    · split <;> simp
    · simp
  simp only [List.length_append, List.length_cons]
  omega
section
variable {prog : Program} {w : World} {mg mb : Str → Option Value} {A : Around} {L c' : Addr} {oc : Obj} {s₀ s₁ : Shared} {Q : Flow → Shared → Prop} {E : Value → Shared → Prop}
/-- the headers written by _format_message and read again -/
theorem law_6 {W : List Addr} {a : Addr} {first : Int} {hs : List (List UInt8 × List UInt8)} (T : Top1 w mg mb s₀.heap) (hr : Room A 13) (hsh : CodeShape (qualS w 0) oc) (hl : hs.length ≤ 3) (hm : ∀ p ∈ hs, p.1 ∈ fieldsB ∧ p.2 ∈ valuesB)
    (hC : ∀ bo ∈ bodiesO, joinB [] (fmtAll hs bo) = wrAll hs ++ [10] ++ bo.getD []) (hD : ∀ bo ∈ bodiesO, pmGo none [] (linesB (wrAll hs ++ [10] ++ bo.getD [])) = (hs.map (fun p => It.row p.1 p.2) ++ [.fin (some (bo.getD []))], false))
    (hQ : ∀ s, Ext s₀ s → s.heap.get? 88 = some (grown (posOf stripSt) c') → Q (.ret (.bool true)) s) :
    Blk (cxL prog w A L W s₀ [(c', oc), (88, grown (posOf stripSt) c')] (lk [("first", .val (.int first)), ("headers", .own a (hs.map hdD)), ("written", .val (.bytes (wrAll hs)))]) s₁) ((bdOf (stNo 15)).drop 17) Q E := by
  have hwl := wrAll_len hm
  have h1 := fmod_pos (first.fdiv 1024) (b := 6) (by decide)
  have h2 := Int.fmod_lt_of_pos (first.fdiv 1024) (b := 6) (by decide)
  have h3 : ((first.fdiv 1024).fmod 6).toNat < bodiesO.length := by show _ < 6; omega
  obtain ⟨bo, hbo, hbd⟩ : ∃ bo ∈ bodiesO, bodiesD[((first.fdiv 1024).fmod 6).toNat]? = some (optB bo) := ⟨bodiesO[((first.fdiv 1024).fmod 6).toNat], List.getElem_mem _, by rw [bodiesO_eq, List.getElem?_map, List.getElem?_eq_getElem h3]; rfl⟩
  have hbl := bodiesO_len bo hbo
  have hC' := hC bo hbo
  have hD' := hD bo hbo
  have hfl := fmtAll_len (b := bo) hm hl
  refine Blk.assign (d := optB bo) (J_item (k := (first.fdiv 1024).fmod 6) (J.top (J_bodies T (hr.le (by omega)))) (J_modI (J_divI (J_name rfl) J_int (by decide) (by decide)) J_int (by decide)) h1 (by omega) hbd) ?_
  refine Blk.assign (d := .bytes (bo.getD [])) ?_ ?_
  · cases bo with
    | none => exact J_ifExp (b := true) (JB_cmp (J.top (J_name rfl)) (J.top J_none) Cmp_isNone) (fun _ => J_bytes) (fun h => nomatch h)
    | some x => exact J_ifExp (b := false) (JB_cmp (J.top (J_name rfl)) (J.top J_none) Cmp_isNoneB) (fun h => nomatch h) (fun _ => J_name rfl)
  generalize bo.getD [] = plain at hbl hC' hD'
  refine Blk.assign (d := .bytes (wrAll hs ++ [10] ++ plain)) (J_addB (J_addB (J_name rfl) J_bytes (by simp; omega)) (J_name rfl) (by simp; omega)) ?_
  have hwr : (wrAll hs ++ [10] ++ plain).length ≤ 200 := by simp; omega
  generalize wrAll hs ++ [10] ++ plain = written at hC' hD' hwr
  have hz : ∀ p ∈ hs, p.1.length ≤ 100000 ∧ p.2.length ≤ 100000 := fun p hp => by
    have h1 := fields_len _ (hm p hp).1
    have h2 := (values_len _ (hm p hp).2).1
    omega
  have hzb : ∀ x, bo = some x → x.length ≤ 100000 := fun x hx => by
    have : ∀ b ∈ bodiesO, ∀ x, b = some x → x.length ≤ 100000 := by
      intro b hb x hx
      have := bodiesO_len b hb
      rw [hx] at this
      exact Nat.le_trans this (by decide)
    exact this bo hbo x hx
  refine Blk.if_ (b := (written != written)) (JB_cmp (d1 := .bytes written) (J.top (J.cast (J_fmt (hs := hs) (b := bo) T (hr.le (by omega)) (.global T (nm_some T (nm100 _))) J_bytes (J_listOf (.builtin T (nm_none T (nmNo_list _)) bt_list) (JT_own rfl) (by rw [List.length_map]; omega)) (J_name rfl) hz hzb (by omega) (by rw [hC']; omega)) (congrArg D.bytes hC'))) (J.top (J_name rfl)) Cmp_neB) (fun h => by simp at h) (fun _ => Blk.done ?_)
  have eh : hs.map hdD ++ [.tuple [.none, .bytes plain]] = (hs.map (fun p => It.row p.1 p.2) ++ [It.fin (some plain)]).map It.d := by
    rw [List.map_append, List.map_map]; rfl
  refine Blk.ret (d := .bool true) ?_ fun v s F x => ?_
  · refine J_cmp (d1 := .list ((hs.map (fun p => It.row p.1 p.2) ++ [It.fin (some plain)]).map It.d)) (d2 := .list ((hs.map (fun p => It.row p.1 p.2) ++ [It.fin (some plain)]).map It.d)) (J.top (J_listP (bs := [written]) (text := written) (d := .list [.bytes written]) T (hr.le (by omega)) (.builtin T (nm_none T (nmNo_list _)) bt_list) (.global T (nm_some T (nm93 _))) (fun s F => ?_) (.inl rfl) (J_list (ds := [.bytes written]) (JS.cons (J_name rfl) JS.nil)) rfl (by omega) hD' ?_)) (J.top (J.cast (J_addL (a := hs.map hdD) (b := [.tuple [.none, .bytes plain]]) (JT_own rfl) (J.top (J_list (ds := [.tuple [.none, .bytes plain]]) (JS.cons (J_tuple (ds := [.none, .bytes plain]) (JS.cons J_none (JS.cons (J_name rfl) JS.nil))) JS.nil))) ?_) (congrArg D.list eh))) (Cmp_eqL (plain1_map _) (by decide) hr.units)
    · exact ⟨c', oc, (F.hh (88, _) (.tail _ (.head _))).g, (F.hh (c', oc) (.head _)).g, hsh⟩
    · simp; omega
    · simp; omega
  · have := denT_bool x.top
    subst this
    exact hQ s F.ext (F.hh (88, _) (.tail _ (.head _))).g
end
end Mine
end
section
open PySem PySem.W PyProof.Rows
set_option Elab.async false
set_option linter.unusedVariables false
namespace Mine
/-- rows with their ends -/
def rowsL (cl : List UInt8) : List (List UInt8) → List (List UInt8)
  | [] => []
  | r :: rs => (r ++ if rs = [] then cl else [10]) :: rowsL cl rs
/-- the groups, from an open one on -/
def chunk (g : List (List UInt8)) : List (List UInt8) → List (List (List UInt8))
  | [] => [g]
  | r :: rs => if r.head? = some 32 then chunk (g ++ [r.drop 1]) rs else g :: chunk [r] rs
def rowG (cl : List UInt8) (last : Bool) (g : List (List UInt8)) (j : Nat) : It :=
  .row ((g.headD []).take j) (strip (joinB [10] ((g.headD []).drop (j + 1) :: g.drop 1) ++ if last then cl else [10]))
def tellG (cl : List UInt8) : List (List (List UInt8)) → List It × Bool
  | [] => ([], false)
  | g :: gs => match idxB 32 (g.headD []) with
    | none => ([], true)
    | some j => (rowG cl gs.isEmpty g j :: (tellG cl gs).1, (tellG cl gs).2)
/-- what is told in the end -/
def endG (tl : List It) (x : List It × Bool) : List It × Bool := if x.2 = true then (x.1, true) else (x.1 ++ tl, false)
theorem endG_cons (tl : List It) (i : It) (x : List It × Bool) : endG tl (i :: x.1, x.2) = (i :: (endG tl x).1, (endG tl x).2) := by
  unfold endG
  cases x.2 <;> simp
/-- what may stand behind the rows -/
inductive TailOk : List (List UInt8) → List It → Prop
  | none : TailOk [] [.fin none]
  | some (ls) : TailOk ([10] :: ls) [.fin (some ls.flatten)]
theorem idxB_append (c : UInt8) : ∀ (a b : List UInt8), idxB c (a ++ b) = match idxB c a with | some i => some i | none => (idxB c b).map (· + a.length)
  | [], b => by simp [idxB]
  | x :: a, b => by
    rw [List.cons_append]
    by_cases h : x = c
    · simp [idxB, h]
    · have e1 : idxB c (x :: (a ++ b)) = (idxB c (a ++ b)).map (· + 1) := by rw [idxB, if_neg h]
      have e2 : idxB c (x :: a) = (idxB c a).map (· + 1) := by rw [idxB, if_neg h]
      rw [e1, e2, idxB_append c a b]
      cases idxB c a with
      | some i => rfl
      | none =>
        cases idxB c b with
        | none => rfl
        | some i => simp only [Option.map_some, Option.map_none, List.length_cons]; congr 1
theorem idxB_end {r cl : List UInt8} (h : cl = [] ∨ cl = [10]) : idxB 32 (r ++ cl) = idxB 32 r := by
  rw [idxB_append]
  cases idxB 32 r with
  | some i => rfl
  | none => rcases h with rfl | rfl <;> rfl
theorem head_end {r cl : List UInt8} (hr : r ≠ []) : (r ++ cl).head? = r.head? := by cases r with | nil => exact absurd rfl hr | cons x r => rfl
theorem ne_end {r cl : List UInt8} (hr : r ≠ []) (h10 : 10 ∉ r) (h : cl = [] ∨ cl = [10]) : r ++ cl ≠ [10] := fun e => by
  cases r with
  | nil => exact hr rfl
  | cons x r =>
    rw [List.cons_append] at e
    injection e with e1 e2
    exact h10 (e1 ▸ .head _)
theorem splitOnce_none {l : List UInt8} (h : idxB 32 l = none) : splitOnceB 32 l = [l] := by unfold splitOnceB; rw [h]
theorem splitOnce_some {l : List UInt8} {i : Nat} (h : idxB 32 l = some i) : splitOnceB 32 l = [l.take i, l.drop (i + 1)] := by unfold splitOnceB; rw [h]
theorem tellG_bad (cl : List UInt8) : ∀ (rs : List (List UInt8)) (g : List (List UInt8)), g ≠ [] → idxB 32 (g.headD []) = none → tellG cl (chunk g rs) = ([], true)
  | [], g, _, h => by simp only [chunk, tellG, h]
  | r :: rs, g, hg, h => by
    unfold chunk
    split
    · refine tellG_bad cl rs _ (by simp) ?_
      cases g with
      | nil => exact absurd rfl hg
      | cons a g => exact h
    · simp only [tellG, h]
theorem chunk_ne (g : List (List UInt8)) (rs : List (List UInt8)) : chunk g rs ≠ [] := by
  induction rs generalizing g with
  | nil => simp [chunk]
  | cons r rs ih =>
    unfold chunk
    split
    · exact ih _
    · simp
theorem joinB_snoc (sep : List UInt8) (a : List UInt8) : ∀ (p : List UInt8) (ps : List (List UInt8)), joinB sep (p :: ps ++ [a]) = joinB sep (p :: ps) ++ sep ++ a
  | p, [] => by simp [joinB]
  | p, q :: ps => by
    have ih := joinB_snoc sep a q ps
    rw [List.cons_append, List.cons_append, joinB, joinB, ← List.cons_append, ih]
    simp
theorem pm_tail {k : Option (List UInt8)} {v T : List (List UInt8)} {tl : List It} (h : TailOk T tl) : pmGo k v T = (rowOf k v ++ tl, false) := by
  cases h with
  | none => rfl
  | some ls => exact pmGo_blank (by decide) rfl
theorem pm_rows {cl : List UInt8} {T : List (List UInt8)} {tl : List It} (hcl : cl = [] ∨ cl = [10]) (hT : TailOk T tl) : ∀ (rs : List (List UInt8)) (g : List (List UInt8)) (j : Nat) (v : List (List UInt8)), g ≠ [] → idxB 32 (g.headD []) = some j →
    joinB [] v = joinB [10] ((g.headD []).drop (j + 1) :: g.drop 1) ++ (if rs = [] then cl else [10]) → (∀ r ∈ rs, r ≠ [] ∧ 10 ∉ r) → pmGo (some ((g.headD []).take j)) v (rowsL cl rs ++ T) = endG tl (tellG cl (chunk g rs))
  | [], g, j, v, hg, hj, hv, _ => by
    rw [rowsL, List.nil_append, pm_tail hT]
    simp only [chunk, tellG, hj, rowOf, hv, rowG, endG]
    rfl
  | r :: rs, g, j, v, hg, hj, hv, hrs => by
    obtain ⟨hr0, hr10⟩ := hrs r (.head _)
    have hrs' : ∀ r ∈ rs, r ≠ [] ∧ 10 ∉ r := fun x hx => hrs x (.tail _ hx)
    have hterm : (if rs = [] then cl else [10]) = [] ∨ (if rs = [] then cl else [10]) = [10] := by split; exact hcl; exact .inr rfl
    rw [rowsL, List.cons_append]
    generalize hte : (if rs = [] then cl else [10]) = term at hterm
    rw [if_neg (by simp)] at hv
    by_cases h : r.head? = some 32
    · rw [pmGo_cont (by rw [head_end hr0]; exact h)]
      have ec : chunk g (r :: rs) = chunk (g ++ [r.drop 1]) rs := by rw [chunk, if_pos h]
      rw [ec]
      have eh : (g ++ [r.drop 1]).headD [] = g.headD [] := by cases g with | nil => exact absurd rfl hg | cons a g => rfl
      have ed : (g ++ [r.drop 1]).drop 1 = g.drop 1 ++ [r.drop 1] := by cases g with | nil => exact absurd rfl hg | cons a g => rfl
      have := pm_rows hcl hT rs (g ++ [r.drop 1]) j (v ++ [(r ++ term).drop 1]) (by simp) (by rw [eh]; exact hj) (by
        rw [eh, ed, hte, ← List.cons_append, joinB_snoc]
        have e1 : (r ++ term).drop 1 = r.drop 1 ++ term := by cases r with | nil => exact absurd rfl hr0 | cons x r => rfl
        rw [e1, joinB_nil, List.flatten_append, ← joinB_nil, hv]
        simp) hrs'
      rw [eh] at this
      exact this
    · have ec : chunk g (r :: rs) = g :: chunk [r] rs := by rw [chunk, if_neg h]
      have ei : (chunk [r] rs).isEmpty = false := by
        have := chunk_ne [r] rs
        cases hc : chunk [r] rs with
        | nil => exact absurd hc this
        | cons _ _ => rfl
      have erow : rowOf (some ((g.headD []).take j)) v = [rowG cl false g j] := by
        simp only [rowOf, hv, rowG]
        rfl
      have et : tellG cl (chunk g (r :: rs)) = (rowG cl false g j :: (tellG cl (chunk [r] rs)).1, (tellG cl (chunk [r] rs)).2) := by
        rw [ec, tellG, hj]
        simp only [ei]
      rw [et, endG_cons]
      have h1 : (r ++ term).head? ≠ some 32 := by rw [head_end hr0]; exact h
      have h2 := ne_end hr0 hr10 hterm
      cases hi : idxB 32 r with
      | none =>
        rw [pmGo_bad h1 h2 (splitOnce_none (by rw [idxB_end hterm, hi])), tellG_bad cl rs [r] (by simp) hi, erow]
        rfl
      | some i =>
        have hlt := idxB_lt 32 hi
        have hs := splitOnce_some (l := r ++ term) (i := i) (by rw [idxB_end hterm, hi])
        rw [List.take_append_of_le_length (by omega), List.drop_append_of_le_length (by omega)] at hs
        rw [pmGo_row h1 h2 hs, erow]
        have := pm_rows hcl hT rs [r] i [r.drop (i + 1) ++ term] (by simp) hi (by rw [hte]; simp [joinB]) hrs'
        rw [show (([r] : List (List UInt8)).headD []).take i = r.take i from rfl] at this
        rw [this]
        rfl
theorem groups_chunk : ∀ (rs : List (List UInt8)) (pre : List (List (List UInt8))) (g : List (List UInt8)), rs.foldl stepG (pre ++ [g]) = pre ++ chunk g rs
  | [], pre, g => rfl
  | r :: rs, pre, g => by
    rw [List.foldl_cons, chunk]
    by_cases h : r.head? = some 32
    · have e : stepG (pre ++ [g]) r = pre ++ [g ++ [r.drop 1]] := by
        unfold stepG
        rw [if_pos h, if_neg (by simp), last_set]
        simp
      rw [e, groups_chunk rs, if_pos h]
    · have e : stepG (pre ++ [g]) r = (pre ++ [g]) ++ [[r]] := by unfold stepG; rw [if_neg h]
      rw [e, groups_chunk rs, if_neg h]
      simp
theorem groups_cons (r : List UInt8) (rs : List (List UInt8)) : groupsOf (r :: rs) = if r.head? = some 32 then groupsOf rs else chunk [r] rs := by
  unfold groupsOf
  rw [List.foldl_cons]
  by_cases h : r.head? = some 32
  · rw [if_pos h]
    unfold stepG
    rw [if_pos h, if_pos rfl]
  · rw [if_neg h]
    have e : stepG [] r = [] ++ [[r]] := by unfold stepG; rw [if_neg h]
    rw [e, groups_chunk]
    rfl
/-- the rows read from the start -/
theorem pm_start {cl : List UInt8} {T : List (List UInt8)} {tl : List It} (hcl : cl = [] ∨ cl = [10]) (hT : TailOk T tl) : ∀ (rs v : List (List UInt8)), (∀ r ∈ rs, r ≠ [] ∧ 10 ∉ r) → pmGo none v (rowsL cl rs ++ T) = endG tl (tellG cl (groupsOf rs))
  | [], v, _ => by
    rw [rowsL, List.nil_append, pm_tail hT]
    rfl
  | r :: rs, v, hrs => by
    obtain ⟨hr0, hr10⟩ := hrs r (.head _)
    have hrs' : ∀ r ∈ rs, r ≠ [] ∧ 10 ∉ r := fun x hx => hrs x (.tail _ hx)
    have hterm : (if rs = [] then cl else [10]) = [] ∨ (if rs = [] then cl else [10]) = [10] := by split; exact hcl; exact .inr rfl
    rw [rowsL, List.cons_append, groups_cons]
    generalize hte : (if rs = [] then cl else [10]) = term at hterm
    by_cases h : r.head? = some 32
    · rw [pmGo_cont (by rw [head_end hr0]; exact h), if_pos h]
      exact pm_start hcl hT rs _ hrs'
    · rw [if_neg h]
      have h1 : (r ++ term).head? ≠ some 32 := by rw [head_end hr0]; exact h
      have h2 := ne_end hr0 hr10 hterm
      cases hi : idxB 32 r with
      | none =>
        rw [pmGo_bad h1 h2 (splitOnce_none (by rw [idxB_end hterm, hi])), tellG_bad cl rs [r] (by simp) hi]
        rfl
      | some i =>
        have hlt := idxB_lt 32 hi
        have hs := splitOnce_some (l := r ++ term) (i := i) (by rw [idxB_end hterm, hi])
        rw [List.take_append_of_le_length (by omega), List.drop_append_of_le_length (by omega)] at hs
        rw [pmGo_row h1 h2 hs]
        have := pm_rows hcl hT rs [r] i [r.drop (i + 1) ++ term] (by simp) hi (by rw [hte]; simp [joinB]) hrs'
        rw [show (([r] : List (List UInt8)).headD []).take i = r.take i from rfl] at this
        rw [this]
        rfl
end Mine
end
section
open PySem PySem.W PyProof.Rows
set_option Elab.async false
set_option linter.unusedVariables false
namespace Mine
/-- told, counted from off -/
def tolds (n : Nat) (cl : List UInt8) (off : Nat) (gs : List (List (List UInt8))) (i : Nat) : List It := (List.range i).filterMap fun j => (gs[j]?).bind (rowAt n cl (off + j))
theorem tolds_cons (n : Nat) (cl : List UInt8) (off : Nat) (g : List (List UInt8)) (gs : List (List (List UInt8))) (i : Nat) : tolds n cl off (g :: gs) (i + 1) = (rowAt n cl off g).toList ++ tolds n cl (off + 1) gs i := by
  unfold tolds
  rw [List.range_succ_eq_map, List.filterMap_cons]
  have e : ((fun j => ((g :: gs)[j]?).bind (rowAt n cl (off + j))) 0) = rowAt n cl off g := by simp
  rw [List.filterMap_map]
  have e2 : ((fun j => ((g :: gs)[j]?).bind (rowAt n cl (off + j))) ∘ Nat.succ) = fun j => (gs[j]?).bind (rowAt n cl (off + 1 + j)) := by
    funext j
    simp only [Function.comp, Nat.succ_eq_add_one, List.getElem?_cons_succ]
    congr 2
    omega
  rw [e2]
  simp only [List.getElem?_cons_zero, Option.bind_some, Nat.add_zero]
  cases rowAt n cl off g <;> rfl
theorem rowAt_rowG {n : Nat} {cl : List UInt8} {off : Nat} {g : List (List UInt8)} {gs : List (List (List UInt8))} {j : Nat} (hn : n = off + 1 + gs.length) (h : idxB 32 (g.headD []) = some j) : rowAt n cl off g = some (rowG cl gs.isEmpty g j) := by
  unfold rowAt rowG
  rw [h, Option.map_some]
  cases gs with
  | nil => simp at hn; simp [hn]
  | cons x gs =>
    have : ¬ (off + 1 = n) := by simp at hn; omega
    simp [this]
theorem tell_tolds (cl : List UInt8) : ∀ (gs : List (List (List UInt8))) (off n : Nat), n = off + gs.length →
    (match badG gs with | some i => tellG cl gs = (tolds n cl off gs i, true) | none => tellG cl gs = (tolds n cl off gs gs.length, false))
  | [], off, n, _ => by simp [badG, tellG, tolds]
  | g :: gs, off, n, hn => by
    have ih := tell_tolds cl gs (off + 1) n (by simp at hn; omega)
    unfold badG at ih ⊢
    rw [List.findIdx?_cons]
    cases h : idxB 32 (g.headD []) with
    | none =>
      simp only [Option.isNone_none, if_true]
      rw [tellG, h]
      rfl
    | some j =>
      have hr := rowAt_rowG (cl := cl) (g := g) (gs := gs) (off := off) (n := n) (by simp at hn; omega) h
      simp only [Option.isNone_some, Bool.false_eq_true, if_false]
      cases hb : gs.findIdx? (fun g => (idxB 32 (g.headD [])).isNone) with
      | none =>
        rw [hb] at ih
        simp only [Option.map_none]
        rw [tellG, h, List.length_cons, tolds_cons, hr]
        simp only at ih ⊢
        rw [ih]
        rfl
      | some i =>
        rw [hb] at ih
        simp only [Option.map_some]
        rw [tellG, h, tolds_cons, hr]
        simp only at ih ⊢
        rw [ih]
        rfl
theorem toldN_eq (gs : List (List (List UInt8))) (cl : List UInt8) (i : Nat) : toldN gs cl i = tolds gs.length cl 0 gs i := by
  unfold toldN tolds
  congr 1
  funext j
  rw [Nat.zero_add]
/-- the pieces as rows -/
def linesR : List (List UInt8) → List (List UInt8)
  | [] => []
  | p :: ps => if ps = [] then (if p = [] then [] else [p]) else (p ++ [10]) :: linesR ps
theorem lines_split : ∀ t, linesB t = linesR (splitB 10 t)
  | [] => by simp [linesB, splitB, linesR]
  | x :: r => by
    have ih := lines_split r
    rw [linesB_cons]
    have hne := splitB_ne 10 r
    by_cases hx : x = 10
    · rw [if_pos hx]
      have e : splitB 10 (x :: r) = [] :: splitB 10 r := by rw [splitB, if_pos hx]
      rw [e, linesR, if_neg hne, ih]
      rfl
    · rw [if_neg hx]
      have e : splitB 10 (x :: r) = (match splitB 10 r with | [] => [[x]] | p :: ps => (x :: p) :: ps) := by rw [splitB, if_neg hx]; try rfl
      rw [e, ih]
      cases hs : splitB 10 r with
      | nil => exact absurd hs hne
      | cons p ps =>
        simp only [linesR]
        by_cases hps : ps = []
        · subst hps
          by_cases hp : p = []
          · subst hp; simp
          · simp [hp]
        · simp [hps]
theorem linesR_flat : ∀ {ps : List (List UInt8)}, ps ≠ [] → (linesR ps).flatten = joinB [10] ps
  | [], h => absurd rfl h
  | [p], _ => by
    by_cases hp : p = []
    · simp [linesR, joinB, hp]
    · simp [linesR, joinB, hp]
  | p :: q :: ps, _ => by
    have ih := linesR_flat (ps := q :: ps) (by simp)
    rw [linesR, if_neg (by simp), List.flatten_cons, ih, joinB]
theorem rowsL10 : ∀ rs : List (List UInt8), rowsL [10] rs = rs.map (· ++ [10])
  | [] => rfl
  | r :: rs => by rw [rowsL, rowsL10 rs]; simp
theorem linesR_cut : ∀ (ps : List (List UInt8)) (b : Nat), blankOf ps = some b → linesR ps = rowsL [10] (ps.take b) ++ [10] :: linesR (ps.drop (b + 1))
  | [], b, h => by simp [blankOf, fstE] at h
  | [p], b, h => by simp [blankOf, fstE] at h
  | p :: q :: ps, b, h => by
    unfold blankOf at h
    have e : (p :: q :: ps).take ((p :: q :: ps).length - 1) = p :: (q :: ps).take ((q :: ps).length - 1) := by simp
    rw [e, fstE] at h
    by_cases hp : p = []
    · rw [if_pos hp] at h
      cases h
      subst hp
      rw [linesR, if_neg (by simp)]
      rfl
    · rw [if_neg hp, Option.map_eq_some_iff] at h
      obtain ⟨b', hb', rfl⟩ := h
      have ih := linesR_cut (q :: ps) b' hb'
      rw [linesR, if_neg (by simp), ih, List.take_succ_cons, List.drop_succ_cons, rowsL10, rowsL10]
      rfl
theorem linesR_none : ∀ (ps : List (List UInt8)), ps ≠ [] → blankOf ps = none → linesR ps = if ps.getLastD [] ≠ [] then rowsL [] ps else rowsL [10] ps.dropLast
  | [], h, _ => absurd rfl h
  | [p], _, _ => by
    by_cases hp : p = []
    · simp [linesR, rowsL, hp]
    · simp [linesR, rowsL, hp]
  | p :: q :: ps, _, h => by
    unfold blankOf at h
    have e : (p :: q :: ps).take ((p :: q :: ps).length - 1) = p :: (q :: ps).take ((q :: ps).length - 1) := by simp
    rw [e, fstE] at h
    by_cases hp : p = []
    · rw [if_pos hp] at h; cases h
    · rw [if_neg hp, Option.map_eq_none_iff] at h
      have ih := linesR_none (q :: ps) (by simp) h
      have el : (p :: q :: ps).getLastD [] = (q :: ps).getLastD [] := rfl
      rw [linesR, if_neg (by simp), ih, el]
      by_cases hl : (q :: ps).getLastD [] ≠ []
      · rw [if_pos hl, if_pos hl, rowsL.eq_def [] (p :: q :: ps)]
        simp
      · have ed : (p :: q :: ps).dropLast = p :: (q :: ps).dropLast := rfl
        rw [if_neg hl, if_neg hl, ed, rowsL10, rowsL10]
        rfl
theorem splitB_no (c : UInt8) : ∀ l, ∀ p ∈ splitB c l, c ∉ p
  | [], p, hp => by simp [splitB] at hp; subst hp; simp
  | x :: r, p, hp => by
    have ih := splitB_no c r
    by_cases hx : x = c
    · rw [splitB, if_pos hx] at hp
      rcases List.mem_cons.mp hp with rfl | hp
      · simp
      · exact ih p hp
    · rw [splitB, if_neg hx] at hp
      cases hs : splitB c r with
      | nil => exact absurd hs (splitB_ne c r)
      | cons q qs =>
        rw [hs] at hp ih
        rcases List.mem_cons.mp hp with rfl | hp
        · intro hm
          rcases List.mem_cons.mp hm with h | hm
          · exact hx h.symm
          · exact ih q (.head _) hm
        · exact ih p (.tail _ hp)
theorem fstE_none : ∀ {l : List (List UInt8)}, fstE l = none → ∀ p ∈ l, p ≠ []
  | [], _, p, hp => nomatch hp
  | q :: l, h, p, hp => by
    unfold fstE at h
    split at h
    · cases h
    · rename_i hq
      rw [Option.map_eq_none_iff] at h
      rcases List.mem_cons.mp hp with rfl | hp
      · exact hq
      · exact fstE_none h p hp
theorem fstE_before : ∀ {l : List (List UInt8)} {b : Nat}, fstE l = some b → ∀ p ∈ l.take b, p ≠ []
  | [], _, h, _, _ => nomatch h
  | q :: l, b, h, p, hp => by
    unfold fstE at h
    split at h
    · cases h; simp at hp
    · rename_i hq
      rw [Option.map_eq_some_iff] at h
      obtain ⟨b', hb', rfl⟩ := h
      rw [List.take_succ_cons] at hp
      rcases List.mem_cons.mp hp with rfl | hp
      · exact hq
      · exact fstE_before hb' p hp
theorem blank_lt {ps : List (List UInt8)} {b : Nat} (h : blankOf ps = some b) : b + 1 < ps.length := by
  have := fstE_lt h
  rw [List.length_take] at this
  omega
theorem headOf_ok (ps : List (List UInt8)) (hps : ps ≠ []) : ∀ r ∈ headOf ps, r ∈ ps ∧ r ≠ [] := by
  intro r hr
  unfold headOf at hr
  cases hb : blankOf ps with
  | some b =>
    rw [hb] at hr
    have hr' : r ∈ ps.take b := hr
    have hlt := blank_lt hb
    have e : ps.take b = (ps.take (ps.length - 1)).take b := by rw [List.take_take]; congr 1; omega
    refine ⟨List.mem_of_mem_take hr', ?_⟩
    rw [e] at hr'
    exact fstE_before hb r hr'
  | none =>
    rw [hb] at hr
    have hn := fstE_none hb
    have hd : ps.dropLast = ps.take (ps.length - 1) := List.dropLast_eq_take
    simp only at hr
    split at hr
    · rename_i hl
      refine ⟨hr, ?_⟩
      have : ps = ps.dropLast ++ [ps.getLast hps] := (List.dropLast_concat_getLast hps).symm
      rw [this] at hr
      rcases List.mem_append.mp hr with h | h
      · exact hn r (hd ▸ h)
      · have e : r = ps.getLast hps := by simpa using h
        rw [List.getLastD_eq_getLast?, List.getLast?_eq_some_getLast hps] at hl
        exact e ▸ hl
    · exact ⟨List.mem_of_mem_take (hd ▸ hr), hn r (hd ▸ hr)⟩
/-- what _parse_message tells is what the law's reading tells -/
theorem pm_plain (text : List UInt8) : pmGo none [] (linesB text) = ((plainP text).1, (plainP text).2.1) := by
  have hne := splitB_ne 10 text
  have hno := splitB_no 10 text
  rw [lines_split]
  unfold plainP
  simp only
  generalize splitB 10 text = ps at hne hno
  have hrs : ∀ r ∈ headOf ps, r ≠ [] ∧ 10 ∉ r := fun r hr => let ⟨h1, h2⟩ := headOf_ok ps hne r hr; ⟨h2, hno r h1⟩
  have key : ∀ (T : List (List UInt8)) (tl : List It) (cl : List UInt8), closingOf ps = cl → (cl = [] ∨ cl = [10]) → TailOk T tl → linesR ps = rowsL cl (headOf ps) ++ T →
      pmGo none [] (linesR ps) = (match badG (groupsOf (headOf ps)) with | some i => (toldN (groupsOf (headOf ps)) cl i, true) | none => (toldN (groupsOf (headOf ps)) cl (groupsOf (headOf ps)).length ++ tl, false)) := by
    intro T tl cl hc hcl hT hl
    rw [hl, pm_start hcl hT _ _ hrs]
    have ht := tell_tolds cl (groupsOf (headOf ps)) 0 (groupsOf (headOf ps)).length (by simp)
    cases hb : badG (groupsOf (headOf ps)) with
    | some i =>
      rw [hb] at ht
      simp only at ht ⊢
      rw [ht, toldN_eq]
      rfl
    | none =>
      rw [hb] at ht
      simp only at ht ⊢
      rw [ht, toldN_eq]
      rfl
  cases hb : blankOf ps with
  | some b =>
    have hh : headOf ps = ps.take b := by unfold headOf; rw [hb]
    have hc : closingOf ps = [10] := by unfold closingOf; rw [hb]
    have hd : ps.drop (b + 1) ≠ [] := by
      have := blank_lt hb
      intro h
      have := congrArg List.length h
      simp at this
      omega
    rw [key ([10] :: linesR (ps.drop (b + 1))) _ [10] hc (.inr rfl) (.some _) (by rw [hh]; exact linesR_cut ps b hb), linesR_flat hd, hc]
    cases badG (groupsOf (headOf ps)) <;> rfl
  | none =>
    have hl := linesR_none ps hne hb
    by_cases hlast : ps.getLastD [] ≠ []
    · have hh : headOf ps = ps := by unfold headOf; rw [hb]; simp only; rw [if_pos hlast]
      have hc : closingOf ps = [] := by unfold closingOf; rw [hb]; simp only; rw [if_pos hlast]
      rw [if_pos hlast] at hl
      rw [key [] _ [] hc (.inl rfl) .none (by rw [hh, List.append_nil]; exact hl), hc]
      cases badG (groupsOf (headOf ps)) <;> rfl
    · have hh : headOf ps = ps.dropLast := by unfold headOf; rw [hb]; simp only; rw [if_neg hlast]
      have hc : closingOf ps = [10] := by unfold closingOf; rw [hb]; simp only; rw [if_neg hlast]
      rw [if_neg hlast] at hl
      rw [key [] _ [10] hc (.inr rfl) .none (by rw [hh, List.append_nil]; exact hl), hc]
      cases badG (groupsOf (headOf ps)) <;> rfl
end Mine
end
section
open PySem PySem.W PyProof.Rows
set_option Elab.async false
set_option linter.unusedVariables false
namespace Mine
theorem cont_flat (ps : List (List UInt8)) : (ps.map (([10, 32] : List UInt8) ++ ·)).flatten ++ [10] = [10] ++ (ps.map fun l => [32] ++ l ++ [10]).flatten := by
  induction ps with
  | nil => rfl
  | cons p ps ih =>
    simp only [List.map_cons, List.flatten_cons, List.append_assoc] at ih ⊢
    rw [ih]
    simp
theorem fmtH_flat (p : List UInt8 × List UInt8) : (fmtH p).flatten = wrH p := by
  unfold fmtH wrH
  have hne := splitB_ne 10 p.2
  cases hs : splitB 10 p.2 with
  | nil => exact absurd hs hne
  | cons q qs =>
    rw [joinB_flat]
    have := cont_flat qs
    simp only [List.headD_cons, List.drop_succ_cons, List.drop_zero, List.flatten_cons, List.append_assoc] at this ⊢
    rw [this]
theorem flatMap_flat (hs : List (List UInt8 × List UInt8)) : (hs.flatMap fmtH).flatten = wrAll hs := by
  unfold wrAll
  induction hs with
  | nil => rfl
  | cons p hs ih => rw [List.flatMap_cons, List.flatMap_cons, List.flatten_append, fmtH_flat, ih]
theorem bodyR_flat (b : Option (List UInt8)) : (bodyR b).flatten = b.getD [] := by
  cases b with
  | none => rfl
  | some x =>
    unfold bodyR
    by_cases h : x = []
    · simp [h]
    · simp [h]
/-- what _format_message writes -/
theorem fmt_join (hs : List (List UInt8 × List UInt8)) (b : Option (List UInt8)) : joinB [] (fmtAll hs b) = wrAll hs ++ [10] ++ b.getD [] := by
  rw [joinB_nil]
  unfold fmtAll
  rw [List.flatten_append, List.flatten_cons, flatMap_flat, bodyR_flat]
  simp
theorem linesB_line : ∀ (a r : List UInt8), 10 ∉ a → linesB (a ++ [10] ++ r) = (a ++ [10]) :: linesB r
  | [], r, _ => by
    show linesB (10 :: r) = _
    rw [linesB_cons, if_pos rfl]
    rfl
  | x :: a, r, h => by
    have hx : x ≠ 10 := fun e => h (e ▸ .head _)
    have ih := linesB_line a r fun hm => h (.tail _ hm)
    rw [List.cons_append, List.cons_append, linesB_cons, if_neg hx, ih]
theorem linesB_lines (r : List UInt8) : ∀ ls : List (List UInt8), (∀ l ∈ ls, ∃ a, l = a ++ [10] ∧ 10 ∉ a) → linesB (ls.flatten ++ r) = ls ++ linesB r
  | [], _ => rfl
  | l :: ls, h => by
    obtain ⟨a, rfl, ha⟩ := h l (.head _)
    rw [List.flatten_cons, List.append_assoc, linesB_line a _ ha, linesB_lines r ls fun x hx => h x (.tail _ hx)]
    rfl
theorem join_split (c : UInt8) : ∀ l, joinB [c] (splitB c l) = l
  | [] => rfl
  | x :: r => by
    have ih := join_split c r
    by_cases hx : x = c
    · rw [splitB, if_pos hx]
      have hne := splitB_ne c r
      cases hs : splitB c r with
      | nil => exact absurd hs hne
      | cons p ps =>
        rw [hs] at ih
        rw [joinB, ih, hx]; rfl
    · rw [splitB, if_neg hx]
      have hne := splitB_ne c r
      cases hs : splitB c r with
      | nil => exact absurd hs hne
      | cons p ps =>
        rw [hs] at ih
        simp only
        cases ps with
        | nil => simp only [joinB] at ih ⊢; rw [ih]
        | cons q qs => simp only [joinB, List.cons_append] at ih ⊢; rw [ih]
theorem strip_snoc (v : List UInt8) : strip (v ++ [10]) = v := by
  unfold strip
  rw [if_pos (by simp), List.dropLast_concat]
theorem fmtH_lines {p : List UInt8 × List UInt8} (h : 10 ∉ p.1) : ∀ l ∈ fmtH p, ∃ a, l = a ++ [10] ∧ 10 ∉ a := by
  intro l hl
  have hno := splitB_no 10 p.2
  have hne := splitB_ne 10 p.2
  unfold fmtH at hl
  rcases List.mem_cons.mp hl with rfl | hl
  · refine ⟨_, rfl, ?_⟩
    have := hno _ (headD_mem (d := []) hne)
    simp only [List.mem_append, not_or]
    exact ⟨⟨h, by decide⟩, this⟩
  · obtain ⟨q, hq, rfl⟩ := List.mem_map.mp hl
    refine ⟨[32] ++ q, rfl, ?_⟩
    simp only [List.mem_append, not_or]
    exact ⟨by decide, hno q (List.mem_of_mem_drop hq)⟩
theorem pm_conts {k : Option (List UInt8)} {rest : List (List UInt8)} : ∀ (ps v : List (List UInt8)), pmGo k v (ps.map (fun l => [32] ++ l ++ [10]) ++ rest) = pmGo k (v ++ ps.map (· ++ [10])) rest
  | [], v => by simp
  | p :: ps, v => by
    rw [List.map_cons, List.cons_append, pmGo_cont (by rfl), pm_conts ps]
    simp
theorem idxB_not {c : UInt8} : ∀ {a : List UInt8}, c ∉ a → idxB c a = none
  | [], _ => rfl
  | x :: a, h => by
    have hx : x ≠ c := fun e => h (e ▸ .head _)
    rw [idxB, if_neg hx, idxB_not fun hm => h (.tail _ hm)]
    rfl
theorem joinB10 (p : List UInt8) (ps : List (List UInt8)) : joinB [] ((p ++ [10]) :: ps.map (· ++ [10])) = joinB [10] (p :: ps) ++ [10] := by
  rw [joinB_nil, joinB_flat]
  have : (ps.map (· ++ ([10] : List UInt8))).flatten = (ps.map (([10] : List UInt8) ++ ·)).flatten.drop 1 ++ (if ps = [] then [] else [10]) ∨ True := .inr trivial
  clear this
  rw [List.flatten_cons]
  have key : ∀ ps : List (List UInt8), [10] ++ (ps.map (· ++ ([10] : List UInt8))).flatten = (ps.map (([10] : List UInt8) ++ ·)).flatten ++ [10] := by
    intro ps
    induction ps with
    | nil => rfl
    | cons q qs ih =>
      simp only [List.map_cons, List.flatten_cons, List.append_assoc] at ih ⊢
      rw [← ih]
  rw [List.append_assoc, key, List.append_assoc]
/-- a header's lines read -/
theorem pm_header {p : List UInt8 × List UInt8} {k : Option (List UInt8)} {v rest : List (List UInt8)} (h1 : p.1 ≠ []) (h32 : 32 ∉ p.1) (h10 : 10 ∉ p.1) :
    ∃ v', pmGo k v (fmtH p ++ rest) = (rowOf k v ++ (pmGo (some p.1) v' rest).1, (pmGo (some p.1) v' rest).2) ∧ rowOf (some p.1) v' = [.row p.1 p.2] := by
  have hj := join_split 10 p.2
  have hne := splitB_ne 10 p.2
  unfold fmtH
  cases hs : splitB 10 p.2 with
  | nil => exact absurd hs hne
  | cons q qs =>
    rw [hs] at hj
    refine ⟨[q ++ [10]] ++ qs.map (· ++ [10]), ?_, ?_⟩
    · simp only [List.headD_cons, List.drop_succ_cons, List.drop_zero]
      have hi : idxB 32 (p.1 ++ [32] ++ q ++ [10]) = some p.1.length := by
        rw [List.append_assoc, List.append_assoc, idxB_append, idxB_not h32]
        show (idxB 32 (32 :: (q ++ [10]))).map _ = _
        rw [idxB, if_pos rfl]
        simp
      have ho := splitOnce_some hi
      have e1 : (p.1 ++ [32] ++ q ++ [10]).take p.1.length = p.1 := by rw [List.append_assoc, List.append_assoc, List.take_left]
      have e2 : (p.1 ++ [32] ++ q ++ [10]).drop (p.1.length + 1) = q ++ [10] := by
        rw [show p.1.length + 1 = (p.1 ++ [32]).length by simp, List.append_assoc, List.drop_left]
      rw [e1, e2] at ho
      rw [List.cons_append, pmGo_row ?_ ?_ ho, pm_conts]
      · cases hp : p.1 with
        | nil => exact absurd hp h1
        | cons x r =>
          rw [hp] at h32
          simp only [List.cons_append, List.head?_cons]
          intro e
          exact h32 ((Option.some.inj e) ▸ .head _)
      · intro e
        have := congrArg List.length e
        simp at this
        omega
    · simp only [rowOf]
      rw [List.singleton_append, joinB10, hj, strip_snoc]
theorem pm_headers (ls : List (List UInt8)) : ∀ (hs : List (List UInt8 × List UInt8)) (k : Option (List UInt8)) (v : List (List UInt8)), (∀ p ∈ hs, p.1 ≠ [] ∧ 32 ∉ p.1 ∧ 10 ∉ p.1) →
    pmGo k v (hs.flatMap fmtH ++ [10] :: ls) = (rowOf k v ++ hs.map (fun p => It.row p.1 p.2) ++ [.fin (some ls.flatten)], false)
  | [], k, v, _ => by
    rw [List.flatMap_nil, List.nil_append, pm_tail (.some ls)]
    simp
  | p :: hs, k, v, h => by
    obtain ⟨h1, h2, h3⟩ := h p (.head _)
    obtain ⟨v', e1, e2⟩ := pm_header (k := k) (v := v) (rest := hs.flatMap fmtH ++ [10] :: ls) h1 h2 h3
    rw [List.flatMap_cons, List.append_assoc, e1, pm_headers ls hs (some p.1) v' fun x hx => h x (.tail _ hx), e2]
    simp
/-- what the law lays out is read again -/
theorem pm_written {hs : List (List UInt8 × List UInt8)} (h : ∀ p ∈ hs, p.1 ≠ [] ∧ 32 ∉ p.1 ∧ 10 ∉ p.1) (plain : List UInt8) : pmGo none [] (linesB (wrAll hs ++ [10] ++ plain)) = (hs.map (fun p => It.row p.1 p.2) ++ [.fin (some plain)], false) := by
  have e1 : wrAll hs ++ [10] ++ plain = (hs.flatMap fmtH).flatten ++ ([] ++ [10] ++ plain) := by rw [flatMap_flat]; simp
  rw [e1, linesB_lines _ _ ?_, linesB_line [] plain (by simp), List.nil_append, pm_headers (linesB plain) hs none [] h, linesB_flat]
  · rfl
  · intro l hl
    obtain ⟨p, hp, hl⟩ := List.mem_flatMap.mp hl
    exact fmtH_lines (h p hp).2.2 l hl
theorem fields_ok2 : ∀ f ∈ fieldsB, f ≠ [] ∧ 32 ∉ f ∧ 10 ∉ f := by decide
end Mine
end
section
open PySem PySem.W PyProof.Rows
set_option Elab.async false
set_option linter.unusedVariables false
namespace Mine
def gLines (g : List (List UInt8)) : List (List UInt8) := (g.headD [] ++ [10]) :: (g.drop 1).map fun l => [32] ++ l ++ [10]
theorem splitB_line {c : UInt8} (r : List UInt8) : ∀ {p : List UInt8}, c ∉ p → splitB c (p ++ [c] ++ r) = p :: splitB c r
  | [], _ => by
    show splitB c (c :: r) = _
    rw [splitB, if_pos rfl]
  | x :: p, h => by
    have hx : x ≠ c := fun e => h (e ▸ .head _)
    have ih := splitB_line r (p := p) fun hm => h (.tail _ hm)
    rw [List.cons_append, List.cons_append, splitB, if_neg hx, ih]
theorem splitB_one {c : UInt8} : ∀ {p : List UInt8}, c ∉ p → splitB c p = [p]
  | [], _ => rfl
  | x :: p, h => by
    have hx : x ≠ c := fun e => h (e ▸ .head _)
    rw [splitB, if_neg hx, splitB_one fun hm => h (.tail _ hm)]
theorem splitB_join {c : UInt8} : ∀ {ps : List (List UInt8)}, ps ≠ [] → (∀ p ∈ ps, c ∉ p) → splitB c (joinB [c] ps) = ps
  | [], h, _ => absurd rfl h
  | [p], _, h => splitB_one (h p (.head _))
  | p :: q :: ps, _, h => by
    rw [joinB, splitB_line _ (h p (.head _)), splitB_join (by simp) fun x hx => h x (.tail _ hx)]
theorem idxB_split {c : UInt8} : ∀ {l : List UInt8} {j : Nat}, idxB c l = some j → l.take j ++ [c] ++ l.drop (j + 1) = l
  | [], _, h => nomatch h
  | x :: l, j, h => by
    by_cases hx : x = c
    · rw [idxB, if_pos hx] at h
      cases h
      simp [hx]
    · rw [idxB, if_neg hx, Option.map_eq_some_iff] at h
      obtain ⟨j', hj, rfl⟩ := h
      have ih := idxB_split hj
      rw [List.take_succ_cons, List.drop_succ_cons, List.cons_append, List.cons_append, ih]
/-- a group's pieces bear no end of a row -/
def GOk (g : List (List UInt8)) : Prop := g ≠ [] ∧ ∀ p ∈ g, 10 ∉ p
theorem GOk.fmt {g : List (List UInt8)} (h : GOk g) {j : Nat} (hj : idxB 32 (g.headD []) = some j) : fmtH ((g.headD []).take j, joinB [10] ((g.headD []).drop (j + 1) :: g.drop 1)) = gLines g := by
  have hh : 10 ∉ g.headD [] := h.2 _ (headD_mem h.1)
  have hs : splitB 10 (joinB [10] ((g.headD []).drop (j + 1) :: g.drop 1)) = (g.headD []).drop (j + 1) :: g.drop 1 := splitB_join (by simp) fun p hp => by
    rcases List.mem_cons.mp hp with rfl | hp
    · exact fun hm => hh (List.mem_of_mem_drop hm)
    · exact h.2 p (List.mem_of_mem_drop hp)
  unfold fmtH gLines
  simp only [hs, List.headD_cons, List.drop_succ_cons, List.drop_zero]
  rw [idxB_split hj]
theorem tell_rows : ∀ gs : List (List (List UInt8)), (tellG [10] gs).2 = false → (∀ g ∈ gs, GOk g) → ∃ hs : List (List UInt8 × List UInt8), (tellG [10] gs).1 = hs.map (fun p => It.row p.1 p.2) ∧ hs.flatMap fmtH = gs.flatMap gLines
  | [], _, _ => ⟨[], rfl, rfl⟩
  | g :: gs, h, hg => by
    rw [tellG] at h ⊢
    cases hj : idxB 32 (g.headD []) with
    | none => rw [hj] at h; cases h
    | some j =>
      rw [hj] at h
      obtain ⟨hs, h1, h2⟩ := tell_rows gs h fun x hx => hg x (.tail _ hx)
      refine ⟨((g.headD []).take j, joinB [10] ((g.headD []).drop (j + 1) :: g.drop 1)) :: hs, ?_, ?_⟩
      · simp only [List.map_cons]
        rw [h1]
        congr 1
        unfold rowG
        congr 1
        have : (if gs.isEmpty = true then ([10] : List UInt8) else [10]) = [10] := by split <;> rfl
        rw [this, strip_snoc]
      · rw [List.flatMap_cons, List.flatMap_cons, h2, (hg g (.head _)).fmt hj]
theorem chunk_lines : ∀ (rs : List (List UInt8)) (g : List (List UInt8)), g ≠ [] → (chunk g rs).flatMap gLines = gLines g ++ rowsL [10] rs
  | [], g, _ => by simp [chunk, rowsL]
  | r :: rs, g, hg => by
    rw [rowsL10, List.map_cons, chunk]
    by_cases h : r.head? = some 32
    · rw [if_pos h, chunk_lines rs _ (by simp), rowsL10]
      have e : gLines (g ++ [r.drop 1]) = gLines g ++ [r ++ [10]] := by
        cases g with
        | nil => exact absurd rfl hg
        | cons a g =>
          cases r with
          | nil => cases h
          | cons x r =>
            have : x = 32 := Option.some.inj h
            subst this
            simp [gLines]
      rw [e]
      simp
    · rw [if_neg h, List.flatMap_cons, chunk_lines rs [r] (by simp), rowsL10]
      rfl
theorem chunk_ok : ∀ (rs : List (List UInt8)) (g : List (List UInt8)), GOk g → (∀ r ∈ rs, 10 ∉ r) → ∀ x ∈ chunk g rs, GOk x
  | [], g, hg, _, x, hx => by
    rcases List.mem_cons.mp hx with rfl | hx
    · exact hg
    · exact absurd hx List.not_mem_nil
  | r :: rs, g, hg, hr, x, hx => by
    rw [chunk] at hx
    split at hx
    · refine chunk_ok rs _ ⟨by simp, fun p hp => ?_⟩ (fun y hy => hr y (.tail _ hy)) x hx
      rcases List.mem_append.mp hp with h | h
      · exact hg.2 p h
      · rcases List.mem_cons.mp h with rfl | h
        · exact fun hm => hr r (.head _) (List.mem_of_mem_drop hm)
        · exact absurd h List.not_mem_nil
    · rcases List.mem_cons.mp hx with rfl | hx
      · exact hg
      · refine chunk_ok rs [r] ⟨by simp, fun p hp => ?_⟩ (fun y hy => hr y (.tail _ hy)) x hx
        rcases List.mem_cons.mp hp with rfl | h
        · exact hr _ (.head _)
        · exact absurd h List.not_mem_nil
/-- a whole text is written again octet by octet -/
theorem plain_whole (text : List UInt8) (h : (plainP text).2.2 = true) : ∃ (hs : List (List UInt8 × List UInt8)) (b : List UInt8), (plainP text).1 = hs.map (fun p => It.row p.1 p.2) ++ [.fin (some b)] ∧ joinB [] (fmtAll hs (some b)) = text := by
  have hne := splitB_ne 10 text
  have hno := splitB_no 10 text
  have hfl := linesB_flat text
  rw [lines_split] at hfl
  unfold plainP at h ⊢
  simp only at h ⊢
  generalize splitB 10 text = ps at *
  cases hb : badG (groupsOf (headOf ps)) with
  | some i => rw [hb] at h; cases h
  | none =>
    rw [hb] at h
    cases hk : blankOf ps with
    | none => rw [hk] at h; cases h
    | some b =>
      rw [hk] at h
      have hc : closingOf ps = [10] := by unfold closingOf; rw [hk]
      have hd : ps.drop (b + 1) ≠ [] := by
        have := blank_lt hk
        intro h
        have := congrArg List.length h
        simp at this
        omega
      have hcut := linesR_cut ps b hk
      have hh : headOf ps = ps.take b := by unfold headOf; rw [hk]
      have hrs : ∀ r ∈ headOf ps, 10 ∉ r := fun r hr => hno r (headOf_ok ps hne r hr).1
      have ht := tell_tolds [10] (groupsOf (headOf ps)) 0 (groupsOf (headOf ps)).length (by simp)
      rw [hb] at ht
      simp only at ht h ⊢
      have hw := of_decide_eq_true h
      rw [← hh] at hcut
      generalize headOf ps = rs at *
      have hgl : (groupsOf rs).flatMap gLines = rowsL [10] rs ∧ ∀ g ∈ groupsOf rs, GOk g := by
        cases rs with
        | nil => exact ⟨rfl, fun g hg => nomatch hg⟩
        | cons r rs =>
          have hr : r.head? ≠ some 32 := by
            rcases hw with h | h
            · cases h
            · exact h
          rw [groups_cons, if_neg hr]
          refine ⟨?_, chunk_ok rs [r] ⟨by simp, fun p hp => ?_⟩ fun x hx => hrs x (.tail _ hx)⟩
          · rw [chunk_lines rs [r] (by simp), rowsL10, rowsL10]
            rfl
          · rcases List.mem_cons.mp hp with rfl | hp
            · exact hrs _ (.head _)
            · exact absurd hp List.not_mem_nil
      obtain ⟨hs, h1, h2⟩ := tell_rows (groupsOf rs) (by rw [ht]) hgl.2
      refine ⟨hs, joinB [10] (ps.drop (b + 1)), ?_, ?_⟩
      · rw [hc, toldN_eq, ← h1, ht]
      · rw [fmt_join, ← flatMap_flat, h2, hgl.1, ← linesR_flat hd]
        rw [hcut, List.flatten_append, List.flatten_cons] at hfl
        rw [List.append_assoc]
        exact hfl
theorem pmGo_len : ∀ (ls : List (List UInt8)) (k : Option (List UInt8)) (v : List (List UInt8)), (pmGo k v ls).1.length ≤ ls.length + 2
  | [], k, v => by cases k <;> simp [pmGo, rowOf]
  | l :: ls, k, v => by
    have hr : (rowOf k v).length ≤ 1 := by cases k <;> simp [rowOf]
    by_cases h1 : l.head? = some 32
    · rw [pmGo_cont h1]
      have := pmGo_len ls k (v ++ [l.drop 1])
      rw [List.length_cons]; omega
    · by_cases h2 : l = [10]
      · rw [pmGo_blank h1 h2]; simp; omega
      · rcases splitOnce_cases l with h3 | ⟨i, _, h3⟩
        · rw [pmGo_bad h1 h2 h3]; simp; omega
        · rw [pmGo_row h1 h2 h3]
          have := pmGo_len ls (some (l.take i)) [l.drop (i + 1)]
          simp; omega
theorem plain_len (text : List UInt8) : (plainP text).1.length ≤ text.length + 2 := by
  have h := pmGo_len (linesB text) none []
  rw [pm_plain] at h
  have := linesB_len text
  simp only at h
  omega
theorem len_flat : ∀ ls : List (List UInt8), (∀ l ∈ ls, l ≠ []) → ls.length ≤ ls.flatten.length
  | [], _ => Nat.le_refl _
  | l :: ls, h => by
    have h1 := List.length_pos_iff.mpr (h l (.head _))
    have h2 := len_flat ls fun x hx => h x (.tail _ hx)
    simp only [List.flatten_cons, List.length_append, List.length_cons]
    omega
theorem joinB_mono (ps : List (List UInt8)) : (joinB [10] ps).length ≤ (joinB [10, 32] ps).length := by
  cases ps with
  | nil => simp [joinB]
  | cons p ps =>
    rw [joinB_flat, joinB_flat, List.length_append, List.length_append]
    have : ((ps.map (([10] : List UInt8) ++ ·)).flatten).length ≤ ((ps.map (([10, 32] : List UInt8) ++ ·)).flatten).length := by
      induction ps with
      | nil => simp
      | cons q ps ih => simp only [List.map_cons, List.flatten_cons, List.length_append, List.length_cons, List.length_nil] at ih ⊢; omega
    omega
theorem wr_mem {hs : List (List UInt8 × List UInt8)} {p : List UInt8 × List UInt8} (h : p ∈ hs) : p.1.length ≤ (wrAll hs).length ∧ p.2.length ≤ (wrAll hs).length := by
  have h1 : (wrH p).length ≤ (wrAll hs).length := by
    unfold wrAll
    induction hs with
    | nil => exact absurd h List.not_mem_nil
    | cons q hs ih =>
      rw [List.flatMap_cons, List.length_append]
      rcases List.mem_cons.mp h with rfl | h
      · omega
      · have := ih h; omega
  have h2 := joinB_mono (splitB 10 p.2)
  rw [join_split] at h2
  have h3 : (wrH p).length = p.1.length + 1 + (joinB [10, 32] (splitB 10 p.2)).length + 1 := by simp [wrH]; omega
  omega
theorem fmtAll_ne (hs : List (List UInt8 × List UInt8)) (b : Option (List UInt8)) : ∀ l ∈ fmtAll hs b, l ≠ [] := by
  intro l hl
  unfold fmtAll at hl
  rcases List.mem_append.mp hl with h | h
  · obtain ⟨p, _, h⟩ := List.mem_flatMap.mp h
    unfold fmtH at h
    rcases List.mem_cons.mp h with rfl | h
    · simp
    · obtain ⟨q, _, rfl⟩ := List.mem_map.mp h
      simp
  · rcases List.mem_cons.mp h with rfl | h
    · simp
    · cases b with
      | none => exact absurd h List.not_mem_nil
      | some x =>
        unfold bodyR at h
        simp only at h
        split at h
        · exact absurd h List.not_mem_nil
        · rename_i hx
          rcases List.mem_cons.mp h with rfl | h
          · exact hx
          · exact absurd h List.not_mem_nil
/-- what law_4 asks -/
theorem law_whole {text : List UInt8} {due : List It} {refused whole : Bool} (hp : plainP text = (due, refused, whole)) (hz : text.length ≤ 500) (hw : whole = true) :
    ∃ (hs : List (List UInt8 × List UInt8)) (b : List UInt8), due = hs.map (fun p => It.row p.1 p.2) ++ [.fin (some b)] ∧ joinB [] (fmtAll hs (some b)) = text ∧ (∀ p ∈ hs, p.1.length ≤ 100000 ∧ p.2.length ≤ 100000) ∧ b.length ≤ 100000 ∧ (fmtAll hs (some b)).length ≤ 100000 := by
  obtain ⟨hs, b, h1, h2⟩ := plain_whole text (by rw [hp]; exact hw)
  rw [hp] at h1
  have h3 := fmt_join hs (some b)
  rw [h2] at h3
  have h4 : text.length = (wrAll hs).length + 1 + b.length := by rw [h3]; simp; omega
  have h5 := len_flat _ (fmtAll_ne hs (some b))
  rw [← joinB_nil, h2] at h5
  exact ⟨hs, b, h1, h2, fun p hp => by have := wr_mem hp; omega, by omega, by omega⟩
end Mine
end
section
open PySem PySem.W PyProof.Rows PySem.Calls
set_option Elab.async false
set_option linter.unusedVariables false
set_option maxRecDepth 100000
set_option maxHeartbeats 1000000
namespace Mine
section
variable {prog : Program} {w : World} {mg mb : Str → Option Value} {A : Around} {L : Addr} {s₀ s₁ : Shared} {Q : Flow → Shared → Prop} {E : Value → Shared → Prop}
/-- the law, walked whole -/
theorem law_all {scr : List Int} (T : Top1 w mg mb s₀.heap) (hr : Room A 13) (hfr : A.frames = some [envL w L]) (hlen : scr.length ≤ 1000)
    (hQ : ∀ c' s, Ext s₀ s → s.heap.get? 88 = some (grown (posOf stripSt) c') → Q (.ret (.bool true)) s) :
    Blk (cxL prog w A L [L, 88] s₀ [(88, tabObj #[])] (muOf [("script", .list (scr.map D.int))]) s₁) (bdOf (stNo 15)) Q E := by
  refine law_0 T hr.hh hlen ?_
  have hn : ∀ i ∈ (scr.take 12).map modI, 0 ≤ i ∧ i < 2 ^ 50 := fun i hi => by
    obtain ⟨j, _, rfl⟩ := List.mem_map.mp hi
    have h1 := fmod_pos j (b := 10 ^ 12) (by decide)
    have h2 := Int.fmod_lt_of_pos j (b := 10 ^ 12) (by decide)
    exact ⟨h1, Int.lt_trans h2 (by decide)⟩
  have hl : ((scr.take 12).map modI).length ≤ 12 := by rw [List.length_map, List.length_take]; omega
  generalize (scr.take 12).map modI = nums at hn hl
  refine law_1 T hr fun c' oc hsh => ?_
  refine law_2 T hr hn hl fun text hz => ?_
  obtain ⟨due, refused, whole, hp⟩ : ∃ due refused whole, plainP text = (due, refused, whole) := ⟨_, _, _, rfl⟩
  have hA := pm_plain text
  have hdl := plain_len text
  rw [hp] at hA hdl
  simp only at hdl
  refine law_3 T hr hfr hsh hz (by omega) hp hA ?_
  refine law_4 T hr (by omega) (fun hw => law_whole hp hz hw) hz ?_
  refine law_5 T hr (by omega) fun a W hW => ?_
  have hm : ∀ p ∈ (nums.take 3).map hdOf, p.1 ∈ fieldsB ∧ p.2 ∈ valuesB := fun p hp => by
    obtain ⟨j, _, rfl⟩ := List.mem_map.mp hp
    exact ⟨(field_at j).1, (value_at j).1⟩
  exact law_6 T hr hsh (by rw [List.length_map, List.length_take]; omega) hm (fun bo _ => fmt_join _ bo) (fun bo _ => pm_written (fun p hp => fields_ok2 _ (hm p hp).1) _) (hQ c')
end
end Mine
end
section
open PySem PySem.W PyProof.Rows PySem.Calls
set_option Elab.async false
set_option linter.unusedVariables false
set_option maxRecDepth 100000
set_option maxHeartbeats 1000000
namespace Mine
theorem lookup_filter {k : Addr} {a : Addr} {o : Obj} : ∀ {K : List (Addr × Obj)}, (K.filter fun p => p.1 != k).lookup a = some o → K.lookup a = some o ∧ a ≠ k
  | [], h => nomatch h
  | p :: K, h => by
    rw [List.filter_cons] at h
    by_cases hp : p.1 = k
    · have : (p.1 != k) = false := by simpa using hp
      rw [this, if_neg Bool.false_ne_true] at h
      obtain ⟨h1, h2⟩ := lookup_filter h
      refine ⟨?_, h2⟩
      rw [List.lookup_cons]
      have : (a == p.1) = false := by
        rw [hp]
        simpa using h2
      rw [this]
      exact h1
    · have e : (p.1 != k) = true := by simpa using hp
      rw [e, if_pos rfl, List.lookup_cons] at h
      rw [List.lookup_cons]
      by_cases ha : a == p.1
      · rw [ha] at h ⊢
        exact ⟨h, by rw [eq_of_beq ha]; exact hp⟩
      · have ha' : (a == p.1) = false := by simpa using ha
        rw [ha'] at h ⊢
        exact lookup_filter h
theorem K0_in {P : Params} {h : Heap} (X : Frag.In (hd.heap_39 P) h) : (K0 P).In h := fun a o e => X a o (lookup_filter e).1
theorem K0_hide {P : Params} {h : Heap} (X : (K0 P).In h) : (K0 P).In (hideAll h [88]) := fun a o e => hide_get (s := { heap := h }) (X a o e) (lookup_filter e).2
theorem ints_den {W : List Addr} {h : Heap} {vs : List Value} {ns : List Int} (x : IntsAre vs ns) : DenAll W h vs (ns.map D.int) := by
  induction x with
  | nil => exact .nil
  | cons n t _ ih => exact .cons (.int n t) ih
section
variable {p : Program} {loose : List Str} {mean : ExcName → Option Value} {prog : Program} {w : World} {mg mb : Str → Option Value} {s : Shared}
theorem top1_of (T : Top p loose mean mg mb s.heap) (X : (K0 w.params).In s.heap) (h88 : s.heap.get? 88 = some (tabObj #[])) : Top1 w mg mb (hideAll s.heap [88]) := by
  have keep : ∀ {b : Addr} {o : Obj}, s.heap.get? b = some o → o ≠ tabObj #[] → (hideAll s.heap [88]).get? b = some o := fun e hn => hide_get e fun q => hn (by rw [q, h88] at e; exact (Option.some.inj e).symm)
  have ns : ∀ {a : Addr} {m : Str → Option Value}, s.heap.Ns a m → (hideAll s.heap [88]).Ns a m := fun ⟨o, es, ep, e, hd, r⟩ => ⟨o, es, ep, keep e (fun q => by rw [q] at hd; cases hd), hd, r⟩
  refine ⟨ns T.g, ns T.b, let ⟨mc, a, r⟩ := T.nolimit; ⟨mc, ns a, r⟩, T.builtins, K0_hide X, ?_⟩
  obtain ⟨bm, ob, a1, a2, a3, a4, a5, a6⟩ := T.bmain
  have hn : ob ≠ tabObj #[] := fun q => by rw [q] at a4; cases a4
  refine ⟨bm, ob, a1, a2, fun q => ?_, fun q => ?_, keep a3 hn, a4, a5, a6⟩
  · obtain ⟨o, es, ep, ho, hd, _⟩ := T.g
    rw [q, ho] at a3
    cases a3
    rw [a6] at hd
    cases hd
  · rw [q, h88] at a3
    exact hn (Option.some.inj a3).symm
/-- the frame of the law at its start -/
theorem FrD.startL {A : Around} {L : Addr} {h₁ : Heap} {tk : Nat} {binds : List (Str × Value)} {ps : List (Str × D)} (h88 : s.heap.get? 88 = some (tabObj #[])) (F : Fr s.heap L h₁ (fun x => binds.reverse.lookup x)) (hL : L = s.heap.objs.size) (hn : binds.map (·.1) = ps.map (·.1)) (hd : DenAll [88] s.heap (binds.map (·.2)) (ps.map (·.2))) :
    FrD (cxL prog w A L [L, 88] { s with heap := hideAll s.heap [88] } [(88, tabObj #[])] (muOf ps) s) { s with heap := h₁, toks := tk } := by
  have e : Ext s { s with heap := h₁, toks := tk } := .heap tk F.keep
  have bar : ∀ b ∈ [L, 88], b ∉ [88] → s.heap.get? b = none := fun b hb hn => by
    rcases List.mem_cons.mp hb with rfl | h
    · rw [hL]; exact get_size _
    · exact absurd h hn
  have nv : ∀ (x : Str) (a : Addr) (ds : List D), muOf ps x ≠ some (.own a ds) := fun x a ds hx => by
    simp only [muOf, Option.map_eq_some_iff] at hx
    obtain ⟨d, _, hd⟩ := hx
    cases hd
  have hLd : (88 : Addr) ≠ L := fun q => by rw [q, hL, get_size] at h88; cases h88
  have hLo : ∃ o, h₁.get? L = some o := let ⟨o, _, _, ho, _⟩ := F.ns; ⟨o, ho⟩
  refine ⟨⟨_, ⟨F.ns, fun b o e => F.keep b o (of_hideAll _ e), ?_⟩, fun x en hx => ?_⟩, fun x y b es fs h1 _ => absurd h1 (nv _ _ _), fun x b es h1 => absurd h1 (nv _ _ _), ⟨hLo, fun b hb => .inl (Nat.le_of_lt hb)⟩, .head _, fun b hb => ?_, ⟨fun b o e => F.keep b o (of_hideAll _ e), rfl, fun _ _ e => e, fun h => h⟩, fun p hp => ?_, (fun p hp => nomatch hp), (fun p hp => nomatch hp), fun b o _ h => F.keep b o h⟩
  · show (hideAll s.heap [88]).objs.size ≤ L
    rw [hideAll_size, hL]
    exact Nat.le_refl _
  · simp only [muOf, Option.map_eq_some_iff] at hx
    obtain ⟨d, hl, rfl⟩ := hx
    obtain ⟨v, hv, hvd⟩ := lookup_zip binds.reverse ps.reverse (by rw [List.map_reverse, List.map_reverse, hn]) (by rw [List.map_reverse, List.map_reverse]; exact hd.rev) x d hl
    exact ⟨v, hv, (Den.bar bar hvd).ext e⟩
  · rcases List.mem_cons.mp hb with rfl | hb
    · exact hLo
    · rcases List.mem_cons.mp hb with rfl | hb
      · exact ⟨_, F.keep _ _ h88⟩
      · exact absurd hb List.not_mem_nil
  · rcases List.mem_cons.mp hp with rfl | hp
    · exact ⟨.tail _ (.head _), ⟨hideAll_none _ (.head _), .inr rfl⟩, hLd, fun i n q => (by cases q), fun q => (by cases q.1), F.keep _ _ h88⟩
    · exact absurd hp List.not_mem_nil
theorem room_caller (env : Env) : Room (callerA.deeper env) 13 := ⟨rfl, by show (1 + 300 + 1) + 13 ≤ 400; decide, by show (4 + 3) + 100 * 13 ≤ 9000; decide⟩
/-- the law called -/
theorem law_call {l : Addr} {vs : List Value} {scr : List Int} {R : Result → Shared → Prop} (T : Top p loose mean mg mb s.heap) (X : (K0 w.params).In s.heap) (h88 : s.heap.get? 88 = some (tabObj #[])) (hl : s.heap.IsList l vs.toArray) (hI : IntsAre vs scr) (hlen : scr.length ≤ 1000)
    (hR : ∀ c' s', Ext { s with heap := hideAll s.heap [88] } s' → s'.heap.get? 88 = some (grown (posOf stripSt) c') → R (.ok (.ret (.bool true))) s') :
    codeAny (model prog w) callerA (.call (.ref 148) ⟨[.ref l], []⟩) R s := by
  obtain ⟨hloc, hco, hgen, hk, hcell⟩ := fnFine_iff fine148
  refine call_plain (by show (1 + 300 : Nat) < 1000; decide) (X _ _ (fn148 _)) rfl T.nolimit (codeRec_of X (cd148 _)) (bind148 _ (.ref l)) (fun y hy => hloc y.1 (by
    rcases List.mem_cons.mp hy with rfl | hy
    · exact .head _
    · exact absurd hy List.not_mem_nil)) (fun h₁ Fr1 => ?_) hco hgen hk hcell
  have hl88 : l ∉ [(88 : Addr)] := fun hm => by
    rcases List.mem_cons.mp hm with rfl | hm
    · obtain ⟨o, ho, hc, _⟩ := hl
      rw [h88] at ho
      cases ho
      cases hc
    · exact absurd hm List.not_mem_nil
  have F := FrD.startL (prog := prog) (w := w) (A := callerA.deeper (envL w s.heap.objs.size)) (tk := s.toks + 1) (ps := [("script", .list (scr.map D.int))]) h88 Fr1 rfl rfl (.cons (.list hl88 hl (ints_den hI)) .nil)
  generalize s.heap.objs.size = L at F
  refine wpAny_mono ((law_all (Q := fun f s' => f = .ret (.bool true) ∧ R (.ok (.ret (.bool true))) s') (E := _) (top1_of T X h88) (room_caller _) rfl hlen (fun c' s' e h => ⟨rfl, hR c' s' e h⟩)).run _ F) (fun f s' h' => ?_) fun _ _ x => x
  obtain ⟨rfl, h⟩ := h'
  exact h
end
end Mine
end
section
open PySem PySem.W PyProof.Rows
set_option Elab.async false
set_option maxRecDepth 100000
set_option maxHeartbeats 8000000
namespace Mine
theorem tab_old {s s' : Shared} {c' : Addr} (hT : CodeHd s.heap 92 88) (h88 : s.heap.get? 88 = some (tabObj #[])) (e : Ext { s with heap := hideAll s.heap [88] } s') (h : s'.heap.get? 88 = some (grown (posOf stripSt) c')) : OldK s.heap s'.heap := by
  have keep : ∀ b o, b ≠ 88 → s.heap.get? b = some o → s'.heap.get? b = some o := fun b o hb q => e.keep b o (hide_get q hb)
  refine ⟨fun b o q => ?_, fun b o q => ?_⟩
  · by_cases hb : b = 88
    · subst hb
      rw [h88] at q
      cases q
      exact .inr (.inl ⟨(hT.tab h88).isCodeTable, rfl, #[], _, rfl, by rw [Array.empty_append]; exact h⟩)
    · exact .inl (keep b o hb q)
  · by_cases hb : b = 88
    · subst hb
      exact ⟨_, h⟩
    · exact ⟨o, keep b o hb q⟩
end Mine
end
open PySem PySem.W PyProof.Rows
set_option maxRecDepth 100000 in
set_option maxHeartbeats 8000000 in
theorem PySem.Challenge.cw_aq6019_01_holds : PySem.Challenge.rw_aq6019_01.Holds := by
  refine Mine.hd ?_
  k_fill
  intro w s₀ s₁ mg mb G Y fa o pm cd doc dV kV ho hdd hcd hD hmg hg args vals as hpre hlay hrd hwl hlo
  have KX := km_in_of Y
  km_tabs Y
  refine Ground.open G ?_
  intro T B D TE TW
  try (refine guard_noD D (by decide +kernel) ?_; clear D)
  have h88 := hT8 88 (.head _)
  have hC : CodeHd s₁.heap 92 88 := codeHd_of_K KX (by kernel_rfl)
  have hfa : fa = 148 := by
    have h1 := mg_of (Mine.K0_in KX) T.g (Mine.nm148 w.params)
    have h2 : mg (Str.ofString "law") = some (.ref fa) := hmg
    rw [h1] at h2
    injection h2 with h2
    injection h2 with h2
    exact h2.symm
  clear hmg ho hdd hcd hD
  subst hfa
  wrow_args hpre hlay hrd hwl hlo
  all_goals (
    refine enter_call ?_
    w_top on
    rename_i scr _ _ _ _ _ _ _ l vs _ hL _ _ _ hI _ hlen _
    refine Mine.law_call (scr := scr) (vs := vs) T (Mine.K0_in KX) h88 hL hI (by omega) fun c' s' e h => ?_
    refine ⟨.inl ⟨.bool true, .bool true, [], rfl, fun _ => rfl, ?_, ?_, fun _ => ⟨.nil, fun _ h => nomatch h⟩⟩, Mine.tab_old hC h88 e h, e.os, e.bare ?_⟩
    · exact .bool _
    · refine postW_of (r := PySem.Challenge.rw_aq6019_01.row.toRowW) (X := true) ?_ ?_ rfl
      · first | rfl | kernel_rfl | decide +kernel
      · first | rfl | kernel_rfl | decide +kernel
    · intro x hx
      rw [show ({ s₁ with heap := hideAll s₁.heap [88] } : Shared).gens = s₁.gens from rfl, hg] at hx
      exact absurd hx (by simp))
