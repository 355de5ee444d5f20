/- A region that draws its order, by facts of its operations that last: whatever order is drawn, each operation is shown once, from the facts of those that it waits for. No statement of the seat is proved here. -/
import Derived.StillTail
import Derived.Tactics
namespace Go.Proofs.Ytefeedpeiiaanaa
open Go

/-- The block that a pointer or a slice points into. -/
def blkOf : Value → Option Nat
  | .pointer (some a) => some a.block
  | .slice (some a) _ _ => some a.block
  | _ => none

/-- The value of an operation in D points into a block that the operation has made. -/
def Fr (D : List Nat) (k : Nat) (w : World) (v : Value) (w' : World) : Prop := if D.contains k then ∃ g, blkOf v = some g ∧ w.heap.size ≤ g ∧ g < w'.heap.size else True

/-- What is asked behind one operation: the world has gone on by R, and the value that it leaves has the fact G. -/
def OpPost (R : World → World → Prop) (D : List Nat) (k : Nat) (G : Value → World → Prop) (dst : Option Tmp) (a0 : Act) (w : World) (x : Exit) (a : Act) (w' : World) : Prop :=
  x = .normal ∧ a.defers = a0.defers ∧ R w w' ∧ Fr D k w ((dst.map (fun d => a.tmps.getD d undef)).getD undef) w' ∧ G ((dst.map (fun d => a.tmps.getD d undef)).getD undef) w'

def valAt (rv : List Value) (i : Nat) : Value := rv.getD (rv.length - 1 - i) undef

def Deps (F : Nat → Value → World → Prop) (rv : List Value) (w : World) : List Nat → Prop
  | [] => True
  | i :: r => F i (valAt rv i) w ∧ Deps F rv w r
def Away (rv : List Value) (i : Nat) : List Nat → Prop
  | [] => True
  | j :: r => blkOf (valAt rv i) ≠ blkOf (valAt rv j) ∧ Away rv i r
def Apt (rv : List Value) : List Nat → Prop
  | [] => True
  | i :: r => Away rv i r ∧ Apt rv r

def waits (o : Oper) : List Nat := (o.after.toList.filter (Region.binds .any)).map (·.on)

/-- The operations in the order of the text, each from the facts of those that it waits for alone. -/
def Lex (P : Program) (ops : Array Oper) (R : World → World → Prop) (C : World → Prop) (F : Nat → Value → World → Prop) (D : List Nat) (Q : Act → World → Prop) : List Oper → Act → List Value → Prop
  | [], a, rv => ∀ w, C w → Deps F rv w (List.range rv.length) → Apt rv D → Q a w
  | o :: rest, a, rv => (∀ w, C w → Deps F rv w (waits o) → wpList P ops (OpPost R D rv.length (F rv.length) o.dst a w) [o] a w) ∧ ∀ v, Lex P ops R C F D Q rest (a.put o.dst v) (v :: rv)

section
variable {P : Program} {ops : Array Oper} {R : World → World → Prop} {C : World → Prop} {F : Nat → Value → World → Prop} {D : List Nat} {Q : Act → World → Prop}
theorem lex_nil {a : Act} {rv : List Value} (h : ∀ w, C w → Deps F rv w (List.range rv.length) → Apt rv D → Q a w) : Lex P ops R C F D Q [] a rv := h
theorem lex_step {o : Oper} {rest : List Oper} {a : Act} {rv : List Value} (h1 : ∀ w, C w → Deps F rv w (waits o) → ∀ J : Exit → Act → World → Prop, (∀ a' w', OpPost R D rv.length (F rv.length) o.dst a w .normal a' w' → J .normal a' w') → wpList P ops J [o] a w)
    (h2 : ∀ K : Act → List Value → Prop, (∀ a r, Lex P ops R C F D Q rest a r → K a r) → ∀ v, K (a.put o.dst v) (v :: rv)) : Lex P ops R C F D Q (o :: rest) a rv :=
  ⟨fun w hC hd => h1 w hC hd _ fun _ _ h => h, h2 _ fun _ _ h => h⟩

def dstOf (ops : Array Oper) (k : Nat) : Option Tmp := (ops[k]?).bind (·.dst)

/-- What the operations 'S' among the first m have left. -/
def puts (ops : Array Oper) (a : Act) (S : Nat → Bool) (val : Nat → Value) : Nat → Act
  | 0 => a
  | k + 1 => if S k then (puts ops a S val k).put (dstOf ops k) (val k) else puts ops a S val k

def rvOf (val : Nat → Value) : Nat → List Value
  | 0 => []
  | k + 1 => val k :: rvOf val k

theorem rvOf_length (val : Nat → Value) (k : Nat) : (rvOf val k).length = k := by
  induction k with
  | zero => rfl
  | succ k ih => simp [rvOf, ih]
theorem rvOf_getD (val : Nat → Value) (d : Value) (k j : Nat) (h : j < k) : (rvOf val k).getD (k - 1 - j) d = val j := by
  induction k with
  | zero => omega
  | succ k ih =>
    by_cases hj : j = k
    · subst hj
      simp [rvOf]
    · have e : k + 1 - 1 - j = (k - 1 - j) + 1 := by omega
      rw [e]
      simp only [rvOf, List.getD_cons_succ]
      exact ih (by omega)
theorem valAt_rvOf (val : Nat → Value) (k j : Nat) (h : j < k) : valAt (rvOf val k) j = val j := by
  unfold valAt
  rw [rvOf_length]
  exact rvOf_getD val undef k j h
theorem deps_mk {rv : List Value} {w : World} : ∀ (l : List Nat), (∀ i ∈ l, F i (valAt rv i) w) → Deps F rv w l
  | [], _ => trivial
  | i :: l, h => ⟨h i (by simp), deps_mk l fun j hj => h j (by simp [hj])⟩

theorem away_mk {rv : List Value} {i : Nat} : ∀ (l : List Nat), (∀ j ∈ l, blkOf (valAt rv i) ≠ blkOf (valAt rv j)) → Away rv i l
  | [], _ => trivial
  | j :: l, h => ⟨h j (by simp), away_mk l fun k hk => h k (by simp [hk])⟩
theorem apt_mk {rv : List Value} : ∀ (l : List Nat), l.Nodup → (∀ i ∈ l, ∀ j ∈ l, i ≠ j → blkOf (valAt rv i) ≠ blkOf (valAt rv j)) → Apt rv l
  | [], _, _ => trivial
  | i :: l, hn, h => ⟨away_mk l fun j hj => h i (by simp) j (by simp [hj]) (fun e => by subst e; exact (List.nodup_cons.1 hn).1 hj), apt_mk l (List.nodup_cons.1 hn).2 fun k hk j hj => h k (by simp [hk]) j (by simp [hj])⟩

theorem put_size (a : Act) (d : Option Tmp) (v : Value) : (a.put d v).tmps.size = a.tmps.size := by cases d <;> simp [Act.put]
theorem put_defers' (a : Act) (d : Option Tmp) (v : Value) : (a.put d v).defers = a.defers := by cases d <;> rfl
theorem puts_size (a : Act) (S : Nat → Bool) (val : Nat → Value) (m : Nat) : (puts ops a S val m).tmps.size = a.tmps.size := by
  induction m with
  | zero => rfl
  | succ m ih => unfold puts; split <;> simp [put_size, ih]
theorem puts_defers (a : Act) (S : Nat → Bool) (val : Nat → Value) (m : Nat) : (puts ops a S val m).defers = a.defers := by
  induction m with
  | zero => rfl
  | succ m ih => unfold puts; split <;> simp [put_defers', ih]
theorem get_put_same (a : Act) (t : Tmp) (v : Value) (h : t < a.tmps.size) : (a.put (some t) v).tmps[t]? = some v := by simp [Act.put, h]
theorem get_put_ne (a : Act) (d : Option Tmp) (t : Tmp) (v : Value) (h : d ≠ some t) : (a.put d v).tmps[t]? = a.tmps[t]? := by
  cases d with
  | none => rfl
  | some d => simp only [Act.put]; rw [Array.getElem?_setIfInBounds_ne (by intro e; exact h (by rw [e]))]
theorem puts_miss (a : Act) (S : Nat → Bool) (val : Nat → Value) (t : Tmp) (m : Nat) (h : ∀ j, j < m → S j = true → dstOf ops j ≠ some t) : (puts ops a S val m).tmps[t]? = a.tmps[t]? := by
  induction m with
  | zero => rfl
  | succ m ih =>
    have ih' := ih fun j hj => h j (by omega)
    unfold puts
    split
    · rename_i hs
      rw [get_put_ne _ _ _ _ (h m (by omega) hs), ih']
    · exact ih'
theorem puts_hit (a : Act) (S : Nat → Bool) (val : Nat → Value) (t : Tmp) (j m : Nat) (hj : j < m) (hs : S j = true) (hd : dstOf ops j = some t) (hu : ∀ i, i < m → dstOf ops i = some t → i = j) (ht : t < a.tmps.size) : (puts ops a S val m).tmps[t]? = some (val j) := by
  induction m with
  | zero => omega
  | succ m ih =>
    unfold puts
    by_cases hjm : j = m
    · subst hjm
      rw [if_pos hs, hd]
      exact get_put_same _ _ _ (by rw [puts_size]; exact ht)
    · have ih' := ih (by omega) fun i hi => hu i (by omega)
      split
      · rw [get_put_ne _ _ _ _ (fun e => hjm (hu m (by omega) e).symm), ih']
      · exact ih'
theorem puts_congr (a : Act) {S S' : Nat → Bool} {val val' : Nat → Value} (m : Nat) (h : ∀ j, j < m → S j = S' j ∧ (S j = true → val j = val' j)) : puts ops a S val m = puts ops a S' val' m := by
  induction m with
  | zero => rfl
  | succ m ih =>
    have h0 := h m (by omega)
    have ih' := ih fun j hj => h j (by omega)
    unfold puts
    rw [← h0.1, ih']
    split
    · rename_i hs
      rw [h0.2 hs]
    · rfl
/-- One more operation has come up. -/
theorem puts_set (a : Act) (S : Nat → Bool) (val : Nat → Value) (i : Nat) (v : Value) {m : Nat} (hu : ∀ j d, j < m → j ≠ i → dstOf ops j = some d → dstOf ops i ≠ some d) (hS : S i = false) (hi : i < m) :
    puts ops a (fun j => if j = i then true else S j) (fun j => if j = i then v else val j) m = (puts ops a S val m).put (dstOf ops i) v := by
  induction m with
  | zero => omega
  | succ m ih =>
    by_cases him : i = m
    · subst him
      have e : puts ops a (fun j => if j = i then true else S j) (fun j => if j = i then v else val j) i = puts ops a S val i :=
        puts_congr a i fun j hj => by rw [if_neg (by omega), if_neg (by omega)]; exact ⟨rfl, fun _ => rfl⟩
      simp only [puts, if_true, e, hS]
      rfl
    · have ih' := ih (fun j d hj => hu j d (by omega)) (by omega)
      simp only [puts, ih', if_neg (Ne.symm him)]
      split
      · exact (Act.put_comm _ v (val m) fun d hd hd' => hu m d (by omega) (Ne.symm him) hd' hd)
      · rfl

/-- The Bool over the first m operations of a region: edges go back, what an operation looks at it waits for, no slot is written twice, all slots are there. -/
def monoB (ops : Array Oper) (m n : Nat) (D : List Nat) : Bool :=
  Region.noSelect ops && decide (m ≤ ops.size) && decide D.Nodup && D.all (fun i => decide (i < m)) && (List.range m).all fun k =>
    match ops[k]? with
    | none => false
    | some o => (waits o).all (fun j => decide (j < k)) &&
        (match o.dst with | none => true | some d => decide (d < n)) &&
        (List.range m).all fun j =>
          match dstOf ops j with
          | none => true
          | some d => (decide (j = k) || decide (o.dst ≠ some d)) && (!(o.looksAt ops).contains d || (waits o).contains j)

theorem monoB_spec {m n : Nat} {D : List Nat} (h : monoB ops m n D = true) {k : Nat} {o : Oper} (hk : k < m) (ho : ops[k]? = some o) :
    (∀ j ∈ waits o, j < k) ∧ (∀ d, o.dst = some d → d < n) ∧ (∀ j d, j < m → dstOf ops j = some d → (j ≠ k → o.dst ≠ some d) ∧ (d ∈ o.looksAt ops → j ∈ waits o)) := by
  simp only [monoB, Bool.and_eq_true] at h
  have h1 := List.all_eq_true.1 h.2 k (List.mem_range.2 hk)
  simp only [ho, Bool.and_eq_true] at h1
  obtain ⟨⟨h1, h2⟩, h3⟩ := h1
  refine ⟨fun j hj => by simpa using List.all_eq_true.1 h1 j hj, fun d hd => by simpa [hd] using h2, fun j d hj hd => ?_⟩
  have h4 := List.all_eq_true.1 h3 j (List.mem_range.2 hj)
  simp only [hd, Bool.and_eq_true, Bool.or_eq_true, decide_eq_true_eq, Bool.not_eq_true', List.contains_eq_mem] at h4
  refine ⟨fun hne => h4.1.resolve_left hne, fun hm => h4.2.resolve_left ?_⟩
  simp [hm]

/-- The lexical walk, at one operation: for whatever values. -/
theorem lex_at (a : Act) : ∀ (l : List Oper) (m : Nat) (val : Nat → Value), (∀ j, j < l.length → l[j]? = ops[m + j]?) → Lex P ops R C F D Q l (puts ops a (fun _ => true) val m) (rvOf val m) →
    (∀ k o, l[k]? = some o → ∀ w, C w → Deps F (rvOf val (m + k)) w (waits o) → wpList P ops (OpPost R D (m + k) (F (m + k)) o.dst (puts ops a (fun _ => true) val (m + k)) w) [o] (puts ops a (fun _ => true) val (m + k)) w) ∧
    (∀ w, C w → Deps F (rvOf val (m + l.length)) w (List.range (m + l.length)) → Apt (rvOf val (m + l.length)) D → Q (puts ops a (fun _ => true) val (m + l.length)) w)
  | [], m, val, _, h => by
    refine ⟨fun k o hk => by simp at hk, fun w hC hd hp => ?_⟩
    simp only [List.length_nil, Nat.add_zero] at hd hp ⊢
    refine h w hC ?_ hp
    rw [rvOf_length]
    exact hd
  | o :: l, m, val, hl, h => by
    have h0 : ops[m]? = some o := by simpa using (hl 0 (by simp)).symm
    have hd0 : dstOf ops m = o.dst := by simp [dstOf, h0]
    have hnext := h.2 (val m)
    have e : (puts ops a (fun _ => true) val m).put o.dst (val m) = puts ops a (fun _ => true) val (m + 1) := by simp [puts, hd0]
    rw [e] at hnext
    have ih := lex_at a l (m + 1) val (fun j hj => by have := hl (j + 1) (by simpa using hj); simpa [Nat.add_assoc, Nat.add_comm 1 j] using this) hnext
    refine ⟨fun k o' hk => ?_, ?_⟩
    · cases k with
      | zero =>
        simp at hk
        subst hk
        intro w hC hd
        have := h.1 w hC hd
        rw [rvOf_length] at this
        exact this
      | succ k =>
        have := ih.1 k o' (by simpa using hk)
        rw [show m + (k + 1) = m + 1 + k by omega]
        exact this
    · have := ih.2
      rw [show m + (o :: l).length = m + 1 + l.length by simp; omega]
      exact this

theorem yielded_congr {a a' : Act} {g : Nat} (h : ∀ t, dstOf ops g = some t → a'.tmps[t]? = a.tmps[t]?) : yielded ops a'.tmps g = yielded ops a.tmps g := by
  unfold yielded
  cases ht : dstOf ops g with
  | none => simp only [dstOf] at ht; simp [ht]
  | some t => have := h t ht; simp only [dstOf] at ht; simp [ht, this]

/-- One operation in another frame that agrees on what it looks at. -/
theorem wpOp_of_list {k : Nat} {o : Oper} {a a' : Act} {w : World} {G : Value → World → Prop} {K : Act → World → Prop} {Q' : Exit → Act → World → Prop} (ho : ops[k]? = some o) (hsel : ∀ cs b, o.op ≠ .select cs b)
    (hag : ∀ t ∈ o.looksAt ops, a'.tmps[t]? = a.tmps[t]?) (hsz : ∀ d, o.dst = some d → d < a.tmps.size)
    (h : wpList P ops (OpPost R D k G o.dst a w) [o] a w) (hK : ∀ v w', R w w' → Fr D k w v w' → G v w' → (o.dst = none → v = undef) → K (a'.put o.dst v) w') : wpOp P ops Q' k K a' w := by
  have hex : execOp a'.eval o = execOp a.eval o := execOp_congr o hsel fun x hx => by
    cases x with
    | tmp t =>
      have := hag t (List.mem_append_left _ (List.mem_filterMap.2 ⟨.tmp t, by simpa using hx, rfl⟩))
      simp [Act.eval, this]
    | _ => rfl
  have hwn : Region.wanted o (yielded ops a'.tmps) = Region.wanted o (yielded ops a.tmps) := by
    unfold Region.wanted
    cases hg : o.guard with
    | none => rfl
    | some gw =>
      obtain ⟨g, want⟩ := gw
      have : yielded ops a'.tmps g = yielded ops a.tmps g := yielded_congr fun t ht => hag t (by
        refine List.mem_append_right _ ?_
        simp only [dstOf] at ht
        simp [hg, ht])
      simp only [this]
  have hfin : ∀ v w', OpPost R D k G o.dst a w .normal (a.put o.dst v) w' → K (a'.put o.dst v) w' := by
    rintro v w' ⟨-, -, hr, hfr, hG⟩
    cases hd : o.dst with
    | none =>
      rw [hd] at hG hfr
      have hk := hK undef w' hr hfr hG (fun _ => rfl)
      rw [hd] at hk
      exact hk
    | some d =>
      rw [hd] at hG hfr
      have hlt := hsz d hd
      have e : ((some d).map (fun d => (a.put (some d) v).tmps.getD d undef)).getD undef = v := by
        simp [get_put_same a d v hlt]
      have e' : ((Option.map (fun d' => (a.put (some d) v).tmps.getD d' undef) (some d)).getD undef) = v := e
      rw [e'] at hG hfr
      have hk := hK v w' hr hfr hG (fun e => by rw [hd] at e; cases e)
      rw [hd] at hk
      exact hk
  have hno : ¬ LetsOut (OpPost R D k G o.dst a w) := by
    rintro ⟨_, _, h, _⟩
    cases h
  unfold wpOp
  simp only [ho]
  rw [hwn]
  unfold wpList at h
  split
  · rename_i hw
    rw [if_pos hw] at h
    refine .inl ?_
    have h1 := h.resolve_right (fun h => hno h.2)
    unfold Oper.wp at h1 ⊢
    rw [hex]
    generalize (execOp a.eval o).run P w = r at *
    cases r with
    | ok n w' =>
      cases n <;> simp only [Oper.upon] at h1 ⊢
      case value v => exact hfin v w' h1
      case skip => exact hfin undef w' h1
      case defer d =>
        have h2 : OpPost R D k G o.dst a w .normal _ _ := h1
        have h3 := h2.2.1
        rw [put_defers'] at h3
        simp at h3
      case enter f args =>
        refine Calls.mono h1 fun e w'' he => ?_
        cases e with
        | returned v => exact hfin v w'' he
        | panicked c => exact absurd he.1 (by simp)
        | outgrown => exact absurd he hno
      case row row args => exact Rows.mono h1 fun v w'' he => hfin v w'' he
    | halt x w' =>
      cases x <;> simp only [Oper.upon] at h1 ⊢
      case panic v => exact absurd h1.1 (by simp)
  · rename_i hw
    rw [if_neg hw] at h
    exact hfin undef w h

theorem countP_one {p q : Nat → Bool} {l : List Nat} {i : Nat} (hn : l.Nodup) (h : ∀ x, x ≠ i → q x = p x) (hi : i ∈ l) (hp : p i = true) (hq : q i = false) : l.countP p = l.countP q + 1 := by
  induction l with
  | nil => simp at hi
  | cons y l ih =>
    obtain ⟨hy, hn'⟩ := List.nodup_cons.1 hn
    rcases List.mem_cons.1 hi with rfl | hm'
    · rw [List.countP_cons_of_pos hp, List.countP_cons_of_neg (p := q) (by simp [hq])]
      congr 1
      exact List.countP_congr fun x hx => by rw [h x (fun e => by subst e; exact hy hx)]
    · have ih' := ih hn' hm'
      have hyi : y ≠ i := fun e => by subst e; exact hy hm'
      by_cases hqy : q y = true
      · rw [List.countP_cons_of_pos hqy, List.countP_cons_of_pos (by rw [← h y hyi]; exact hqy), ih']
      · rw [List.countP_cons_of_neg hqy, List.countP_cons_of_neg (by rw [← h y hyi]; exact hqy), ih']

/-- The first n of m have come up. -/
def headListed (n m : Nat) : Array Bool := ((List.range m).map fun i => decide (i < n)).toArray
theorem headListed_of {n m : Nat} {listed : Array Bool} (hs : listed.size = m) (h1 : ∀ i, i < n → i < m → listed.getD i false = true) (h2 : ∀ i, n ≤ i → i < m → listed.getD i true = false) : listed = headListed n m := by
  apply Array.ext
  · simp [headListed, hs]
  · intro i hi hi'
    have hm : i < m := by omega
    rcases Nat.lt_or_ge i n with h | h
    · have := h1 i h hm
      simp [hi] at this
      simp [headListed, this, h]
    · have := h2 i h hm
      simp [hi] at this
      simp [headListed, this]
      omega

/-- The Bool over the operations behind the first n: they come up behind all of these, one by one. -/
def tailB (ops : Array Oper) (n : Nat) : Bool :=
  Region.seqB .any ops (ops.size - n) n (headListed n ops.size) && (decide (n = ops.size) || (decide (n < ops.size) && Region.sinkB .any ops n && Region.chainB .any ops n))

theorem wpAny_of_lex {a : Act} {n : Nat} {l : List Oper} {Q' : Exit → Act → World → Prop} (hl : l.toArray = ops) (hB : monoB ops n a.tmps.size D = true) (hT : tailB ops n = true) (hC : ∀ w w', C w → R w w' → C w') (hF : ∀ k v w w', C w → F k v w → R w w' → F k v w')
    (hS : ∀ w w', R w w' → w.heap.size ≤ w'.heap.size)
    (hlex : Lex P ops R C F D (fun a w => wpList P ops Q' (l.drop n) a w) (l.take n) a []) :
    ∀ (f : Nat) (listed : Array Bool) (val : Nat → Value) (w : World), HeadInv .any ops n listed → (List.range n).countP (fun i => !listed.getD i true) = f → C w →
      (∀ i, i < n → listed.getD i false = true → F i (val i) w) →
      (∀ i ∈ D, listed.getD i false = true → ∃ g, blkOf (val i) = some g ∧ g < w.heap.size) →
      (∀ i ∈ D, ∀ j ∈ D, listed.getD i false = true → listed.getD j false = true → i ≠ j → blkOf (val i) ≠ blkOf (val j)) →
      wpAny P .any ops Q' (f + (ops.size - n)) listed (puts ops a (fun i => listed.getD i false) val n) w := by
  have hB0 := hB
  simp only [monoB, Bool.and_eq_true, decide_eq_true_eq] at hB0
  obtain ⟨⟨⟨⟨hsel0, hnm⟩, hnd⟩, hDn⟩, -⟩ := hB0
  have hDlt : ∀ i ∈ D, i < n := fun i hi => by simpa using List.all_eq_true.1 hDn i hi
  have hsel : ∀ (j : Nat) (o : Oper) cs b, ops[j]? = some o → o.op ≠ .select cs b := Region.noSelect_spec hsel0
  simp only [tailB, Bool.and_eq_true, Bool.or_eq_true, decide_eq_true_eq] at hT
  obtain ⟨hseq, htail⟩ := hT
  have hlen : l.length = ops.size := by rw [← hl]; simp
  have hget : ∀ j : Nat, l[j]? = ops[j]? := fun j => by subst hl; simp
  have htl : (l.take n).length = n := by rw [List.length_take, hlen]; omega
  have hat := fun val => lex_at (P := P) (R := R) (C := C) (F := F) (D := D) (Q := fun a w => wpList P ops Q' (l.drop n) a w) a (l.take n) 0 val (fun j hj => by rw [List.getElem?_take_of_lt (by rw [htl] at hj; exact hj), hget]; simp) hlex
  intro f
  induction f with
  | zero =>
    intro listed val w inv hcnt hCw hf hD1 hD2
    have hz : ∀ i, i < n → listed.getD i false = true := by
      intro i hi
      have := List.countP_eq_zero.1 hcnt i (List.mem_range.2 hi)
      have hi' : i < listed.size := by rw [inv.size]; omega
      simp [hi'] at this ⊢
      exact this
    have hlist : listed = headListed n ops.size := headListed_of inv.size (fun i hi _ => hz i hi) inv.tail
    have h := (hat val).2 w hCw
    simp only [Nat.zero_add, htl] at h
    have e : puts ops a (fun i => listed.getD i false) val n = puts ops a (fun _ => true) val n := puts_congr a _ fun j hj => ⟨hz j hj, fun _ => rfl⟩
    have h2 := h (deps_mk _ fun i hi => by
      have hi' := List.mem_range.1 hi
      rw [valAt_rvOf val _ _ hi']
      exact hf i hi' (hz i hi')) (apt_mk _ hnd fun i hi j hj hne => by
      rw [valAt_rvOf val _ _ (hDlt i hi), valAt_rvOf val _ _ (hDlt j hj)]
      exact hD2 i hi j hj (hz i (hDlt i hi)) (hz j (hDlt j hj)) hne)
    rw [e, Nat.zero_add]
    have hdl : (l.drop n).length = ops.size - n := by rw [List.length_drop, hlen]
    have := wpAny_of_seq (md := .any) (Q' := Q') (l.drop n) n listed _ w (fun j => by rw [List.getElem?_drop, hget]) (by rw [hdl, hlist]; exact hseq) h2
    rwa [hdl] at this
  | succ f ih =>
    intro listed val w inv hcnt hCw hf hD1 hD2
    have hex : ∃ i, i < n ∧ listed.getD i true = false ∧ ∀ j, j < i → listed.getD j false = true := by
      have hpos : 0 < (List.range n).countP (fun i => !listed.getD i true) := by omega
      obtain ⟨i, hi, hp⟩ := List.countP_pos_iff.1 hpos
      have hi' := List.mem_range.1 hi
      clear hi
      induction i using Nat.strongRecOn with
      | _ i ihi =>
        by_cases hall : ∀ j, j < i → listed.getD j false = true
        · exact ⟨i, hi', by simpa using hp, hall⟩
        · have ⟨j, hj⟩ := Classical.not_forall.1 hall
          have ⟨hji, hjl⟩ := Classical.not_imp.1 hj
          refine ihi j hji ?_ (by omega)
          have hjs : j < listed.size := by rw [inv.size]; omega
          simp [hjs] at hjl ⊢
          exact hjl
    obtain ⟨i0, hi0, hun0, hbef⟩ := hex
    have hi0s : i0 < ops.size := by omega
    have hready0 : i0 ∈ Region.ready .any ops listed := by
      have ho : ops[i0]? = some ops[i0] := by simp [hi0s]
      rw [mem_ready]
      refine ⟨hun0, ops[i0], ho, fun e he hb => ?_⟩
      have hw : e.on ∈ waits ops[i0] := List.mem_map.2 ⟨e, List.mem_filter.2 ⟨by simpa using he, hb⟩, rfl⟩
      exact hbef _ ((monoB_spec hB hi0 ho).1 _ hw)
    rw [show f + 1 + (ops.size - n) = (f + (ops.size - n)) + 1 by omega]
    refine ⟨fun hr => (by rw [hr] at hready0; cases hready0), fun i hi => ?_⟩
    obtain ⟨hun, o, ho, hall⟩ := mem_ready.1 hi
    have his : i < ops.size := (Array.getElem?_eq_some_iff.1 ho).1
    have hin : i < n := by
      rcases htail with h | ⟨⟨h1, h2⟩, h3⟩
      · omega
      · rcases Nat.lt_or_ge i n with h | h
        · exact h
        · exact absurd hi (tail_waits h2 h3 h1 inv _ i0 rfl hi0 hun0 i h)
    obtain ⟨hb1, hb2, hb3⟩ := monoB_spec hB hin ho
    have hw : ∀ j ∈ waits o, listed.getD j false = true := by
      intro j hj
      obtain ⟨e, he, rfl⟩ := List.mem_map.1 hj
      obtain ⟨he1, he2⟩ := List.mem_filter.1 he
      exact hall e (by simpa using he1) he2
    have hl := (hat val).1 i o (by rw [List.getElem?_take_of_lt hin, hget]; exact ho) w hCw
    simp only [Nat.zero_add] at hl
    have hl2 := hl (deps_mk _ fun j hj => by
      have hj' := hb1 j hj
      rw [valAt_rvOf val _ _ hj']
      exact hf j (by omega) (hw j hj))
    have hdi : dstOf ops i = o.dst := by simp [dstOf, ho]
    refine wpOp_of_list (G := F i) ho (fun cs b => hsel i o cs b ho) (fun t ht => ?_) (fun d hd => by rw [puts_size]; exact hb2 d hd) hl2 (fun v w' hr hfr hv hnone => ?_)
    · by_cases hex : ∃ j, j < n ∧ dstOf ops j = some t
      · obtain ⟨j, hj, hd⟩ := hex
        have hjw := (hb3 j t hj hd).2 ht
        have hji := hb1 j hjw
        have hlj := hw j hjw
        have hjs : j < ops.size := by omega
        have hoj : ops[j]? = some ops[j] := by simp [hjs]
        have hdj : ops[j].dst = some t := by simpa [dstOf, hoj] using hd
        have htlt := (monoB_spec hB hj hoj).2.1 t hdj
        have huniq : ∀ i', i' < n → dstOf ops i' = some t → i' = j := fun i' hi' hd' => by
          by_cases hne : i' = j
          · exact hne
          · exact absurd hdj (((monoB_spec hB hj hoj).2.2 i' t hi' hd').1 hne)
        rw [puts_hit a _ val t j n hj hlj hd huniq htlt, puts_hit a _ val t j i hji rfl hd (fun i' hi' => huniq i' (by omega)) htlt]
      · rw [puts_miss a _ val t _ fun j hj _ hd => hex ⟨j, hj, hd⟩, puts_miss a _ val t _ fun j hj _ hd => hex ⟨j, by omega, hd⟩]
    · have hlf : listed.getD i false = false := getD_both hun
      have hils : i < listed.size := by rw [inv.size]; exact his
      have hset : ∀ j, (listed.setIfInBounds i true).getD j false = if j = i then true else listed.getD j false := by
        intro j
        by_cases hji : j = i
        · subst hji
          simp [hils]
        · rw [if_neg hji, getD_set_ne false (Ne.symm hji)]
      have hput := puts_set (ops := ops) a (fun j => listed.getD j false) val i v (fun j d hj hne hd hd' => by
        rw [hdi] at hd'
        exact (hb3 j d hj hd).1 hne hd') hlf hin
      rw [hdi] at hput
      rw [← hput]
      have e : puts ops a (fun j => if j = i then true else listed.getD j false) (fun j => if j = i then v else val j) n = puts ops a (fun j => (listed.setIfInBounds i true).getD j false) (fun j => if j = i then v else val j) n :=
        puts_congr a _ fun j _ => ⟨(hset j).symm, fun _ => rfl⟩
      rw [e]
      have hsz := hS _ _ hr
      refine ih _ _ _ (inv.set hi hin) ?_ (hC _ _ hCw hr) (fun j hj hlj => ?_) (fun j hj hlj => ?_) (fun j hj k hk hlj hlk hne => ?_)
      · have := countP_one (p := fun i => !listed.getD i true) (q := fun j => !(listed.setIfInBounds i true).getD j true) (l := List.range n) (i := i) List.nodup_range (fun x hx => by
          simp only [getD_set_ne true (Ne.symm hx)]) (List.mem_range.2 hin) (by simp only [hun]; rfl) (by simp [hils])
        omega
      · rw [hset] at hlj
        by_cases hji : j = i
        · subst hji
          rw [if_pos rfl]
          exact hv
        · rw [if_neg hji] at hlj
          rw [if_neg hji]
          exact hF _ _ _ _ hCw (hf j hj hlj) hr
      · rw [hset] at hlj
        by_cases hji : j = i
        · subst hji
          rw [if_pos rfl]
          rw [Fr, if_pos (by simpa using hj)] at hfr
          obtain ⟨g, h1, _, h3⟩ := hfr
          exact ⟨g, h1, h3⟩
        · rw [if_neg hji] at hlj
          rw [if_neg hji]
          obtain ⟨g, h1, h2⟩ := hD1 j hj hlj
          exact ⟨g, h1, by omega⟩
      · rw [hset] at hlj hlk
        by_cases hji : j = i
        · subst hji
          have hkj : k ≠ j := Ne.symm hne
          rw [if_neg hkj] at hlk
          rw [if_pos rfl, if_neg hkj]
          rw [Fr, if_pos (by simpa using hj)] at hfr
          obtain ⟨g, h1, h2, _⟩ := hfr
          obtain ⟨g', h1', h2'⟩ := hD1 k hk hlk
          rw [h1, h1']
          intro e
          injection e with e
          omega
        · rw [if_neg hji] at hlj
          rw [if_neg hji]
          by_cases hki : k = i
          · subst hki
            rw [if_pos rfl]
            rw [Fr, if_pos (by simpa using hk)] at hfr
            obtain ⟨g, h1, h2, _⟩ := hfr
            obtain ⟨g', h1', h2'⟩ := hD1 j hj hlj
            rw [h1, h1']
            intro e
            injection e with e
            omega
          · rw [if_neg hki] at hlk
            rw [if_neg hki]
            exact hD2 j hj k hk hlj hlk hne
end

/-- **A region that draws its order, by facts that last**: each of the first n operations once, from the facts of those that it waits for; behind them, with all facts, the others one by one. -/
theorem wp_region_mono {P : Program} {id : Nat} {Q : Exit → Act → World → Prop} {a : Act} {w : World} {l : List Oper} (n : Nat) (R : World → World → Prop) (C : World → Prop) (F : Nat → Value → World → Prop) (D : List Nat)
    (hm : P.follows .mixedOrders = true) (hB : monoB l.toArray n a.tmps.size D = true) (hT : tailB l.toArray n = true) (hC : ∀ w w', C w → R w w' → C w') (hF : ∀ k v w w', C w → F k v w → R w w' → F k v w')
    (hS : ∀ w w', R w w' → w.heap.size ≤ w'.heap.size) (h0 : C w.drew)
    (h : Lex P l.toArray R C F D (fun a w => wpList P l.toArray Q (l.drop n) a w) (l.take n) a []) : (Code.region id l.toArray true).wp P Q a w := by
  refine wp_region_any hm ?_
  have hnm : n ≤ l.toArray.size := by
    simp only [monoB, Bool.and_eq_true, decide_eq_true_eq] at hB
    exact hB.1.1.1.2
  have inv0 : HeadInv .any l.toArray n (Array.replicate l.toArray.size false) :=
    ⟨by simp, fun j oj _ hl => (by rw [getD_replicate_false] at hl; cases hl), fun t _ ht => getD_in (by simpa using ht) (getD_replicate_false _ _)⟩
  have h1 := wpAny_of_lex (Q' := Q) rfl hB hT hC hF hS h n (Array.replicate l.toArray.size false) (fun _ => undef) w.drew inv0 (by
    have : (List.range n).countP (fun i => !(Array.replicate l.toArray.size false).getD i true) = (List.range n).length := by
      rw [List.countP_eq_length]
      intro i hi
      have := List.mem_range.1 hi
      have hi' : i < l.length := by simp at hnm; omega
      simp [hi']
    rw [this, List.length_range]) h0 (fun i hi hl => by rw [getD_replicate_false] at hl; cases hl) (fun i _ hl => by rw [getD_replicate_false] at hl; cases hl) (fun i _ j _ hl => by rw [getD_replicate_false] at hl; cases hl)
  have e : puts l.toArray a (fun i => (Array.replicate l.toArray.size false).getD i false) (fun _ => undef) n = a := by
    have h2 : ∀ m, puts l.toArray a (fun i => (Array.replicate l.toArray.size false).getD i false) (fun _ => undef) m = a := by
      intro m
      induction m with
      | zero => rfl
      | succ m ih =>
        unfold puts
        rw [if_neg (by rw [getD_replicate_false]; simp), ih]
    exact h2 _
  rw [e, show n + (l.toArray.size - n) = l.toArray.size by omega] at h1
  exact h1
end Go.Proofs.Ytefeedpeiiaanaa
