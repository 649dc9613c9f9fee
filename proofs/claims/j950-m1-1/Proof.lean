import JvmDerived
import JvmDerived.Pilot.@@N@@Statement
import JvmDerived.Pilot.@@N@@Code
set_option linter.unusedVariables false
set_option linter.unusedSimpArgs false
namespace Jvm.Pilot.@@N@@
open Jvm Jvm.ClassFile Sem Op Lib Jvm.Free Jvm.Stand Jvm.LawKit Jvm.RoadKit Bundle Jvm.Pilot.@@N@@.Jvm.D
/-! ## PART A. A small machine that reckons with plain data, and the proof that the model follows it -/
abbrev oObj : Type := (Nat × List Value) ⊕ (FieldType × List Int32)
abbrev oFd : Type := String × String × FieldType × Bool
abbrev oKl : Type := String × Nat × List oFd
abbrev oMt : Type := MethodName × ByteArray × Nat × Option FieldType × Jvm.Room × Nat
abbrev oOp : Type := Nat × Instr × Nat × Nat
abbrev oSt : Type := Nat × Array Slot × List Value × List oObj × Nat × Nat
abbrev oCf : Type := Nat → List Value → List oObj → Option (Option Value × List oObj)

theorem oNone {α : Type} {a : α} {P : Prop} (h : (none : Option α) = some a) : P := by cases h
/-! A1. what stands for what: an abstract value's 'ref k' is the k-th object made; 'retAddr' and 'double' stand for any value of their size -/
def oVR (ad : List Addr) : Value → Value → Prop
  | .int x, w => w = .int x
  | .long x, w => w = .long x
  | .null, w => w = .null
  | .ref k, w => ∃ a, ad[k]? = some a ∧ w = .ref a
  | .retAddr _, w => w.category = 1
  | .double _, w => w.category = 2
  | .float _, _ => False
def oPre (ad ad' : List Addr) : Prop := ∀ (k : Nat) (a : Addr), ad[k]? = some a → ad'[k]? = some a
theorem oPre.rfl' (ad : List Addr) : oPre ad ad := fun _ _ h => h
theorem oPre.trans {a b c : List Addr} (h : oPre a b) (h' : oPre b c) : oPre a c := fun k x q => h' k x (h k x q)
theorem oPre.snoc (ad : List Addr) (x : Addr) : oPre ad (ad ++ [x]) := fun k a h => by
  rw [List.getElem?_append_left (List.getElem?_eq_some_iff.mp h).1]; exact h
theorem oVR.mono {ad ad' : List Addr} {v w : Value} (h : oVR ad v w) (p : oPre ad ad') : oVR ad' v w := by
  cases v <;> first | exact h | (obtain ⟨a, h1, h2⟩ := h; exact ⟨a, p _ _ h1, h2⟩)
theorem oVR.cat {ad : List Addr} {v w : Value} (h : oVR ad v w) : w.category = v.category := by
  cases v <;> first | (obtain ⟨a, h1, rfl⟩ := h; rfl) | (cases h; rfl) | (cases h; done) | exact h
def oKR (ad : List Addr) : List Value → List Value → Prop
  | [], ws => ws = []
  | v :: vs, ws => ∃ w ws', ws = w :: ws' ∧ oVR ad v w ∧ oKR ad vs ws'
theorem oKR.mono {ad ad' : List Addr} (p : oPre ad ad') : ∀ {vs ws : List Value}, oKR ad vs ws → oKR ad' vs ws
  | [], _, h => h
  | _ :: _, _, ⟨w, ws', h1, h2, h3⟩ => ⟨w, ws', h1, h2.mono p, oKR.mono p h3⟩
theorem oKR.len {ad : List Addr} : ∀ {vs ws : List Value}, oKR ad vs ws → ws.length = vs.length
  | [], _, h => by cases h; rfl
  | _ :: _, _, ⟨w, ws', h1, h2, h3⟩ => by cases h1; simp [oKR.len h3]
theorem oKR.take {ad : List Addr} : ∀ (n : Nat) {vs ws : List Value}, oKR ad vs ws → oKR ad (vs.take n) (ws.take n)
  | 0, _, _, _ => rfl
  | _ + 1, [], _, h => by cases h; rfl
  | n + 1, _ :: _, _, ⟨w, ws', h1, h2, h3⟩ => by cases h1; exact ⟨w, _, rfl, h2, oKR.take n h3⟩
theorem oKR.drop {ad : List Addr} : ∀ (n : Nat) {vs ws : List Value}, oKR ad vs ws → oKR ad (vs.drop n) (ws.drop n)
  | 0, _, _, h => h
  | _ + 1, [], _, h => by cases h; rfl
  | n + 1, _ :: _, _, ⟨w, ws', h1, h2, h3⟩ => by cases h1; exact oKR.drop n h3
theorem oKR.app {ad : List Addr} {xs ys : List Value} (h' : oKR ad xs ys) : ∀ {vs ws : List Value}, oKR ad vs ws → oKR ad (vs ++ xs) (ws ++ ys)
  | [], _, h => by cases h; exact h'
  | _ :: _, _, ⟨w, ws', h1, h2, h3⟩ => by cases h1; exact ⟨w, _, rfl, h2, oKR.app h' h3⟩
theorem oKR.rev {ad : List Addr} : ∀ {vs ws : List Value}, oKR ad vs ws → oKR ad vs.reverse ws.reverse
  | [], _, h => by cases h; rfl
  | v :: _, _, ⟨w, ws', h1, h2, h3⟩ => by
    cases h1
    rw [List.reverse_cons, List.reverse_cons]
    exact oKR.app (show oKR ad [v] [w] from ⟨w, [], rfl, h2, rfl⟩) (oKR.rev h3)
theorem oKR.cats {ad : List Addr} : ∀ {vs ws : List Value}, oKR ad vs ws → (ws.map fun v => v.category) = vs.map fun v => v.category
  | [], _, h => by cases h; rfl
  | _ :: _, _, ⟨w, ws', h1, h2, h3⟩ => by cases h1; simp [oKR.cats h3, h2.cat]

/-! A2. local variables -/
def oSR (ad : List Addr) : Slot → Slot → Prop
  | .unset, s => s = .unset
  | .second, s => s = .second
  | .val v, s => ∃ w, s = .val w ∧ oVR ad v w
theorem oSR.mono {ad ad' : List Addr} {x y : Slot} (h : oSR ad x y) (p : oPre ad ad') : oSR ad' x y := by
  cases x <;> first | exact h | (obtain ⟨a, h1, h2⟩ := h; exact ⟨a, h1, h2.mono p⟩)
def oLR (ad : List Addr) (l c : Array Slot) : Prop := l.size = c.size ∧ ∀ (i : Nat) (x : Slot), l[i]? = some x → ∃ y, c[i]? = some y ∧ oSR ad x y
theorem oLR.mono {ad ad' : List Addr} {l c : Array Slot} (h : oLR ad l c) (p : oPre ad ad') : oLR ad' l c :=
  ⟨h.1, fun i x hx => by obtain ⟨y, h1, h2⟩ := h.2 i x hx; exact ⟨y, h1, h2.mono p⟩⟩
theorem oLR.ld {ad : List Addr} {l c : Array Slot} (h : oLR ad l c) {k : Nat} {v : Value} (q : l.toList[k]? = some (.val v)) : ∃ w, c[k]? = some (.val w) ∧ oVR ad v w := by
  rw [Array.getElem?_toList] at q
  obtain ⟨y, h1, w, rfl, h2⟩ := h.2 k _ q
  exact ⟨w, h1, h2⟩
theorem oLR.set {ad : List Addr} {l c l' : Array Slot} {i : Nat} {x y : Slot} (h : oLR ad l c) (hx : oSR ad x y) (hs : setAt l i x = some l') : ∃ c', setAt c i y = some c' ∧ oLR ad l' c' := by
  unfold setAt at hs ⊢
  split at hs
  · rename_i hi
    cases hs
    have hi' : i < c.size := h.1 ▸ hi
    refine ⟨_, if_pos hi', by simp [h.1], fun j z hz => ?_⟩
    by_cases e : i = j
    · subst e
      rw [Array.getElem?_setIfInBounds_self_of_lt hi] at hz
      cases hz
      exact ⟨y, Array.getElem?_setIfInBounds_self_of_lt hi', hx⟩
    · rw [Array.getElem?_setIfInBounds_ne e] at hz ⊢
      exact h.2 j z hz
  · cases hs
theorem oLR.storeSelf {ad : List Addr} {l c l' : Array Slot} {i : Nat} {v w : Value} (h : oLR ad l c) (hv : oVR ad v w) (hs : storeSelf l i v = some l') : ∃ c', storeSelf c i w = some c' ∧ oLR ad l' c' := by
  simp only [Jvm.storeSelf, Option.bind_eq_bind, Option.bind_eq_some_iff] at hs ⊢
  obtain ⟨l1, h1, h2⟩ := hs
  obtain ⟨c1, e1, r1⟩ := h.set (x := .val v) (y := .val w) ⟨w, rfl, hv⟩ h1
  rw [hv.cat]
  split at h2
  · rename_i hcat
    simp only [Option.bind_eq_some_iff] at h2
    obtain ⟨x, hx, h3⟩ := h2
    obtain ⟨y, hy, hxy⟩ := r1.2 _ _ hx
    cases x with
    | unset =>
      cases hxy
      obtain ⟨c2, e2, r2⟩ := r1.set (x := .second) (y := .second) rfl h3
      exact ⟨c2, ⟨c1, e1, by rw [if_pos hcat, hy]; exact e2⟩, r2⟩
    | second =>
      cases hxy
      obtain ⟨c2, e2, r2⟩ := r1.set (x := .second) (y := .second) rfl h3
      exact ⟨c2, ⟨c1, e1, by rw [if_pos hcat, hy]; exact e2⟩, r2⟩
    | val old =>
      obtain ⟨w', rfl, ho⟩ := hxy
      dsimp only at h3
      split at h3
      · rename_i h2c
        simp only [Option.bind_eq_some_iff] at h3
        obtain ⟨l2, h4, h5⟩ := h3
        obtain ⟨c2, e2, r2⟩ := r1.set (x := .unset) (y := .unset) rfl h4
        obtain ⟨c3, e3, r3⟩ := r2.set (x := .second) (y := .second) rfl h5
        refine ⟨c3, ⟨c1, e1, ?_⟩, r3⟩
        rw [if_pos hcat, hy]
        show (if w'.category = 2 then _ else _) = _
        rw [if_pos (ho.cat.trans h2c), e2]
        exact e3
      · rename_i h2c
        obtain ⟨c2, e2, r2⟩ := r1.set (x := .second) (y := .second) rfl h3
        refine ⟨c2, ⟨c1, e1, ?_⟩, r2⟩
        rw [if_pos hcat, hy]
        show (if w'.category = 2 then _ else _) = _
        rw [if_neg (ho.cat ▸ h2c)]
        exact e2
  · rename_i hcat
    cases h2
    exact ⟨c1, ⟨c1, e1, by rw [if_neg hcat]⟩, r1⟩
theorem oLR.store {ad : List Addr} {l c l' : Array Slot} {i : Nat} {v w : Value} (h : oLR ad l c) (hv : oVR ad v w) (hs : storeLocals l i v = some l') : ∃ c', storeLocals c i w = some c' ∧ oLR ad l' c' := by
  simp only [storeLocals, Option.bind_eq_bind, Option.bind_eq_some_iff] at hs ⊢
  obtain ⟨x, hx, h1⟩ := hs
  obtain ⟨y, hy, hxy⟩ := h.2 _ _ hx
  cases x with
  | unset =>
    cases hxy
    obtain ⟨c1, e1, r1⟩ := h.storeSelf hv h1
    exact ⟨c1, ⟨_, hy, e1⟩, r1⟩
  | second =>
    cases hxy
    simp only [Option.bind_eq_some_iff] at h1
    obtain ⟨l1, h2, h3⟩ := h1
    obtain ⟨c1, e1, r1⟩ := h.set (x := .unset) (y := .unset) rfl h2
    obtain ⟨c2, e2, r2⟩ := r1.storeSelf hv h3
    exact ⟨c2, ⟨_, hy, by simp only [e1]; exact e2⟩, r2⟩
  | val old =>
    obtain ⟨w', rfl, ho⟩ := hxy
    dsimp only at h1
    split at h1
    · rename_i h2c
      simp only [Option.bind_eq_some_iff] at h1
      obtain ⟨l1, h2, h3⟩ := h1
      obtain ⟨c1, e1, r1⟩ := h.set (x := .unset) (y := .unset) rfl h2
      obtain ⟨c2, e2, r2⟩ := r1.storeSelf hv h3
      refine ⟨c2, ⟨_, hy, ?_⟩, r2⟩
      show (if w'.category = 2 then _ else _) = _
      rw [if_pos (ho.cat.trans h2c), e1]
      exact e2
    · rename_i h2c
      obtain ⟨c2, e2, r2⟩ := h.storeSelf hv h1
      refine ⟨c2, ⟨_, hy, ?_⟩, r2⟩
      show (if w'.category = 2 then _ else _) = _
      rw [if_neg (ho.cat ▸ h2c)]
      exact e2
theorem oLR.push {ad : List Addr} {l c : Array Slot} {x y : Slot} (h : oLR ad l c) (hx : oSR ad x y) : oLR ad (l.push x) (c.push y) := by
  refine ⟨by simp [h.1], fun i z hz => ?_⟩
  rw [Array.getElem?_push] at hz ⊢
  rw [h.1] at hz
  split at hz
  · rename_i e
    cases hz
    exact ⟨y, if_pos e, hx⟩
  · rename_i e
    rw [if_neg e]
    exact h.2 i z hz
theorem oLR.pad {ad : List Addr} {l c : Array Slot} (h : oLR ad l c) (n : Nat) : oLR ad (l ++ Array.replicate n .unset) (c ++ Array.replicate n .unset) := by
  refine ⟨by simp [h.1], fun i x hx => ?_⟩
  rw [Array.getElem?_append] at hx ⊢
  rw [h.1] at hx
  split at hx
  · rename_i hi
    rw [if_pos hi]; exact h.2 i x hx
  · rename_i hi
    rw [if_neg hi]
    rw [Array.getElem?_replicate] at hx ⊢
    split at hx
    · rename_i hj
      cases hx
      exact ⟨.unset, if_pos hj, rfl⟩
    · cases hx
theorem oLR.fold {ad : List Addr} : ∀ {vs ws : List Value} {l c : Array Slot}, oKR ad vs ws → oLR ad l c →
    oLR ad (vs.foldl (fun acc v => if v.category = 2 then (acc.push (.val v)).push .second else acc.push (.val v)) l) (ws.foldl (fun acc v => if v.category = 2 then (acc.push (.val v)).push .second else acc.push (.val v)) c)
  | [], _, _, _, hk, h => by cases hk; exact h
  | v :: vs, _, _, _, ⟨w, ws', h1, h2, h3⟩, h => by
    cases h1
    rw [List.foldl_cons, List.foldl_cons]
    refine oLR.fold h3 ?_
    rw [h2.cat]
    split
    · exact (h.push (show oSR ad (.val v) (.val w) from ⟨w, rfl, h2⟩)).push (show oSR ad .second .second from rfl)
    · exact h.push (show oSR ad (.val v) (.val w) from ⟨w, rfl, h2⟩)
theorem oLR.entry {ad : List Addr} {vs ws : List Value} (h : oKR ad vs ws) (n : Nat) : oLR ad (argsToLocals vs.toArray n) (argsToLocals ws.toArray n) := by
  have q := oLR.fold h (l := #[]) (c := #[]) ⟨rfl, fun i x hx => by simp at hx⟩
  unfold argsToLocals
  rw [List.foldl_toArray, List.foldl_toArray]
  dsimp only
  rw [q.1]
  exact q.pad _

/-! A3. the heap: the k-th object made lies at the k-th address of 'ad' -/
def oOR (Z : State) (h : Heap) (ad : List Addr) (KT : List oKl) (a : Addr) : oObj → Prop
  | .inl (k, vs) => ∃ (C : String) (n : Nat) (fs : List oFd), KT[k]? = some (C, n, fs) ∧ vs.length = fs.length ∧ Exa Z h a C ∧ ∀ (i : Nat) (f : oFd) (v : Value), fs[i]? = some f → vs[i]? = some v → ∃ w, oVR ad v w ∧ Fld Z h a C f.1 f.2.1 w
  | .inr (ty, vs) => ∃ c : Cell, Arr Z h a c ty ∧ c.slots = (vs.map Value.int).toArray
def oHR (Z : State) (h : Heap) (n0 : Nat) (ad : List Addr) (KT : List oKl) (H : List oObj) : Prop :=
  ad.length = H.length ∧ (∀ (i j a : Nat), ad[i]? = some a → ad[j]? = some a → i = j) ∧ (∀ (i a : Nat), ad[i]? = some a → n0 ≤ a ∧ a < h.size) ∧
    ∀ (k : Nat) (o : oObj) (a : Nat), H[k]? = some o → ad[k]? = some a → oOR Z h ad KT a o
section Heaps
variable {Z : State} {h h' : Heap} {ad ad' : List Addr} {KT : List oKl} {a b : Addr} {o : oObj} {H : List oObj} {n0 : Nat}
theorem oOR.mono (q : oOR Z h ad KT a o) (p : oPre ad ad') : oOR Z h ad' KT a o := by
  rcases o with ⟨k, vs⟩ | ⟨ty, vs⟩
  · obtain ⟨C, n, fs, h1, h0, h2, h3⟩ := q
    exact ⟨C, n, fs, h1, h0, h2, fun i f v hf hv => by obtain ⟨w, e1, e2⟩ := h3 i f v hf hv; exact ⟨w, e1.mono p, e2⟩⟩
  · exact q
theorem oOR.ext (q : oOR Z h ad KT a o) (E : Ext h h') : oOR Z h' ad KT a o := by
  rcases o with ⟨k, vs⟩ | ⟨ty, vs⟩
  · obtain ⟨C, n, fs, h1, h0, h2, h3⟩ := q
    exact ⟨C, n, fs, h1, h0, h2.ext E, fun i f v hf hv => by obtain ⟨w, e1, e2⟩ := h3 i f v hf hv; exact ⟨w, e1, e2.ext E⟩⟩
  · obtain ⟨c, h1, h2⟩ := q
    exact ⟨c, h1.ext E, h2⟩
theorem oOR.other {sl : Nat} {v : Value} (q : oOR Z h ad KT b o) (W : Wr h h' a sl v) (hne : b ≠ a) : oOR Z h' ad KT b o := by
  rcases o with ⟨k, vs⟩ | ⟨ty, vs⟩
  · obtain ⟨C, n, fs, h1, h0, h2, h3⟩ := q
    exact ⟨C, n, fs, h1, h0, h2.wr W, fun i f v hf hv => by obtain ⟨w, e1, e2⟩ := h3 i f v hf hv; exact ⟨w, e1, e2.other W (Or.inl hne)⟩⟩
  · obtain ⟨c, h1, h2⟩ := q
    exact ⟨c, h1.other W hne, h2⟩
theorem oHR.at (q : oHR Z h n0 ad KT H) {k : Nat} (e : H[k]? = some o) : ∃ a, ad[k]? = some a ∧ oOR Z h ad KT a o := by
  have hk : k < ad.length := by rw [q.1]; exact (List.getElem?_eq_some_iff.mp e).1
  exact ⟨ad[k], List.getElem?_eq_getElem hk, q.2.2.2 k o _ e (List.getElem?_eq_getElem hk)⟩
theorem oHR.put {sl k : Nat} {v : Value} {o' : oObj} (q : oHR Z h n0 ad KT H) (e : H[k]? = some o) (ha : ad[k]? = some a) (W : Wr h h' a sl v) (hn : oOR Z h' ad KT a o') : oHR Z h' n0 ad KT (H.set k o') := by
  refine ⟨by simp [q.1], q.2.1, fun i b hb => by rw [W.size]; exact q.2.2.1 i b hb, fun j o1 b ho hb => ?_⟩
  by_cases ej : k = j
  · subst ej
    rw [List.getElem?_set_self (List.getElem?_eq_some_iff.mp e).1] at ho
    cases ho
    cases ha.symm.trans hb
    exact hn
  · rw [List.getElem?_set_ne ej] at ho
    exact (q.2.2.2 j o1 b ho hb).other W fun hab => ej (q.2.1 k j a ha (hab ▸ hb))
theorem oHR.new {o' : oObj} (q : oHR Z h n0 ad KT H) (hn0 : n0 ≤ h.size) (E : Ext h h') (hlt : h.size < h'.size) (hn : oOR Z h' (ad ++ [h.size]) KT h.size o') : oHR Z h' n0 (ad ++ [h.size]) KT (H ++ [o']) := by
  have key : ∀ (i b : Nat), (ad ++ [h.size])[i]? = some b → (ad[i]? = some b ∧ i < ad.length) ∨ (i = ad.length ∧ b = h.size) := fun i b hb => by
    by_cases hi : i < ad.length
    · rw [List.getElem?_append_left hi] at hb; exact Or.inl ⟨hb, hi⟩
    · rw [List.getElem?_append_right (Nat.le_of_not_lt hi)] at hb
      obtain ⟨h1, h2⟩ := List.getElem?_eq_some_iff.mp hb
      simp only [List.length_singleton, Nat.lt_one_iff] at h1
      refine Or.inr ⟨by omega, ?_⟩
      simp only [h1, List.getElem_singleton] at h2
      exact h2.symm
  refine ⟨by simp [q.1], fun i j b hi hj => ?_, fun i b hi => ?_, fun j o1 b ho hb => ?_⟩
  · rcases key i b hi with ⟨h1, h1'⟩ | ⟨h1, h2⟩ <;> rcases key j b hj with ⟨g1, g1'⟩ | ⟨g1, g2⟩
    · exact q.2.1 i j b h1 g1
    · have := (q.2.2.1 i b h1).2; omega
    · have := (q.2.2.1 j b g1).2; omega
    · omega
  · rcases key i b hi with ⟨h1, h1'⟩ | ⟨h1, h2⟩
    · have := q.2.2.1 i b h1; omega
    · omega
  · rcases key j b hb with ⟨h1, h1'⟩ | ⟨h1, h2⟩
    · rw [List.getElem?_append_left (by rw [← q.1]; exact h1')] at ho
      exact ((q.2.2.2 j o1 b ho h1).ext E).mono (oPre.snoc _ _)
    · subst h1 h2
      rw [List.getElem?_append_right (by rw [q.1]; exact Nat.le_refl _)] at ho
      have e0 : ad.length - H.length = 0 := by rw [q.1]; omega
      rw [e0] at ho
      cases ho
      exact hn
end Heaps

/-! A4. the machine -/
def oLen : Instr → Nat
  | .iload _ | .istore _ | .aload _ | .astore _ | .lload _ | .lstore _ | .bipush _ | .ldc _ | .newarray _ => 2
  | .sipush _ | .goto _ | .if_icmp _ _ | .ifCond _ _ | .if_acmp _ _ | .ifnull _ | .ifnonnull _ | .getfield _ | .putfield _ | .invokestatic _ | .invokespecial _ | .invokevirtual _ | .new _ | .iinc _ _ | .ldc2_w _ | .checkcast _ | .getstatic _ => 3
  | _ => 1
def oSw : Instr → Bool
  | .lookupswitch _ _ => true
  | _ => false
def oRetI : Instr → Bool
  | .ireturn | .lreturn | .areturn | .return_ => true
  | _ => false
def oJmp (pc : Nat) (o : Int) (ls : Array Slot) (r : List Value) : Option (Nat × Array Slot × List Value) := if 0 ≤ (pc : Int) + o then some (((pc : Int) + o).toNat, ls, r) else none
def oB (f : Int32 → Int32 → Int32) (pc : Nat) (ls : Array Slot) : List Value → Option (Nat × Array Slot × List Value)
  | .int y :: .int x :: r => some (pc + 1, ls, .int (f x y) :: r)
  | _ => none
def oBL (f : Int64 → Int64 → Int64) (pc : Nat) (ls : Array Slot) : List Value → Option (Nat × Array Slot × List Value)
  | .long y :: .long x :: r => some (pc + 1, ls, .long (f x y) :: r)
  | _ => none
def oU (f : Int32 → Int32) (pc : Nat) (ls : Array Slot) : List Value → Option (Nat × Array Slot × List Value)
  | .int x :: r => some (pc + 1, ls, .int (f x) :: r)
  | _ => none
def oLdI (n pc : Nat) (ls : Array Slot) (sk : List Value) (k : Nat) : Option (Nat × Array Slot × List Value) :=
  match ls.toList[k]? with
  | some (.val (.int x)) => some (pc + n, ls, .int x :: sk)
  | _ => none
def oLdL (n pc : Nat) (ls : Array Slot) (sk : List Value) (k : Nat) : Option (Nat × Array Slot × List Value) :=
  match ls.toList[k]? with
  | some (.val (.long x)) => some (pc + n, ls, .long x :: sk)
  | _ => none
def oLdA (n pc : Nat) (ls : Array Slot) (sk : List Value) (k : Nat) : Option (Nat × Array Slot × List Value) :=
  match ls.toList[k]? with
  | some (.val (.ref x)) => some (pc + n, ls, .ref x :: sk)
  | some (.val .null) => some (pc + n, ls, .null :: sk)
  | _ => none
def oStI (n pc : Nat) (ls : Array Slot) (k : Nat) : List Value → Option (Nat × Array Slot × List Value)
  | .int x :: r => (storeLocals ls k (.int x)).map fun l' => (pc + n, l', r)
  | _ => none
def oStL (n pc : Nat) (ls : Array Slot) (k : Nat) : List Value → Option (Nat × Array Slot × List Value)
  | .long x :: r => (storeLocals ls k (.long x)).map fun l' => (pc + n, l', r)
  | _ => none
def oStA (n pc : Nat) (ls : Array Slot) (k : Nat) : List Value → Option (Nat × Array Slot × List Value)
  | .ref x :: r => (storeLocals ls k (.ref x)).map fun l' => (pc + n, l', r)
  | .null :: r => (storeLocals ls k .null).map fun l' => (pc + n, l', r)
  | _ => none
def oC1 (v : Value) : Bool := v.category == 1
/-- the steps that touch neither heap nor calls -/
def oStep1 (CT : List Value) (i : Instr) (p1 pc : Nat) (ls : Array Slot) (sk : List Value) : Option (Nat × Array Slot × List Value) :=
  match i with
  | .iload_n k => oLdI 1 pc ls sk k.val
  | .iload k => oLdI 2 pc ls sk k
  | .lload_n k => oLdL 1 pc ls sk k.val
  | .lload k => oLdL 2 pc ls sk k
  | .aload_n k => oLdA 1 pc ls sk k.val
  | .aload k => oLdA 2 pc ls sk k
  | .istore_n k => oStI 1 pc ls k.val sk
  | .istore k => oStI 2 pc ls k sk
  | .lstore_n k => oStL 1 pc ls k.val sk
  | .lstore k => oStL 2 pc ls k sk
  | .astore_n k => oStA 1 pc ls k.val sk
  | .astore k => oStA 2 pc ls k sk
  | .iinc k n => match ls.toList[k]? with
    | some (.val (.int x)) => (storeLocals ls k (.int (x + Int32.ofInt n))).map fun l' => (pc + 3, l', sk)
    | _ => none
  | .iconst n => some (pc + 1, ls, .int (Int32.ofInt n) :: sk)
  | .bipush n => some (pc + 2, ls, .int (Int8.ofInt n).toInt32 :: sk)
  | .sipush n => some (pc + 3, ls, .int (Int16.ofInt n).toInt32 :: sk)
  | .lconst k => some (pc + 1, ls, .long (Int64.ofNat k) :: sk)
  | .aconst_null => some (pc + 1, ls, .null :: sk)
  | .ldc _ => match CT[p1]? with
    | some (.int x) => some (pc + 2, ls, .int x :: sk)
    | _ => none
  | .ldc2_w _ => match CT[p1]? with
    | some (.long x) => some (pc + 3, ls, .long x :: sk)
    | _ => none
  | .iadd => oB (· + ·) pc ls sk
  | .isub => oB (· - ·) pc ls sk
  | .imul => oB (· * ·) pc ls sk
  | .iand => oB (· &&& ·) pc ls sk
  | .ior => oB (· ||| ·) pc ls sk
  | .ixor => oB (· ^^^ ·) pc ls sk
  | .ishl => oB (fun x y => x <<< (y &&& 31)) pc ls sk
  | .ishr => oB (fun x y => x >>> (y &&& 31)) pc ls sk
  | .iushr => oB XT.ushr pc ls sk
  | .ladd => oBL (· + ·) pc ls sk
  | .lsub => oBL (· - ·) pc ls sk
  | .lmul => oBL (· * ·) pc ls sk
  | .land => oBL (· &&& ·) pc ls sk
  | .idiv => match sk with
    | .int y :: .int x :: r => if y = 0 then none else some (pc + 1, ls, .int (x / y) :: r)
    | _ => none
  | .irem => match sk with
    | .int y :: .int x :: r => if y = 0 then none else some (pc + 1, ls, .int (x % y) :: r)
    | _ => none
  | .ldiv => match sk with
    | .long y :: .long x :: r => if y = 0 then none else some (pc + 1, ls, .long (x / y) :: r)
    | _ => none
  | .lshr => match sk with
    | .int y :: .long x :: r => some (pc + 1, ls, .long (x >>> (y &&& 0x3f).toInt64) :: r)
    | _ => none
  | .lcmp => match sk with
    | .long y :: .long x :: r => some (pc + 1, ls, .int (XT.cmpL x y) :: r)
    | _ => none
  | .i2c => oU (fun x => x.toUInt32.toUInt16.toUInt32.toInt32) pc ls sk
  | .i2b => oU (fun x => x.toInt8.toInt32) pc ls sk
  | .i2l => match sk with
    | .int x :: r => some (pc + 1, ls, .long x.toInt64 :: r)
    | _ => none
  | .l2i => match sk with
    | .long x :: r => some (pc + 1, ls, .int x.toInt32 :: r)
    | _ => none
  | .dup => match sk with
    | x :: r => if oC1 x then some (pc + 1, ls, x :: x :: r) else none
    | _ => none
  | .pop => match sk with
    | x :: r => if oC1 x then some (pc + 1, ls, r) else none
    | _ => none
  | .dup_x1 => match sk with
    | x :: y :: r => if oC1 x && oC1 y then some (pc + 1, ls, x :: y :: x :: r) else none
    | _ => none
  | .dup2 => match sk with
    | x :: y :: r => if oC1 x && oC1 y then some (pc + 1, ls, x :: y :: x :: y :: r) else none
    | _ => none
  | .dup_x2 => match sk with
    | x :: y :: z :: r => if oC1 x && (oC1 y && oC1 z) then some (pc + 1, ls, x :: y :: z :: x :: r) else none
    | _ => none
  | .checkcast _ => match sk with
    | .null :: r => some (pc + 3, ls, .null :: r)
    | _ => none
  | .goto o => oJmp pc o ls sk
  | .ifCond cd o => match sk with
    | .int x :: r => if ifCond.holds cd x = true then oJmp pc o ls r else some (pc + 3, ls, r)
    | _ => none
  | .if_icmp cd o => match sk with
    | .int y :: .int x :: r => if if_icmp.holds cd x y = true then oJmp pc o ls r else some (pc + 3, ls, r)
    | _ => none
  | .lookupswitch dflt prs => match sk with
    | .int x :: r => if (prs.toList.zip (prs.toList.drop 1)).all (fun q => decide (q.1.1 < q.2.1)) = true then oJmp pc (lookupswitch.offset prs.toList dflt x.toInt) ls r else none
    | _ => none
  | _ => none
def oFit : FieldType → Value → Bool
  | .boolean, .int _ | .byte, .int _ | .char, .int _ | .short, .int _ | .int, .int _ | .long, .long _ => true
  | .object _, .null | .object _, .ref _ | .array _, .null | .array _, .ref _ => true
  | _, _ => false
def oIn (j : Int32) (n : Nat) : Bool := !decide (j < 0) && decide (j.toNatClampNeg < n)
/-- the steps on the heap -/
def oStep2 (KT : List oKl) (R : Jvm.Room) (i : Instr) (p1 p2 pc : Nat) (sk : List Value) (H : List oObj) (cells slots : Nat) : Option (Nat × List Value × List oObj × Nat × Nat) :=
  match i with
  | .getfield _ => match sk with
    | .ref k :: r => match H[k]? with
      | some (.inl (c, vs)) => if c = p1 then (match vs[p2]? with
        | some v => some (pc + 3, v :: r, H, cells, slots)
        | none => none) else none
      | _ => none
    | _ => none
  | .putfield _ => match sk with
    | v :: .ref k :: r => match H[k]? with
      | some (.inl (c, vs)) => (match KT[p1]? with
        | some (_, _, fs) => (match fs[p2]? with
          | some (_, _, ty, _) => if c = p1 ∧ p2 < vs.length ∧ oFit ty v = true then some (pc + 3, r, H.set k (.inl (c, vs.set p2 (narrow ty v))), cells, slots) else none
          | none => none)
        | none => none)
      | _ => none
    | _ => none
  | .new _ => match KT[p1]? with
    | some (_, n, fs) => if cells + 1 ≤ R.cells ∧ slots + n ≤ R.slots then some (pc + 3, .ref H.length :: sk, H ++ [.inl (p1, fs.map fun f => defaultValue f.2.2.1)], cells + 1, slots + n) else none
    | none => none
  | .newarray t => match sk with
    | .int n :: r => if (t = .int ∨ t = .boolean) ∧ ¬ n < 0 ∧ n.toNatClampNeg * 8 ≤ 536870912 ∧ cells + 1 ≤ R.cells ∧ slots + n.toNatClampNeg ≤ R.slots then some (pc + 2, .ref H.length :: r, H ++ [.inr (newarray.typeOf t, List.replicate n.toNatClampNeg 0)], cells + 1, slots + n.toNatClampNeg) else none
    | _ => none
  | .arraylength => match sk with
    | .ref k :: r => match H[k]? with
      | some (.inr (_, vs)) => some (pc + 1, .int vs.length.toInt32 :: r, H, cells, slots)
      | _ => none
    | _ => none
  | .iaload => match sk with
    | .int j :: .ref k :: r => match H[k]? with
      | some (.inr (.int, vs)) => if j < 0 then none else (match vs[j.toNatClampNeg]? with
        | some x => some (pc + 1, .int x :: r, H, cells, slots)
        | none => none)
      | _ => none
    | _ => none
  | .baload => match sk with
    | .int j :: .ref k :: r => match H[k]? with
      | some (.inr (.boolean, vs)) => if j < 0 then none else (match vs[j.toNatClampNeg]? with
        | some x => some (pc + 1, .int x :: r, H, cells, slots)
        | none => none)
      | _ => none
    | _ => none
  | .iastore => match sk with
    | .int x :: .int j :: .ref k :: r => match H[k]? with
      | some (.inr (.int, vs)) => if oIn j vs.length = true then some (pc + 1, r, H.set k (.inr (.int, vs.set j.toNatClampNeg x)), cells, slots) else none
      | _ => none
    | _ => none
  | .bastore => match sk with
    | .int x :: .int j :: .ref k :: r => match H[k]? with
      | some (.inr (.boolean, vs)) => if oIn j vs.length = true then some (pc + 1, r, H.set k (.inr (.boolean, vs.set j.toNatClampNeg (x &&& 1))), cells, slots) else none
      | _ => none
    | _ => none
  | _ => none
def oCatS (sk : List Value) : Nat := (sk.map fun v => v.category).sum
/-- the calls -/
def oStep3 (KT : List oKl) (MT : List oMt) (callf : oCf) (R : Jvm.Room) (mx : Nat) (i : Instr) (p1 p2 pc : Nat) (ls : Array Slot) (sk : List Value) (H : List oObj) (cells slots : Nat) : Option (Nat × List Value × List oObj × Nat × Nat) :=
  match i with
  | .invokestatic _ => if p2 = 2 then (match sk with
      | .int nn :: .int dp :: .ref b :: .int sp :: .ref a :: r => (match H[a]? with
        | some (.inr (.int, vs)) => (match H[b]? with
          | some (.inr (.int, vd)) => if ls.size = mx ∧ ¬ sp < 0 ∧ ¬ dp < 0 ∧ ¬ nn < 0 ∧ sp.toNatClampNeg + nn.toNatClampNeg ≤ vs.length ∧ dp.toNatClampNeg + nn.toNatClampNeg ≤ vd.length ∧ vs.length < 2147483648 ∧ vd.length < 2147483648 ∧ 1 ≤ R.frames ∧ oCatS r + 18 ≤ R.locals then
              some (pc + 3, r, H.set b (.inr (.int, vd.take dp.toNatClampNeg ++ (vs.drop sp.toNatClampNeg).take nn.toNatClampNeg ++ vd.drop (dp.toNatClampNeg + nn.toNatClampNeg))), cells, slots) else none
          | _ => none)
        | _ => none)
      | _ => none)
    else (match MT[p1]? with
    | some (_, _, maxL, _, rm, n) =>
      if ls.size = mx ∧ n ≤ sk.length ∧ rm.frames + 1 ≤ R.frames ∧ oCatS (sk.drop n) + (maxL + 11) + rm.locals ≤ R.locals ∧ cells + rm.cells ≤ R.cells ∧ slots + rm.slots ≤ R.slots then
        (match callf p1 (sk.take n).reverse H with
        | some (v, H') => some (pc + 3, v.toList ++ sk.drop n, H', cells + rm.cells, slots + rm.slots)
        | none => none)
      else none
    | none => none)
  | .invokespecial _ =>
    if p2 = 1 then (match sk with
      | .ref _ :: r => if ls.size = mx ∧ 1 ≤ R.frames ∧ oCatS r + 12 ≤ R.locals then some (pc + 3, r, H, cells, slots) else none
      | _ => none)
    else (match MT[p1]? with
    | some (_, _, maxL, _, rm, n) => (match sk.drop n with
      | .ref k :: r =>
        if ls.size = mx ∧ rm.frames + 1 ≤ R.frames ∧ oCatS r + (maxL + 11) + rm.locals ≤ R.locals ∧ cells + rm.cells ≤ R.cells ∧ slots + rm.slots ≤ R.slots then
          (match callf p1 (.ref k :: (sk.take n).reverse) H with
          | some (v, H') => some (pc + 3, v.toList ++ r, H', cells + rm.cells, slots + rm.slots)
          | none => none)
        else none
      | _ => none)
    | none => none)
  | .invokevirtual _ => match MT[p1]? with
    | some (_, _, maxL, _, rm, n) => (match sk.drop n with
      | .ref k :: r => (match H[k]? with
        | some (.inl (c, _)) =>
          if c = p2 ∧ ls.size = mx ∧ rm.frames + 1 ≤ R.frames ∧ oCatS r + (maxL + 11) + rm.locals ≤ R.locals ∧ cells + rm.cells ≤ R.cells ∧ slots + rm.slots ≤ R.slots then
            (match callf p1 (.ref k :: (sk.take n).reverse) H with
            | some (v, H') => some (pc + 3, v.toList ++ r, H', cells + rm.cells, slots + rm.slots)
            | none => none)
          else none
        | _ => none)
      | _ => none)
    | none => none
  | _ => none
def oFetch : List oOp → Nat → Option (Instr × Nat × Nat)
  | [], _ => none
  | (q, r) :: t, pc => match Nat.beq q pc with
    | true => some r
    | false => oFetch t pc
def oStep (KT : List oKl) (CT : List Value) (MT : List oMt) (callf : oCf) (R : Jvm.Room) (mx : Nat) (op : Instr × Nat × Nat) : oSt → Option oSt
  | (pc, ls, sk, H, cells, slots) =>
    match oStep1 CT op.1 op.2.1 pc ls sk with
    | some (pc', ls', sk') => some (pc', ls', sk', H, cells, slots)
    | none => match oStep2 KT R op.1 op.2.1 op.2.2 pc sk H cells slots with
      | some (pc', sk', H', c', s') => some (pc', ls, sk', H', c', s')
      | none => match oStep3 KT MT callf R mx op.1 op.2.1 op.2.2 pc ls sk H cells slots with
        | some (pc', sk', H', c', s') => some (pc', ls, sk', H', c', s')
        | none => none
/-- runs till a return stands next, or the fuel is out -/
def oRun (KT : List oKl) (CT : List Value) (MT : List oMt) (callf : oCf) (R : Jvm.Room) (mx : Nat) (ops : List oOp) : Nat → oSt → Option oSt
  | 0, st => some st
  | n + 1, st => match oFetch ops st.1 with
    | none => none
    | some op => if oRetI op.1 = true then some st else match oStep KT CT MT callf R mx op st with
      | none => none
      | some st' => oRun KT CT MT callf R mx ops n st'
def oNar (rt : Option FieldType) (v : Value) : Bool := match rt with
  | some .int => true
  | some t => decide (narrow t v = v)
  | none => false
def oIntT (rt : Option FieldType) : Bool := match rt with
  | some .int | some .boolean | some .byte | some .char | some .short => true
  | _ => false
def oRefT (rt : Option FieldType) : Bool := match rt with
  | some t => t.isReference
  | _ => false
/-- what is returned where a return stands next -/
def oRet (q : oMt) (ops : List oOp) : oSt → Option (Option Value × List oObj)
  | (pc, _, sk, H, cells, slots) => if cells ≤ q.2.2.2.2.1.cells ∧ slots ≤ q.2.2.2.2.1.slots then (match oFetch ops pc with
    | some (.return_, _) => (match q.2.2.2.1, sk with
      | none, [] => some (none, H)
      | _, _ => none)
    | some (.ireturn, _) => (match sk with
      | .int x :: _ => if oIntT q.2.2.2.1 = true ∧ oNar q.2.2.2.1 (.int x) = true then some (some (.int x), H) else none
      | _ => none)
    | some (.lreturn, _) => (match sk with
      | .long x :: _ => if q.2.2.2.1 = some .long then some (some (.long x), H) else none
      | _ => none)
    | some (.areturn, _) => (match sk with
      | .ref k :: _ => if oRefT q.2.2.2.1 = true then some (some (.ref k), H) else none
      | .null :: _ => if oRefT q.2.2.2.1 = true then some (some .null, H) else none
      | _ => none)
    | _ => none) else none
def oBody (KT : List oKl) (CT : List Value) (MT : List oMt) (callf : oCf) (q : oMt) (ops : List oOp) (fuel : Nat) (vs : List Value) (H : List oObj) : Option (Option Value × List oObj) :=
  match oRun KT CT MT callf q.2.2.2.2.1 q.2.2.1 ops fuel (0, argsToLocals vs.toArray q.2.2.1, [], H, 0, 0) with
  | some st => oRet q ops st
  | none => none

/-! A5. what is asked of the tables, by program -/
def oHas (ws : List Jvm.Cond) (d : Jvm.Cond) : Bool := decide (d ∈ ws)
def oKOk (ws : List Jvm.Cond) (q : oKl) : Bool :=
  oHas ws (.instantiable q.1 q.2.1) && oHas ws (.initialized q.1) && q.2.2.all (fun f => oHas ws (if f.2.2.2 then .laysFinal q.1 q.1 f.1 f.2.1 else .lays q.1 q.1 f.1 f.2.1) && decide (parseFieldDescriptor f.2.1 = some f.2.2.1) && (match f.2.2.1 with | .float => false | .double => false | _ => true)) &&
    decide ((q.2.2.map (·.1)).Nodup)
def oNm (z : MethodName) (n : Nat) : Bool := decide (z.cls ≠ "java/lang/invoke/MethodHandle") && decide (z.cls ≠ "java/lang/invoke/VarHandle") && (match parseMethodDescriptor z.desc with | some sig => decide (sig.parameters.length = n) | none => false)
def oOpOk (ws : List Jvm.Cond) (KT : List oKl) (CT : List Value) (MT : List oMt) (y : MethodName) (bytes : ByteArray) (op : oOp) : Bool :=
  (match decode bytes op.1 with
  | .ok (i, n) => decide (i = op.2.1) && (decide (n = oLen op.2.1) || oSw op.2.1)
  | .error _ => false) &&
  (match op.2.1 with
  | .ldc j => (match CT[op.2.2.1]? with
    | some (.int x) => oHas ws (.constant y.cls j x)
    | _ => true)
  | .ldc2_w j => (match CT[op.2.2.1]? with
    | some (.long x) => oHas ws (.constantLong y.cls j x)
    | _ => true)
  | .getfield j => (match KT[op.2.2.1]? with
    | some (C, _, fs) => (match fs[op.2.2.2]? with
      | some (n, d, _, _) => oHas ws (.fieldLink y.cls j C n d)
      | none => true)
    | none => true)
  | .putfield j => (match KT[op.2.2.1]? with
    | some (C, _, fs) => (match fs[op.2.2.2]? with
      | some (n, d, _, fin) => oHas ws (.fieldLink y.cls j C n d) && (!fin || (decide (y.cls = C) && decide (y.name = "<init>")))
      | none => true)
    | none => true)
  | .new j => (match KT[op.2.2.1]? with
    | some (C, _, _) => oHas ws (.classLink y.cls j C)
    | none => true)
  | .newarray t => oHas ws (.arrayClass (newarray.typeOf t))
  | .invokestatic j => if op.2.2.2 = 2 then oHas ws (.methodLink y.cls j Jvm.Stand.acN) && oHas ws (.native Jvm.Stand.acN) && oHas ws (.static Jvm.Stand.acN) && oHas ws (.initialized "java/lang/System") else (match MT[op.2.2.1]? with
    | some (z, b, ml, rt, _, n) => oHas ws (.methodLink y.cls j z) && oHas ws (.static z) && oHas ws (.initialized z.cls) && oHas ws (.code z b ml rt) && oNm z n
    | none => true)
  | .invokespecial j => if op.2.2.2 = 1 then oHas ws (.methodLink y.cls j Lib.objectInit) && oHas ws (.instanceMethod Lib.objectInit) && oHas ws (.code Lib.objectInit ⟨#[0xb1]⟩ 1 none) else (match MT[op.2.2.1]? with
    | some (z, b, ml, rt, _, n) => decide (z.name = "<init>") && decide (rt = none) && oHas ws (.methodLink y.cls j z) && oHas ws (.instanceMethod z) && oHas ws (.initialized z.cls) && oHas ws (.code z b ml none) && oNm z n
    | none => true)
  | .invokevirtual j => (match MT[op.2.2.1]?, KT[op.2.2.2]? with
    | some (z, b, ml, rt, _, n), some (C, _, _) => oHas ws (.methodLink y.cls j z) && oHas ws (.declares z) && oHas ws (.selects C z z) && oHas ws (.instanceMethod z) && oHas ws (.initialized z.cls) && oHas ws (.code z b ml rt) && oNm z n
    | _, _ => true)
  | _ => true)

/-! A6. the model follows the machine: one step -/
section Sound
variable {p : Program} {l : Launch} {e : Env} {R : Jvm.Room} {s : State} {m : MethodId} {args : Array Value} {below : List Frame} {meth : Method} {c : Code} {T : State} {locs : List Loc} {cells slots : Nat} {Z : State} {a0 : Array Value} {n0 : Nat}
  {ws : List Jvm.Cond} {KT : List oKl} {CT : List Value} {MT : List oMt} {ad : List Addr} {own : String} {pc pc' : Nat} {ls ls' Ls : Array Slot} {sk sk' ST : List Value}
def oN1 (p : Program) (e : Env) (below : List Frame) (m : MethodId) (T : State) (ad : List Addr) (pc : Nat) (Ls : Array Slot) (ST : List Value) (q : Nat × Array Slot × List Value) : Prop :=
  ∃ Ls' ST', oLR ad q.2.1 Ls' ∧ oKR ad q.2.2 ST' ∧ ∀ target, Steps p.tables e below (T.setTop (mkF m q.1 Ls' ST')) target → Steps p.tables e below (T.setTop (mkF m pc Ls ST)) target
variable {q : Nat × Array Slot × List Value}
theorem oB_ok {f : Int32 → Int32 → Int32} (law : ∀ (x y : Int32) (r : List Value) (t : State), Steps p.tables e below (T.setTop (mkF m (pc + 1) Ls (.int (f x y) :: r))) t → Steps p.tables e below (T.setTop (mkF m pc Ls (.int y :: .int x :: r))) t)
    (hl : oLR ad ls Ls) (hk : oKR ad sk ST) (h : oB f pc ls sk = some q) : oN1 p e below m T ad pc Ls ST q := by
  unfold oB at h
  split at h
  · obtain ⟨_, _, rfl, rfl, _, _, rfl, rfl, hr⟩ := hk
    cases h
    exact ⟨Ls, _, hl, ⟨_, _, rfl, rfl, hr⟩, fun t k => law _ _ _ t k⟩
  · cases h
theorem oBL_ok {f : Int64 → Int64 → Int64} (law : ∀ (x y : Int64) (r : List Value) (t : State), Steps p.tables e below (T.setTop (mkF m (pc + 1) Ls (.long (f x y) :: r))) t → Steps p.tables e below (T.setTop (mkF m pc Ls (.long y :: .long x :: r))) t)
    (hl : oLR ad ls Ls) (hk : oKR ad sk ST) (h : oBL f pc ls sk = some q) : oN1 p e below m T ad pc Ls ST q := by
  unfold oBL at h
  split at h
  · obtain ⟨_, _, rfl, rfl, _, _, rfl, rfl, hr⟩ := hk
    cases h
    exact ⟨Ls, _, hl, ⟨_, _, rfl, rfl, hr⟩, fun t k => law _ _ _ t k⟩
  · cases h
theorem oU_ok {f : Int32 → Int32} (law : ∀ (x : Int32) (r : List Value) (t : State), Steps p.tables e below (T.setTop (mkF m (pc + 1) Ls (.int (f x) :: r))) t → Steps p.tables e below (T.setTop (mkF m pc Ls (.int x :: r))) t)
    (hl : oLR ad ls Ls) (hk : oKR ad sk ST) (h : oU f pc ls sk = some q) : oN1 p e below m T ad pc Ls ST q := by
  unfold oU at h
  split at h
  · obtain ⟨_, _, rfl, rfl, hr⟩ := hk
    cases h
    exact ⟨Ls, _, hl, ⟨_, _, rfl, rfl, hr⟩, fun t k => law _ _ t k⟩
  · cases h
theorem oLdI_ok {n k : Nat} (law : ∀ (x : Int32) (t : State), Ls[k]? = some (.val (.int x)) → Steps p.tables e below (T.setTop (mkF m (pc + n) Ls (.int x :: ST))) t → Steps p.tables e below (T.setTop (mkF m pc Ls ST)) t)
    (hl : oLR ad ls Ls) (hk : oKR ad sk ST) (h : oLdI n pc ls sk k = some q) : oN1 p e below m T ad pc Ls ST q := by
  unfold oLdI at h
  split at h
  · rename_i hq
    obtain ⟨_, h1, rfl⟩ := hl.ld hq
    cases h
    exact ⟨Ls, _, hl, ⟨_, _, rfl, rfl, hk⟩, fun t k => law _ t h1 k⟩
  · cases h
theorem oLdL_ok {n k : Nat} (law : ∀ (x : Int64) (t : State), Ls[k]? = some (.val (.long x)) → Steps p.tables e below (T.setTop (mkF m (pc + n) Ls (.long x :: ST))) t → Steps p.tables e below (T.setTop (mkF m pc Ls ST)) t)
    (hl : oLR ad ls Ls) (hk : oKR ad sk ST) (h : oLdL n pc ls sk k = some q) : oN1 p e below m T ad pc Ls ST q := by
  unfold oLdL at h
  split at h
  · rename_i hq
    obtain ⟨_, h1, rfl⟩ := hl.ld hq
    cases h
    exact ⟨Ls, _, hl, ⟨_, _, rfl, rfl, hk⟩, fun t k => law _ t h1 k⟩
  · cases h
theorem oLdA_ok {n k : Nat} (law : ∀ (v : Value) (t : State), v.isRef = true → Ls[k]? = some (.val v) → Steps p.tables e below (T.setTop (mkF m (pc + n) Ls (v :: ST))) t → Steps p.tables e below (T.setTop (mkF m pc Ls ST)) t)
    (hl : oLR ad ls Ls) (hk : oKR ad sk ST) (h : oLdA n pc ls sk k = some q) : oN1 p e below m T ad pc Ls ST q := by
  unfold oLdA at h
  split at h
  · rename_i hq
    obtain ⟨_, h1, a, h2, rfl⟩ := hl.ld hq
    cases h
    exact ⟨Ls, _, hl, ⟨_, _, rfl, ⟨a, h2, rfl⟩, hk⟩, fun t k => law _ t rfl h1 k⟩
  · rename_i hq
    obtain ⟨_, h1, rfl⟩ := hl.ld hq
    cases h
    exact ⟨Ls, _, hl, ⟨_, _, rfl, rfl, hk⟩, fun t k => law _ t rfl h1 k⟩
  · cases h
theorem oStI_ok {n k : Nat} (law : ∀ (x : Int32) (r : List Value) (l' : Array Slot) (t : State), storeLocals Ls k (.int x) = some l' → Steps p.tables e below (T.setTop (mkF m (pc + n) l' r)) t → Steps p.tables e below (T.setTop (mkF m pc Ls (.int x :: r))) t)
    (hl : oLR ad ls Ls) (hk : oKR ad sk ST) (h : oStI n pc ls k sk = some q) : oN1 p e below m T ad pc Ls ST q := by
  unfold oStI at h
  split at h
  · obtain ⟨_, _, rfl, rfl, hr⟩ := hk
    obtain ⟨l1, e1, rfl⟩ := Option.map_eq_some_iff.mp h
    obtain ⟨c1, e2, r1⟩ := hl.store (show oVR ad (.int _) (.int _) from rfl) e1
    exact ⟨c1, _, r1, hr, fun t k => law _ _ _ t e2 k⟩
  · cases h
theorem oStL_ok {n k : Nat} (law : ∀ (x : Int64) (r : List Value) (l' : Array Slot) (t : State), storeLocals Ls k (.long x) = some l' → Steps p.tables e below (T.setTop (mkF m (pc + n) l' r)) t → Steps p.tables e below (T.setTop (mkF m pc Ls (.long x :: r))) t)
    (hl : oLR ad ls Ls) (hk : oKR ad sk ST) (h : oStL n pc ls k sk = some q) : oN1 p e below m T ad pc Ls ST q := by
  unfold oStL at h
  split at h
  · obtain ⟨_, _, rfl, rfl, hr⟩ := hk
    obtain ⟨l1, e1, rfl⟩ := Option.map_eq_some_iff.mp h
    obtain ⟨c1, e2, r1⟩ := hl.store (show oVR ad (.long _) (.long _) from rfl) e1
    exact ⟨c1, _, r1, hr, fun t k => law _ _ _ t e2 k⟩
  · cases h
theorem oStA_ok {n k : Nat} (law : ∀ (v : Value) (r : List Value) (l' : Array Slot) (t : State), v.isRef = true → storeLocals Ls k v = some l' → Steps p.tables e below (T.setTop (mkF m (pc + n) l' r)) t → Steps p.tables e below (T.setTop (mkF m pc Ls (v :: r))) t)
    (hl : oLR ad ls Ls) (hk : oKR ad sk ST) (h : oStA n pc ls k sk = some q) : oN1 p e below m T ad pc Ls ST q := by
  unfold oStA at h
  split at h
  · obtain ⟨_, _, rfl, ⟨a, ha, rfl⟩, hr⟩ := hk
    obtain ⟨l1, e1, rfl⟩ := Option.map_eq_some_iff.mp h
    obtain ⟨c1, e2, r1⟩ := hl.store (show oVR ad (.ref _) (.ref a) from ⟨a, ha, rfl⟩) e1
    exact ⟨c1, _, r1, hr, fun t k => law _ _ _ t rfl e2 k⟩
  · obtain ⟨_, _, rfl, rfl, hr⟩ := hk
    obtain ⟨l1, e1, rfl⟩ := Option.map_eq_some_iff.mp h
    obtain ⟨c1, e2, r1⟩ := hl.store (show oVR ad .null .null from rfl) e1
    exact ⟨c1, _, r1, hr, fun t k => law _ _ _ t rfl e2 k⟩
  · cases h
theorem oJmp_ok {o : Int} {r rs : List Value} (law : ∀ t, 0 ≤ (pc : Int) + o → Steps p.tables e below (T.setTop (mkF m ((pc : Int) + o).toNat Ls rs)) t → Steps p.tables e below (T.setTop (mkF m pc Ls ST)) t)
    (hl : oLR ad ls Ls) (hr : oKR ad r rs) (h : oJmp pc o ls r = some q) : oN1 p e below m T ad pc Ls ST q := by
  unfold oJmp at h
  split at h
  · rename_i ho
    cases h
    exact ⟨Ls, _, hl, hr, fun t k => law t ho k⟩
  · cases h
theorem oC1_cat {v w : Value} (h : oC1 v = true) (hv : oVR ad v w) : w.category = 1 := by rw [hv.cat]; simpa [oC1] using h
/-- two laws of our own -/
theorem oDupX2 (X : Stand p l e R s m args below meth c T locs cells slots) (hx : p.tables.exec = Jvm.exec) {g : JFrame} (hg : g.method = m) {x y z : Value} {rest : List Value} (hd : decode c.code g.pc = .ok (.dup_x2, 1)) (hs : g.stack = x :: y :: z :: rest) (h1 : x.category = 1) (h2 : y.category = 1) (h3 : z.category = 1) {target : State}
    (hr : Steps p.tables e below (T.setTop { g with pc := g.pc + 1, stack := x :: y :: z :: x :: rest }) target) : Steps p.tables e below (T.setTop g) target := by
  subst hg
  jvm_step X.here [X.here.top, hx, hd, hs, h1, h2, h3, dup_x2.sem]
  exact hr
theorem oLsw (X : Stand p l e R s m args below meth c T locs cells slots) (hx : p.tables.exec = Jvm.exec) {g : JFrame} (hg : g.method = m) {x : Int32} {rest : List Value} {dflt : Int} {prs : Array (Int × Int)} {n : Nat} (hd : decode c.code g.pc = .ok (.lookupswitch dflt prs, n)) (hs : g.stack = .int x :: rest)
    (hp : (prs.toList.zip (prs.toList.drop 1)).all (fun q => decide (q.1.1 < q.2.1)) = true) (ho : 0 ≤ (g.pc : Int) + lookupswitch.offset prs.toList dflt x.toInt) {target : State}
    (hr : Steps p.tables e below (T.setTop { g with pc := ((g.pc : Int) + lookupswitch.offset prs.toList dflt x.toInt).toNat, stack := rest }) target) : Steps p.tables e below (T.setTop g) target := by
  subst hg
  jvm_step X.here [X.here.top, hx, hd, hs, lookupswitch.wp_chain, hp, ho]
  exact ⟨by simpa using hp, hr⟩
theorem oStep1_ok (X : Stand p l e R s m args below meth c T locs cells slots) (hx : p.tables.exec = Jvm.exec) (hZ : Z.Warmed39 s.vm) (hown : s.vm.findClass own = some m.cls) (hw : ∀ d ∈ ws, d.before a0 Z = true) {i : Instr} {p1 : Nat}
    (hd : ∃ n, decode c.code pc = .ok (i, n) ∧ (n = oLen i ∨ oSw i = true)) (hc : ∀ j, i = .ldc j → ∀ x, CT[p1]? = some (.int x) → (Jvm.Cond.constant own j x) ∈ ws) (hc2 : ∀ j, i = .ldc2_w j → ∀ x, CT[p1]? = some (.long x) → (Jvm.Cond.constantLong own j x) ∈ ws)
    (hl : oLR ad ls Ls) (hk : oKR ad sk ST) (h : oStep1 CT i p1 pc ls sk = some q) : oN1 p e below m T ad pc Ls ST q := by
  obtain ⟨n, hd, hn⟩ := hd
  cases i
  case lookupswitch dflt prs =>
    simp only [oStep1] at h
    split at h
    · obtain ⟨_, _, rfl, rfl, hr⟩ := hk
      split at h
      · rename_i hp
        exact oJmp_ok (fun t ho k => oLsw X hx (g := mkF m pc Ls _) rfl hd rfl hp ho k) hl hr h
      · cases h
    · cases h
  all_goals (have hn' := hn.resolve_right (fun q => Bool.false_ne_true q); subst hn')
  case iload_n k => exact oLdI_ok (fun x t h1 k => XS.iloadN X.here hx rfl hd h1 k) hl hk h
  case iload k => exact oLdI_ok (fun x t h1 k => XS.iload X.here hx rfl hd h1 k) hl hk h
  case lload_n k => exact oLdL_ok (fun x t h1 k => XS.lloadN X.here hx rfl hd h1 k) hl hk h
  case lload k => exact oLdL_ok (fun x t h1 k => XS.lload X.here hx rfl hd h1 k) hl hk h
  case aload_n k => exact oLdA_ok (fun v t hv h1 k => XS.aloadN X.here hx rfl hd h1 hv k) hl hk h
  case aload k => exact oLdA_ok (fun v t hv h1 k => XS.aload X.here hx rfl hd h1 hv k) hl hk h
  case istore_n k => exact oStI_ok (fun x r l' t h1 k => XS.istoreN X.here hx rfl hd rfl h1 k) hl hk h
  case istore k => exact oStI_ok (fun x r l' t h1 k => XS.istore X.here hx rfl hd rfl h1 k) hl hk h
  case lstore_n k => exact oStL_ok (fun x r l' t h1 k => XS.lstoreN X.here hx rfl hd rfl h1 k) hl hk h
  case lstore k => exact oStL_ok (fun x r l' t h1 k => XS.lstore X.here hx rfl hd rfl h1 k) hl hk h
  case astore_n k => exact oStA_ok (fun v r l' t hv h1 k => XS.astoreN X.here hx rfl hd rfl hv h1 k) hl hk h
  case astore k => exact oStA_ok (fun v r l' t hv h1 k => XS.astore X.here hx rfl hd rfl hv h1 k) hl hk h
  case iinc k n =>
    simp only [oStep1] at h
    split at h
    · rename_i hq
      obtain ⟨_, h1, rfl⟩ := hl.ld hq
      obtain ⟨l1, e1, rfl⟩ := Option.map_eq_some_iff.mp h
      obtain ⟨c1, e2, r1⟩ := hl.store (show oVR ad (.int _) (.int _) from rfl) e1
      exact ⟨c1, _, r1, hk, fun t k => XS.iinc X.here hx rfl hd h1 e2 k⟩
    · cases h
  case iconst n => cases h; exact ⟨Ls, _, hl, ⟨_, _, rfl, rfl, hk⟩, fun t k => XS.iconst X.here hx rfl hd k⟩
  case bipush n => cases h; exact ⟨Ls, _, hl, ⟨_, _, rfl, rfl, hk⟩, fun t k => XS.bipush X.here hx rfl hd k⟩
  case sipush n => cases h; exact ⟨Ls, _, hl, ⟨_, _, rfl, rfl, hk⟩, fun t k => XS.sipush X.here hx rfl hd k⟩
  case lconst n => cases h; exact ⟨Ls, _, hl, ⟨_, _, rfl, rfl, hk⟩, fun t k => XT.lconst X.here hx rfl hd k⟩
  case aconst_null => cases h; exact ⟨Ls, _, hl, ⟨_, _, rfl, rfl, hk⟩, fun t k => XS.aconstNull X.here hx rfl hd k⟩
  case ldc j =>
    simp only [oStep1] at h
    split at h
    · rename_i hq
      cases h
      exact ⟨Ls, _, hl, ⟨_, _, rfl, rfl, hk⟩, fun t k => X.ldcInt hx hown (mvT hZ (hw _ (hc _ rfl _ hq))) (g := mkF m pc Ls ST) rfl hd t k⟩
    · cases h
  case ldc2_w j =>
    simp only [oStep1] at h
    split at h
    · rename_i hq
      cases h
      exact ⟨Ls, _, hl, ⟨_, _, rfl, rfl, hk⟩, fun t k => X.ldc2Long hx hown (mvT hZ (hw _ (hc2 _ rfl _ hq))) (g := mkF m pc Ls ST) rfl hd t k⟩
    · cases h
  case iadd => exact oB_ok (fun x y r t k => XS.iadd X.here hx rfl hd rfl k) hl hk h
  case isub => exact oB_ok (fun x y r t k => XS.isub X.here hx rfl hd rfl k) hl hk h
  case imul => exact oB_ok (fun x y r t k => XS.imul X.here hx rfl hd rfl k) hl hk h
  case iand => exact oB_ok (fun x y r t k => XS.iand X.here hx rfl hd rfl k) hl hk h
  case ior => exact oB_ok (fun x y r t k => XT.ior X.here hx rfl hd rfl k) hl hk h
  case ixor => exact oB_ok (fun x y r t k => XT.ixor X.here hx rfl hd rfl k) hl hk h
  case ishl => exact oB_ok (fun x y r t k => XT.ishl X.here hx rfl hd rfl k) hl hk h
  case ishr => exact oB_ok (fun x y r t k => XT.ishr X.here hx rfl hd rfl k) hl hk h
  case iushr => exact oB_ok (fun x y r t k => XT.iushr X.here hx rfl hd rfl k) hl hk h
  case ladd => exact oBL_ok (fun x y r t k => XT.ladd X.here hx rfl hd rfl k) hl hk h
  case lsub => exact oBL_ok (fun x y r t k => XT.lsub X.here hx rfl hd rfl k) hl hk h
  case lmul => exact oBL_ok (fun x y r t k => XT.lmul X.here hx rfl hd rfl k) hl hk h
  case land => exact oBL_ok (fun x y r t k => XT.land X.here hx rfl hd rfl k) hl hk h
  case idiv =>
    simp only [oStep1] at h
    split at h
    · obtain ⟨_, _, rfl, rfl, _, _, rfl, rfl, hr⟩ := hk
      split at h
      · cases h
      · rename_i hy
        cases h
        exact ⟨Ls, _, hl, ⟨_, _, rfl, rfl, hr⟩, fun t k => XS.idiv X.here hx rfl hd rfl hy k⟩
    · cases h
  case irem =>
    simp only [oStep1] at h
    split at h
    · obtain ⟨_, _, rfl, rfl, _, _, rfl, rfl, hr⟩ := hk
      split at h
      · cases h
      · rename_i hy
        cases h
        exact ⟨Ls, _, hl, ⟨_, _, rfl, rfl, hr⟩, fun t k => iremM X hx (g := mkF m pc Ls _) rfl hd rfl hy k⟩
    · cases h
  case ldiv =>
    simp only [oStep1] at h
    split at h
    · obtain ⟨_, _, rfl, rfl, _, _, rfl, rfl, hr⟩ := hk
      split at h
      · cases h
      · rename_i hy
        cases h
        exact ⟨Ls, _, hl, ⟨_, _, rfl, rfl, hr⟩, fun t k => XT.ldiv X.here hx rfl hd rfl hy k⟩
    · cases h
  case lshr =>
    simp only [oStep1] at h
    split at h
    · obtain ⟨_, _, rfl, rfl, _, _, rfl, rfl, hr⟩ := hk
      cases h
      exact ⟨Ls, _, hl, ⟨_, _, rfl, rfl, hr⟩, fun t k => XS.lshr X.here hx rfl hd rfl k⟩
    · cases h
  case lcmp =>
    simp only [oStep1] at h
    split at h
    · obtain ⟨_, _, rfl, rfl, _, _, rfl, rfl, hr⟩ := hk
      cases h
      exact ⟨Ls, _, hl, ⟨_, _, rfl, rfl, hr⟩, fun t k => XT.lcmp X.here hx rfl hd rfl k⟩
    · cases h
  case i2c => exact oU_ok (fun x r t k => XT.i2c X.here hx rfl hd rfl k) hl hk h
  case i2b => exact oU_ok (fun x r t k => XT.i2b X.here hx rfl hd rfl k) hl hk h
  case i2l =>
    simp only [oStep1] at h
    split at h
    · obtain ⟨_, _, rfl, rfl, hr⟩ := hk
      cases h
      exact ⟨Ls, _, hl, ⟨_, _, rfl, rfl, hr⟩, fun t k => XT.i2l X.here hx rfl hd rfl k⟩
    · cases h
  case l2i =>
    simp only [oStep1] at h
    split at h
    · obtain ⟨_, _, rfl, rfl, hr⟩ := hk
      cases h
      exact ⟨Ls, _, hl, ⟨_, _, rfl, rfl, hr⟩, fun t k => XT.l2i X.here hx rfl hd rfl k⟩
    · cases h
  case dup =>
    simp only [oStep1] at h
    split at h
    · obtain ⟨w, _, rfl, hv, hr⟩ := hk
      split at h
      · rename_i h1
        cases h
        exact ⟨Ls, _, hl, ⟨_, _, rfl, hv, _, _, rfl, hv, hr⟩, fun t k => XS.dup X.here hx rfl hd rfl (oC1_cat h1 hv) k⟩
      · cases h
    · cases h
  case pop =>
    simp only [oStep1] at h
    split at h
    · obtain ⟨w, _, rfl, hv, hr⟩ := hk
      split at h
      · rename_i h1
        cases h
        exact ⟨Ls, _, hl, hr, fun t k => XT.pop X.here hx rfl hd rfl (oC1_cat h1 hv) k⟩
      · cases h
    · cases h
  case dup_x1 =>
    simp only [oStep1] at h
    split at h
    · obtain ⟨w, _, rfl, hv, w2, _, rfl, hv2, hr⟩ := hk
      split at h
      · rename_i h1
        rw [Bool.and_eq_true] at h1
        cases h
        exact ⟨Ls, _, hl, ⟨_, _, rfl, hv, _, _, rfl, hv2, _, _, rfl, hv, hr⟩, fun t k => XT.dupX1 X.here hx rfl hd rfl (oC1_cat h1.1 hv) (oC1_cat h1.2 hv2) k⟩
      · cases h
    · cases h
  case dup2 =>
    simp only [oStep1] at h
    split at h
    · obtain ⟨w, _, rfl, hv, w2, _, rfl, hv2, hr⟩ := hk
      split at h
      · rename_i h1
        rw [Bool.and_eq_true] at h1
        cases h
        exact ⟨Ls, _, hl, ⟨_, _, rfl, hv, _, _, rfl, hv2, _, _, rfl, hv, _, _, rfl, hv2, hr⟩, fun t k => XT.dup2 X.here hx rfl hd rfl (oC1_cat h1.1 hv) (oC1_cat h1.2 hv2) k⟩
      · cases h
    · cases h
  case dup_x2 =>
    simp only [oStep1] at h
    split at h
    · obtain ⟨w, _, rfl, hv, w2, _, rfl, hv2, w3, _, rfl, hv3, hr⟩ := hk
      split at h
      · rename_i h1
        rw [Bool.and_eq_true, Bool.and_eq_true] at h1
        cases h
        exact ⟨Ls, _, hl, ⟨_, _, rfl, hv, _, _, rfl, hv2, _, _, rfl, hv3, _, _, rfl, hv, hr⟩, fun t k => oDupX2 X hx (g := mkF m pc Ls _) rfl hd rfl (oC1_cat h1.1 hv) (oC1_cat h1.2.1 hv2) (oC1_cat h1.2.2 hv3) k⟩
      · cases h
    · cases h
  case checkcast j =>
    simp only [oStep1] at h
    split at h
    · obtain ⟨_, _, rfl, rfl, hr⟩ := hk
      cases h
      exact ⟨Ls, _, hl, ⟨_, _, rfl, rfl, hr⟩, fun t k => X.checkcastNull hx (g := mkF m pc Ls _) rfl rfl hd t k⟩
    · cases h
  case goto o => exact oJmp_ok (fun t ho k => XS.goto X.here hx rfl rfl hd ho rfl k) hl hk h
  case ifCond cd o =>
    simp only [oStep1] at h
    split at h
    · obtain ⟨_, _, rfl, rfl, hr⟩ := hk
      split at h
      · rename_i hc
        exact oJmp_ok (fun t ho k => XS.ifYes X.here hx rfl rfl hd rfl hc ho rfl k) hl hr h
      · rename_i hc
        cases h
        exact ⟨Ls, _, hl, hr, fun t k => XS.ifNo X.here hx rfl hd rfl (Bool.eq_false_iff.mpr hc) k⟩
    · cases h
  case if_icmp cd o =>
    simp only [oStep1] at h
    split at h
    · obtain ⟨_, _, rfl, rfl, _, _, rfl, rfl, hr⟩ := hk
      split at h
      · rename_i hc
        exact oJmp_ok (fun t ho k => XS.icmpYes X.here hx rfl rfl hd rfl hc ho rfl k) hl hr h
      · rename_i hc
        cases h
        exact ⟨Ls, _, hl, hr, fun t k => XS.icmpNo X.here hx rfl hd rfl (Bool.eq_false_iff.mpr hc) k⟩
    · cases h
  all_goals exact oNone h
/-! steps on the heap -/
theorem oHas_mem {d : Jvm.Cond} (h : oHas ws d = true) : d ∈ ws := of_decide_eq_true h
theorem oK_facts (hK : KT.all (oKOk ws) = true) {k n : Nat} {C : String} {fs : List oFd} (hk : KT[k]? = some (C, n, fs)) :
    Jvm.Cond.instantiable C n ∈ ws ∧ Jvm.Cond.initialized C ∈ ws ∧ (∀ (i : Nat) (f : oFd), fs[i]? = some f → (if f.2.2.2 = true then Jvm.Cond.laysFinal C C f.1 f.2.1 else Jvm.Cond.lays C C f.1 f.2.1) ∈ ws ∧ parseFieldDescriptor f.2.1 = some f.2.2.1 ∧ f.2.2.1 ≠ .float ∧ f.2.2.1 ≠ .double) ∧
      ∀ (i j : Nat) (f g : oFd), fs[i]? = some f → fs[j]? = some g → i ≠ j → f.1 ≠ g.1 := by
  have h := List.all_eq_true.mp hK _ (List.mem_of_getElem? hk)
  simp only [oKOk, Bool.and_eq_true, decide_eq_true_eq] at h
  obtain ⟨⟨⟨h1, h2⟩, h3⟩, h4⟩ := h
  refine ⟨oHas_mem h1, oHas_mem h2, fun i f hf => ?_, fun i j f g hf hg hij => ?_⟩
  · have q := List.all_eq_true.mp h3 _ (List.mem_of_getElem? hf)
    simp only [Bool.and_eq_true, decide_eq_true_eq] at q
    obtain ⟨⟨q1, q2⟩, q3⟩ := q
    refine ⟨oHas_mem q1, q2, fun e => ?_, fun e => ?_⟩ <;> (rw [e] at q3; cases q3)
  · obtain ⟨hi, ei⟩ := List.getElem?_eq_some_iff.mp hf
    obtain ⟨hj, ej⟩ := List.getElem?_eq_some_iff.mp hg
    have key := List.pairwise_iff_getElem.mp h4
    rcases Nat.lt_or_gt_of_ne hij with q | q
    · have r := key i j (by simpa using hi) (by simpa using hj) q
      simpa [ei, ej] using r
    · have r := key j i (by simpa using hj) (by simpa using hi) q
      simpa [ei, ej] using Ne.symm r
theorem oLaid (hw : ∀ d ∈ ws, d.before a0 Z = true) {C n d : String} {b : Bool} (h : (if b = true then Jvm.Cond.laysFinal C C n d else Jvm.Cond.lays C C n d) ∈ ws) : Laid Z a0 C C n d := by
  cases b
  · exact Or.inl (hw _ h)
  · exact Or.inr (hw _ h)
theorem oOR.putf {h h' : Heap} {a : Addr} {k i n : Nat} {vs : List Value} {C : String} {fs : List oFd} {f : oFd} {v' w' : Value} (hK : KT.all (oKOk ws) = true) (hw : ∀ d ∈ ws, d.before a0 Z = true) (o : oOR Z h ad KT a (.inl (k, vs))) (hk : KT[k]? = some (C, n, fs)) (hf : fs[i]? = some f)
    (W : Wr h h' a (Jvm.RoadKit.slotOf Z C f.1 f.2.1) w') (hv : oVR ad v' w') : oOR Z h' ad KT a (.inl (k, vs.set i v')) := by
  obtain ⟨C1, n1, fs1, e1, e0, E, F⟩ := o
  cases hk.symm.trans e1
  obtain ⟨-, -, K3, K4⟩ := oK_facts hK hk
  refine ⟨C, n, fs, hk, by rw [List.length_set]; exact e0, E.wr W, fun j g v hg hj => ?_⟩
  by_cases ij : i = j
  · subst ij
    cases hf.symm.trans hg
    have hlt : i < vs.length := by
      have := (List.getElem?_eq_some_iff.mp hj).1
      simpa using this
    rw [List.getElem?_set_self hlt] at hj
    cases hj
    obtain ⟨w0, -, F0⟩ := F i f vs[i] hf (List.getElem?_eq_getElem hlt)
    exact ⟨w', hv, F0.same W⟩
  · rw [List.getElem?_set_ne ij] at hj
    obtain ⟨w0, q1, F0⟩ := F j g v hg hj
    obtain ⟨r1, r2, -⟩ := K3 j g hg
    obtain ⟨t1, t2, -⟩ := K3 i f hf
    exact ⟨w0, q1, F0.other W (Or.inr (slot_ne (oLaid hw r1) (oLaid hw t1) (K4 j i g f hg hf (Ne.symm ij)) r2 t2))⟩
theorem oVR.nar {v w : Value} {ty : FieldType} (hf : oFit ty v = true) (hv : oVR ad v w) : oVR ad (narrow ty v) (narrow ty w) ∧ fits ty (narrow ty w) = true := by
  cases v
  case int x =>
    have e : w = .int x := hv
    subst e
    cases ty
    case boolean => exact ⟨rfl, fits_nar_bool x⟩
    case byte => exact ⟨rfl, fits_nar_byte x⟩
    case char => exact ⟨rfl, fits_nar_char x⟩
    case short => exact ⟨rfl, fits_nar_short x⟩
    case int => exact ⟨rfl, rfl⟩
    all_goals exact absurd hf Bool.false_ne_true
  case long x =>
    have e : w = .long x := hv
    subst e
    cases ty
    case long => exact ⟨rfl, rfl⟩
    all_goals exact absurd hf Bool.false_ne_true
  case null =>
    have e : w = .null := hv
    subst e
    cases ty
    case object => exact ⟨rfl, rfl⟩
    case array => exact ⟨rfl, rfl⟩
    all_goals exact absurd hf Bool.false_ne_true
  case ref k =>
    obtain ⟨a, h1, e⟩ : ∃ a, ad[k]? = some a ∧ w = .ref a := hv
    subst e
    cases ty
    case object => exact ⟨⟨a, h1, rfl⟩, rfl⟩
    case array => exact ⟨⟨a, h1, rfl⟩, rfl⟩
    all_goals exact absurd hf Bool.false_ne_true
  all_goals (cases ty <;> exact absurd hf Bool.false_ne_true)
theorem oDef {ty : FieldType} (h1 : ty ≠ .float) (h2 : ty ≠ .double) : oVR ad (defaultValue ty) (defaultValue ty) := by
  cases ty <;> first | rfl | (exact absurd rfl h1) | (exact absurd rfl h2)
theorem oSz {c : Cell} {vs : List Int32} (h : c.slots = (vs.map Value.int).toArray) : c.slots.size = vs.length := by rw [h]; simp
theorem oAt' {c : Cell} {vs : List Int32} (h : c.slots = (vs.map Value.int).toArray) (j : Nat) : c.slots[j]? = (vs[j]?).map Value.int := by rw [h]; simp
theorem oSet {c : Cell} {vs : List Int32} (h : c.slots = (vs.map Value.int).toArray) (j : Nat) (x : Int32) : (c.setSlot j (.int x)).slots = ((vs.set j x).map Value.int).toArray := by
  show c.slots.setIfInBounds j (.int x) = _
  rw [h, List.setIfInBounds_toArray, List.map_set]
theorem oIn_spec {j : Int32} {n : Nat} (h : oIn j n = true) : ¬ j < 0 ∧ j.toNatClampNeg < n := by simpa [oIn] using h
theorem oBnd {j : Int32} {c : Cell} {vs : List Int32} (h : c.slots = (vs.map Value.int).toArray) (h1 : ¬ j < 0) (h2 : j.toNatClampNeg < vs.length) : ¬ (j < 0 ∨ c.slots.size ≤ j.toNatClampNeg) := by
  rw [oSz h]; rintro (q | q)
  · exact h1 q
  · omega
variable {H : List oObj}
def oN2 (p : Program) (l : Launch) (e : Env) (R : Jvm.Room) (s : State) (m : MethodId) (args : Array Value) (below : List Frame) (meth : Method) (c : Code) (Z : State) (n0 : Nat) (KT : List oKl) (T : State) (ad : List Addr) (pc : Nat) (Ls : Array Slot) (ST : List Value) (q : Nat × List Value × List oObj × Nat × Nat) : Prop :=
  ∃ T' locs' ST' ad', Stand p l e R s m args below meth c T' locs' q.2.2.2.1 q.2.2.2.2 ∧ Fr n0 locs' ∧ n0 ≤ T'.heap.size ∧ oPre ad ad' ∧ oKR ad' q.2.1 ST' ∧ oHR Z T'.heap n0 ad' KT q.2.2.1 ∧
    ∀ target, Steps p.tables e below (T'.setTop (mkF m q.1 Ls ST')) target → Steps p.tables e below (T.setTop (mkF m pc Ls ST)) target
variable {y : MethodName} {bytes : ByteArray} {j p1 p2 : Nat}
/-! what 'oOpOk' says, by the instruction -/
theorem oOk_dec {i : Instr} (h : oOpOk ws KT CT MT y bytes (pc, i, p1, p2) = true) : ∃ n, decode bytes pc = .ok (i, n) ∧ (n = oLen i ∨ oSw i = true) := by
  have h1 := (Bool.and_eq_true_iff.mp h).1
  dsimp only at h1
  split at h1
  · rename_i i' n' hdec
    simp only [Bool.and_eq_true, decide_eq_true_eq, Bool.or_eq_true] at h1
    obtain ⟨rfl, h2⟩ := h1
    exact ⟨n', hdec, h2⟩
  · cases h1
theorem oOk_ldc (h : oOpOk ws KT CT MT y bytes (pc, .ldc j, p1, p2) = true) {x : Int32} (hk : CT[p1]? = some (.int x)) : Jvm.Cond.constant y.cls j x ∈ ws := by
  have h2 := (Bool.and_eq_true_iff.mp h).2
  simp only [hk] at h2
  exact oHas_mem h2
theorem oOk_ldc2 (h : oOpOk ws KT CT MT y bytes (pc, .ldc2_w j, p1, p2) = true) {x : Int64} (hk : CT[p1]? = some (.long x)) : Jvm.Cond.constantLong y.cls j x ∈ ws := by
  have h2 := (Bool.and_eq_true_iff.mp h).2
  simp only [hk] at h2
  exact oHas_mem h2
theorem oOk_get (h : oOpOk ws KT CT MT y bytes (pc, .getfield j, p1, p2) = true) {C : String} {n : Nat} {fs : List oFd} {f : oFd} (hk : KT[p1]? = some (C, n, fs)) (hf : fs[p2]? = some f) : Jvm.Cond.fieldLink y.cls j C f.1 f.2.1 ∈ ws := by
  have h2 := (Bool.and_eq_true_iff.mp h).2
  obtain ⟨f1, f2, f3, f4⟩ := f
  simp only [hk, hf] at h2
  exact oHas_mem h2
theorem oOk_put (h : oOpOk ws KT CT MT y bytes (pc, .putfield j, p1, p2) = true) {C : String} {n : Nat} {fs : List oFd} {f : oFd} (hk : KT[p1]? = some (C, n, fs)) (hf : fs[p2]? = some f) : Jvm.Cond.fieldLink y.cls j C f.1 f.2.1 ∈ ws ∧ (f.2.2.2 = true → y.cls = C ∧ y.name = "<init>") := by
  have h2 := (Bool.and_eq_true_iff.mp h).2
  obtain ⟨f1, f2, f3, f4⟩ := f
  simp only [hk, hf, Bool.and_eq_true, Bool.or_eq_true, Bool.not_eq_true', decide_eq_true_eq] at h2
  refine ⟨oHas_mem h2.1, fun q => ?_⟩
  rcases h2.2 with r | r
  · dsimp only at q; rw [q] at r; cases r
  · exact r
theorem oOk_new (h : oOpOk ws KT CT MT y bytes (pc, .new j, p1, p2) = true) {C : String} {n : Nat} {fs : List oFd} (hk : KT[p1]? = some (C, n, fs)) : Jvm.Cond.classLink y.cls j C ∈ ws := by
  have h2 := (Bool.and_eq_true_iff.mp h).2
  simp only [hk] at h2
  exact oHas_mem h2
theorem oOk_newarr {t : ArrayType} (h : oOpOk ws KT CT MT y bytes (pc, .newarray t, p1, p2) = true) : Jvm.Cond.arrayClass (newarray.typeOf t) ∈ ws := oHas_mem (Bool.and_eq_true_iff.mp h).2
theorem oNm_spec {z : MethodName} {n : Nat} (h : oNm z n = true) : (z.cls ≠ "java/lang/invoke/MethodHandle" ∧ z.cls ≠ "java/lang/invoke/VarHandle") ∧ ∀ sig, parseMethodDescriptor z.desc = some sig → sig.parameters.length = n := by
  simp only [oNm, Bool.and_eq_true, decide_eq_true_eq] at h
  refine ⟨h.1, fun sig hs => ?_⟩
  have h2 := h.2
  rw [hs] at h2
  exact of_decide_eq_true h2
variable {z : MethodName} {zb : ByteArray} {ml zn : Nat} {rt : Option FieldType} {rm : Jvm.Room}
theorem oOk_copy (h : oOpOk ws KT CT MT y bytes (pc, .invokestatic j, p1, 2) = true) :
    Jvm.Cond.methodLink y.cls j Jvm.Stand.acN ∈ ws ∧ Jvm.Cond.native Jvm.Stand.acN ∈ ws ∧ Jvm.Cond.static Jvm.Stand.acN ∈ ws ∧ Jvm.Cond.initialized "java/lang/System" ∈ ws := by
  have h2 := (Bool.and_eq_true_iff.mp h).2
  simp only [if_true, Bool.and_eq_true] at h2
  exact ⟨oHas_mem h2.1.1.1, oHas_mem h2.1.1.2, oHas_mem h2.1.2, oHas_mem h2.2⟩
theorem oOk_static (h : oOpOk ws KT CT MT y bytes (pc, .invokestatic j, p1, p2) = true) (hp : ¬ p2 = 2) (hk : MT[p1]? = some (z, zb, ml, rt, rm, zn)) :
    Jvm.Cond.methodLink y.cls j z ∈ ws ∧ Jvm.Cond.static z ∈ ws ∧ Jvm.Cond.initialized z.cls ∈ ws ∧ Jvm.Cond.code z zb ml rt ∈ ws ∧ oNm z zn = true := by
  have h2 := (Bool.and_eq_true_iff.mp h).2
  simp only [hk, if_neg hp, Bool.and_eq_true] at h2
  obtain ⟨⟨⟨⟨q1, q2⟩, q3⟩, q4⟩, q5⟩ := h2
  exact ⟨oHas_mem q1, oHas_mem q2, oHas_mem q3, oHas_mem q4, q5⟩
theorem oOk_init (h : oOpOk ws KT CT MT y bytes (pc, .invokespecial j, p1, 1) = true) :
    Jvm.Cond.methodLink y.cls j Lib.objectInit ∈ ws ∧ Jvm.Cond.instanceMethod Lib.objectInit ∈ ws ∧ Jvm.Cond.code Lib.objectInit ⟨#[0xb1]⟩ 1 none ∈ ws := by
  have h2 := (Bool.and_eq_true_iff.mp h).2
  simp only [if_true, Bool.and_eq_true] at h2
  exact ⟨oHas_mem h2.1.1, oHas_mem h2.1.2, oHas_mem h2.2⟩
theorem oOk_special (h : oOpOk ws KT CT MT y bytes (pc, .invokespecial j, p1, p2) = true) (hp : ¬ p2 = 1) (hk : MT[p1]? = some (z, zb, ml, rt, rm, zn)) :
    z.name = "<init>" ∧ rt = none ∧ Jvm.Cond.methodLink y.cls j z ∈ ws ∧ Jvm.Cond.instanceMethod z ∈ ws ∧ Jvm.Cond.initialized z.cls ∈ ws ∧ Jvm.Cond.code z zb ml none ∈ ws ∧ oNm z zn = true := by
  have h2 := (Bool.and_eq_true_iff.mp h).2
  simp only [hk, if_neg hp, Bool.and_eq_true, decide_eq_true_eq] at h2
  obtain ⟨⟨⟨⟨⟨⟨q1, q2⟩, q3⟩, q4⟩, q5⟩, q6⟩, q7⟩ := h2
  exact ⟨q1, q2, oHas_mem q3, oHas_mem q4, oHas_mem q5, oHas_mem q6, q7⟩
theorem oOk_virtual (h : oOpOk ws KT CT MT y bytes (pc, .invokevirtual j, p1, p2) = true) (hk : MT[p1]? = some (z, zb, ml, rt, rm, zn)) {C : String} {n : Nat} {fs : List oFd} (hC : KT[p2]? = some (C, n, fs)) :
    Jvm.Cond.methodLink y.cls j z ∈ ws ∧ Jvm.Cond.declares z ∈ ws ∧ Jvm.Cond.selects C z z ∈ ws ∧ Jvm.Cond.instanceMethod z ∈ ws ∧ Jvm.Cond.initialized z.cls ∈ ws ∧ Jvm.Cond.code z zb ml rt ∈ ws ∧ oNm z zn = true := by
  have h2 := (Bool.and_eq_true_iff.mp h).2
  simp only [hk, hC, Bool.and_eq_true] at h2
  obtain ⟨⟨⟨⟨⟨⟨q1, q2⟩, q3⟩, q4⟩, q5⟩, q6⟩, q7⟩ := h2
  exact ⟨oHas_mem q1, oHas_mem q2, oHas_mem q3, oHas_mem q4, oHas_mem q5, oHas_mem q6, q7⟩
/-! the steps on the heap, one law each -/
variable {q : Nat × List Value × List oObj × Nat × Nat}
theorem oGet_ok (X : Stand p l e R s m args below meth c T locs cells slots) (hx : p.tables.exec = Jvm.exec) (hZ : Z.Warmed39 s.vm) (hown : s.vm.findClass y.cls = some m.cls) (hw : ∀ d ∈ ws, d.before a0 Z = true)
    (hd : decode c.code pc = .ok (.getfield j, 3)) (hop : oOpOk ws KT CT MT y bytes (pc, .getfield j, p1, p2) = true) (N : Fr n0 locs) (hn0 : n0 ≤ T.heap.size) (hk : oKR ad sk ST) (hH : oHR Z T.heap n0 ad KT H) (h : oStep2 KT R (.getfield j) p1 p2 pc sk H cells slots = some q) :
    oN2 p l e R s m args below meth c Z n0 KT T ad pc Ls ST q := by
  simp only [oStep2] at h
  split at h
  · obtain ⟨_, ST', rfl, ⟨a, ha, rfl⟩, hr⟩ := hk
    split at h
    · rename_i hq
      split at h
      · rename_i hcp
        subst hcp
        split at h
        · rename_i v hv
          cases h
          obtain ⟨C, n, fs, k1, k2, E, F⟩ := hH.2.2.2 _ _ _ hq ha
          have hlt : p2 < fs.length := by rw [← k2]; exact (List.getElem?_eq_some_iff.mp hv).1
          have hf := List.getElem?_eq_getElem hlt
          obtain ⟨w, hvw, Fw⟩ := F p2 _ v hf hv
          obtain ⟨T', X', eT, st⟩ := getF X hx hZ hown (host := "") (Or.inl (hw _ (oOk_get hop k1 hf))) Via.refl rfl Fw (g := mkF m pc Ls (.ref a :: ST')) rfl rfl hd
          exact ⟨T', locs, w :: ST', ad, X', N, by rw [eT]; exact hn0, oPre.rfl' ad, ⟨w, ST', rfl, hvw, hr⟩, by rw [eT]; exact hH, st⟩
        · cases h
      · cases h
    · cases h
  · cases h
theorem oPut_ok (X : Stand p l e R s m args below meth c T locs cells slots) (hx : p.tables.exec = Jvm.exec) (hZ : Z.Warmed39 s.vm) (hown : s.vm.findClass y.cls = some m.cls) (hnm : meth.name = y.name) (hw : ∀ d ∈ ws, d.before a0 Z = true) (hK : KT.all (oKOk ws) = true)
    (hd : decode c.code pc = .ok (.putfield j, 3)) (hop : oOpOk ws KT CT MT y bytes (pc, .putfield j, p1, p2) = true) (N : Fr n0 locs) (hn0 : n0 ≤ T.heap.size) (hk : oKR ad sk ST) (hH : oHR Z T.heap n0 ad KT H) (h : oStep2 KT R (.putfield j) p1 p2 pc sk H cells slots = some q) :
    oN2 p l e R s m args below meth c Z n0 KT T ad pc Ls ST q := by
  simp only [oStep2] at h
  split at h
  · rename_i v k r
    obtain ⟨w, _, rfl, hv, _, ST', rfl, ⟨a, ha, rfl⟩, hr⟩ := hk
    split at h
    · rename_i c1 vs hq
      split at h
      · rename_i C n fs hKp
        split at h
        · rename_i nm ds ty fin hf
          split at h
          · rename_i hcond
            obtain ⟨rfl, hlt, hfit⟩ := hcond
            cases h
            obtain ⟨C', n', fs', k1, k2, E, F⟩ := hH.2.2.2 _ _ _ hq ha
            cases hKp.symm.trans k1
            obtain ⟨w0, -, F0⟩ := F p2 _ vs[p2] hf (List.getElem?_eq_getElem hlt)
            obtain ⟨o1, o2⟩ := oOk_put hop k1 hf
            obtain ⟨K1, -, K3, -⟩ := oK_facts hK k1
            obtain ⟨r1, r2, -⟩ := K3 p2 _ hf
            obtain ⟨hv', hfit'⟩ := oVR.nar (ad := ad) (v := v) (w := w) hfit hv
            have hL : (Jvm.Cond.lays C C nm ds).before a0 Z = true ∨ ((Jvm.Cond.laysFinal C C nm ds).before a0 Z = true ∧ y.cls = C ∧ meth.name = "<init>") := by
              cases fin
              · exact Or.inl (hw _ r1)
              · exact Or.inr ⟨hw _ r1, (o2 rfl).1, hnm.trans (o2 rfl).2⟩
            obtain ⟨T', h', X', eT, W, st⟩ := putFN X hx hZ hown (hw _ o1) Via.refl rfl F0 E hL (hw _ K1) r2 rfl hfit' (g := mkF m pc Ls (w :: .ref a :: ST')) rfl rfl hd
            subst eT
            refine ⟨T', _, ST', ad, X', N.app (fun z hz => by cases List.mem_singleton.mp hz; exact (hH.2.2.1 _ _ ha).1), by rw [W.size]; exact hn0, oPre.rfl' ad, hr, hH.put hq ha W (oOR.putf hK hw (hH.2.2.2 _ _ _ hq ha) k1 hf W hv'), st⟩
          · cases h
        · cases h
      · cases h
    · cases h
  · cases h
theorem oNew_ok (X : Stand p l e R s m args below meth c T locs cells slots) (hx : p.tables.exec = Jvm.exec) (hZ : Z.Warmed39 s.vm) (hown : s.vm.findClass y.cls = some m.cls) (hw : ∀ d ∈ ws, d.before a0 Z = true) (hK : KT.all (oKOk ws) = true)
    (hd : decode c.code pc = .ok (.new j, 3)) (hop : oOpOk ws KT CT MT y bytes (pc, .new j, p1, p2) = true) (N : Fr n0 locs) (hn0 : n0 ≤ T.heap.size) (hk : oKR ad sk ST) (hH : oHR Z T.heap n0 ad KT H) (h : oStep2 KT R (.new j) p1 p2 pc sk H cells slots = some q) :
    oN2 p l e R s m args below meth c Z n0 KT T ad pc Ls ST q := by
  simp only [oStep2] at h
  split at h
  · rename_i C n fs hKp
    split at h
    · rename_i hcond
      cases h
      obtain ⟨K1, K2, K3, -⟩ := oK_facts hK hKp
      obtain ⟨T', h', X', eT, E, A, D, -, st⟩ := newO X hx hZ hown (hw _ (oOk_new hop hKp)) (hw _ K1) (hw _ K2) rfl (g := mkF m pc Ls ST) rfl hd hcond.1 hcond.2
      subst eT
      refine ⟨T', locs, _, ad ++ [T.heap.size], X', N, Nat.le_trans hn0 E.1, oPre.snoc _ _, ⟨_, _, rfl, ⟨T.heap.size, ?_, rfl⟩, hk.mono (oPre.snoc _ _)⟩, hH.new hn0 E A.lt ⟨C, n, fs, hKp, by simp, A, fun i f v hf hv => ?_⟩, st⟩
      · rw [← hH.1, List.getElem?_append_right (Nat.le_refl _)]; simp
      · rw [List.getElem?_map, hf] at hv
        cases hv
        obtain ⟨r1, r2, r3, r4⟩ := K3 i f hf
        exact ⟨_, oDef r3 r4, D (oLaid hw r1) r2⟩
    · cases h
  · cases h
theorem oNewA_ok {t : ArrayType} (X : Stand p l e R s m args below meth c T locs cells slots) (hx : p.tables.exec = Jvm.exec) (hZ : Z.Warmed39 s.vm) (hw : ∀ d ∈ ws, d.before a0 Z = true)
    (hd : decode c.code pc = .ok (.newarray t, 2)) (hop : oOpOk ws KT CT MT y bytes (pc, .newarray t, p1, p2) = true) (N : Fr n0 locs) (hn0 : n0 ≤ T.heap.size) (hk : oKR ad sk ST) (hH : oHR Z T.heap n0 ad KT H) (h : oStep2 KT R (.newarray t) p1 p2 pc sk H cells slots = some q) :
    oN2 p l e R s m args below meth c Z n0 KT T ad pc Ls ST q := by
  simp only [oStep2] at h
  split at h
  · rename_i n r
    obtain ⟨_, ST', rfl, rfl, hr⟩ := hk
    split at h
    · rename_i hcond
      obtain ⟨ht, hn, hb, hc, hs⟩ := hcond
      cases h
      obtain ⟨T', h', cA, X', eT, E, A, st⟩ := newP X hx hZ (hw _ (oOk_newarr hop)) rfl (g := mkF m pc Ls (.int n :: ST')) rfl hd rfl hn (cap := n.toNatClampNeg) (Nat.le_refl _) hb hc hs
      subst eT
      refine ⟨T', locs, _, ad ++ [T.heap.size], X', N, Nat.le_trans hn0 E.1, oPre.snoc _ _, ⟨_, _, rfl, ⟨T.heap.size, ?_, rfl⟩, hr.mono (oPre.snoc _ _)⟩, hH.new hn0 E A.lt ⟨_, A, ?_⟩, st⟩
      · rw [← hH.1, List.getElem?_append_right (Nat.le_refl _)]; simp
      · rcases ht with rfl | rfl <;> simp [newA, newarray.typeOf, defaultValue]
    · cases h
  · cases h
theorem oALen_ok (X : Stand p l e R s m args below meth c T locs cells slots) (hx : p.tables.exec = Jvm.exec) (hZ : Z.Warmed39 s.vm)
    (hd : decode c.code pc = .ok (.arraylength, 1)) (N : Fr n0 locs) (hn0 : n0 ≤ T.heap.size) (hk : oKR ad sk ST) (hH : oHR Z T.heap n0 ad KT H) (h : oStep2 KT R .arraylength p1 p2 pc sk H cells slots = some q) :
    oN2 p l e R s m args below meth c Z n0 KT T ad pc Ls ST q := by
  simp only [oStep2] at h
  split at h
  · obtain ⟨_, ST', rfl, ⟨a, ha, rfl⟩, hr⟩ := hk
    split at h
    · rename_i ty vs hq
      cases h
      obtain ⟨cl, A, hsl⟩ := hH.2.2.2 _ _ _ hq ha
      refine ⟨T, locs, _, ad, X, N, hn0, oPre.rfl' ad, ⟨_, _, rfl, rfl, hr⟩, hH, fun t k => X.arraylength hx A.1 (State.isArrayOf_alike hZ.alike A.2.1) (g := mkF m pc Ls (.ref a :: ST')) rfl rfl hd t ?_⟩
      rw [oSz hsl]
      exact k
    · cases h
  · cases h
theorem oILd_ok (X : Stand p l e R s m args below meth c T locs cells slots) (hx : p.tables.exec = Jvm.exec) (hZ : Z.Warmed39 s.vm)
    (hd : decode c.code pc = .ok (.iaload, 1)) (N : Fr n0 locs) (hn0 : n0 ≤ T.heap.size) (hk : oKR ad sk ST) (hH : oHR Z T.heap n0 ad KT H) (h : oStep2 KT R .iaload p1 p2 pc sk H cells slots = some q) :
    oN2 p l e R s m args below meth c Z n0 KT T ad pc Ls ST q := by
  simp only [oStep2] at h
  split at h
  · obtain ⟨_, _, rfl, rfl, _, ST', rfl, ⟨a, ha, rfl⟩, hr⟩ := hk
    split at h
    · rename_i vs hq
      split at h
      · cases h
      · rename_i hj
        split at h
        · rename_i x hv
          cases h
          obtain ⟨cl, A, hsl⟩ := hH.2.2.2 _ _ _ hq ha
          exact ⟨T, locs, _, ad, X, N, hn0, oPre.rfl' ad, ⟨_, _, rfl, rfl, hr⟩, hH, fun t k => X.iaload hx A.1 (State.isArrayOf_alike hZ.alike A.2.1) A.2.2 (oBnd hsl hj (List.getElem?_eq_some_iff.mp hv).1) (by rw [oAt' hsl, hv]; rfl) (g := mkF m pc Ls _) rfl rfl hd t k⟩
        · cases h
    · cases h
  · cases h
theorem oBLd_ok (X : Stand p l e R s m args below meth c T locs cells slots) (hx : p.tables.exec = Jvm.exec) (hZ : Z.Warmed39 s.vm)
    (hd : decode c.code pc = .ok (.baload, 1)) (N : Fr n0 locs) (hn0 : n0 ≤ T.heap.size) (hk : oKR ad sk ST) (hH : oHR Z T.heap n0 ad KT H) (h : oStep2 KT R .baload p1 p2 pc sk H cells slots = some q) :
    oN2 p l e R s m args below meth c Z n0 KT T ad pc Ls ST q := by
  simp only [oStep2] at h
  split at h
  · obtain ⟨_, _, rfl, rfl, _, ST', rfl, ⟨a, ha, rfl⟩, hr⟩ := hk
    split at h
    · rename_i vs hq
      split at h
      · cases h
      · rename_i hj
        split at h
        · rename_i x hv
          cases h
          obtain ⟨cl, A, hsl⟩ := hH.2.2.2 _ _ _ hq ha
          exact ⟨T, locs, _, ad, X, N, hn0, oPre.rfl' ad, ⟨_, _, rfl, rfl, hr⟩, hH, fun t k => X.baloadBooleans hx A.1 (State.isArrayOf_alike hZ.alike A.2.1) A.2.2 (oBnd hsl hj (List.getElem?_eq_some_iff.mp hv).1) (by rw [oAt' hsl, hv]; rfl) (g := mkF m pc Ls _) rfl rfl hd t k⟩
        · cases h
    · cases h
  · cases h
theorem oISt_ok (X : Stand p l e R s m args below meth c T locs cells slots) (hx : p.tables.exec = Jvm.exec) (hZ : Z.Warmed39 s.vm)
    (hd : decode c.code pc = .ok (.iastore, 1)) (N : Fr n0 locs) (hn0 : n0 ≤ T.heap.size) (hk : oKR ad sk ST) (hH : oHR Z T.heap n0 ad KT H) (h : oStep2 KT R .iastore p1 p2 pc sk H cells slots = some q) :
    oN2 p l e R s m args below meth c Z n0 KT T ad pc Ls ST q := by
  simp only [oStep2] at h
  split at h
  · obtain ⟨_, _, rfl, rfl, _, _, rfl, rfl, _, ST', rfl, ⟨a, ha, rfl⟩, hr⟩ := hk
    split at h
    · rename_i vs hq
      split at h
      · rename_i hin
        cases h
        obtain ⟨hj, hlt⟩ := oIn_spec hin
        obtain ⟨cl, A, hsl⟩ := hH.2.2.2 _ _ _ hq ha
        obtain ⟨T', h', X', eT, W, st⟩ := stI X hx hZ rfl A (oBnd hsl hj hlt) (g := mkF m pc Ls _) rfl rfl hd
        subst eT
        exact ⟨T', _, ST', ad, X', N.app (fun z hz => by cases List.mem_singleton.mp hz; exact (hH.2.2.1 _ _ ha).1), by rw [W.size]; exact hn0, oPre.rfl' ad, hr, hH.put hq ha W ⟨_, A.same W, oSet hsl _ _⟩, st⟩
      · cases h
    · cases h
  · cases h
theorem oBSt_ok (X : Stand p l e R s m args below meth c T locs cells slots) (hx : p.tables.exec = Jvm.exec) (hZ : Z.Warmed39 s.vm)
    (hd : decode c.code pc = .ok (.bastore, 1)) (N : Fr n0 locs) (hn0 : n0 ≤ T.heap.size) (hk : oKR ad sk ST) (hH : oHR Z T.heap n0 ad KT H) (h : oStep2 KT R .bastore p1 p2 pc sk H cells slots = some q) :
    oN2 p l e R s m args below meth c Z n0 KT T ad pc Ls ST q := by
  simp only [oStep2] at h
  split at h
  · obtain ⟨_, _, rfl, rfl, _, _, rfl, rfl, _, ST', rfl, ⟨a, ha, rfl⟩, hr⟩ := hk
    split at h
    · rename_i vs hq
      split at h
      · rename_i hin
        cases h
        obtain ⟨hj, hlt⟩ := oIn_spec hin
        obtain ⟨cl, A, hsl⟩ := hH.2.2.2 _ _ _ hq ha
        obtain ⟨T', h', X', eT, W, st⟩ := stZ X hx hZ rfl A (oBnd hsl hj hlt) (g := mkF m pc Ls _) rfl rfl hd
        subst eT
        exact ⟨T', _, ST', ad, X', N.app (fun z hz => by cases List.mem_singleton.mp hz; exact (hH.2.2.1 _ _ ha).1), by rw [W.size]; exact hn0, oPre.rfl' ad, hr, hH.put hq ha W ⟨_, A.same W, oSet hsl _ _⟩, st⟩
      · cases h
    · cases h
  · cases h
theorem oStep2_ok (X : Stand p l e R s m args below meth c T locs cells slots) (hx : p.tables.exec = Jvm.exec) (hZ : Z.Warmed39 s.vm) (hown : s.vm.findClass y.cls = some m.cls) (hnm : meth.name = y.name) (hw : ∀ d ∈ ws, d.before a0 Z = true) (hK : KT.all (oKOk ws) = true) {i : Instr} (hby : c.code = bytes)
    (hop : oOpOk ws KT CT MT y bytes (pc, i, p1, p2) = true) (N : Fr n0 locs) (hn0 : n0 ≤ T.heap.size) (hk : oKR ad sk ST) (hH : oHR Z T.heap n0 ad KT H) (h : oStep2 KT R i p1 p2 pc sk H cells slots = some q) :
    oN2 p l e R s m args below meth c Z n0 KT T ad pc Ls ST q := by
  obtain ⟨n, hd, hn⟩ := oOk_dec hop
  rw [← hby] at hd
  cases i
  all_goals (first | exact oNone h | (have hn' := hn.resolve_right (fun q => Bool.false_ne_true q); subst hn'))
  case getfield j => exact oGet_ok X hx hZ hown hw hd hop N hn0 hk hH h
  case putfield j => exact oPut_ok X hx hZ hown hnm hw hK hd hop N hn0 hk hH h
  case new j => exact oNew_ok X hx hZ hown hw hK hd hop N hn0 hk hH h
  case newarray t => exact oNewA_ok X hx hZ hw hd hop N hn0 hk hH h
  case arraylength => exact oALen_ok X hx hZ hd N hn0 hk hH h
  case iaload => exact oILd_ok X hx hZ hd N hn0 hk hH h
  case baload => exact oBLd_ok X hx hZ hd N hn0 hk hH h
  case iastore => exact oISt_ok X hx hZ hd N hn0 hk hH h
  case bastore => exact oBSt_ok X hx hZ hd N hn0 hk hH h
/-! calls: by the callee's contract -/
def oOV (ad : List Addr) : Option Value → Option Value → Prop
  | none, v => v = none
  | some x, v => ∃ w, v = some w ∧ oVR ad x w
def oQ (Z : State) (n0 : Nat) (KT : List oKl) (ad : List Addr) (H' : List oObj) (r : Option Value) (v : Option Value) (h : Heap) (L : List Loc) : Prop :=
  Fr n0 L ∧ n0 ≤ h.size ∧ ∃ ad', oPre ad ad' ∧ oHR Z h n0 ad' KT H' ∧ oOV ad' r v
/-- a method's contract: called on what stands for vs and H it returns what stands for r and leaves what stands for H' -/
def oMet (l : Launch) (Z : State) (n0 : Nat) (KT : List oKl) (q : oMt) (vs : List Value) (H : List oObj) (r : Option Value) (H' : List oObj) : Prop :=
  ∀ (wv : List Value) (h0 : Heap) (ad : List Addr), oKR ad vs wv → oHR Z h0 n0 ad KT H → n0 ≤ h0.size → ∀ ws0 : List Jvm.Cond,
    MetFree l q.1 (head1 (Jvm.Cond.code q.1 q.2.1 q.2.2.1 q.2.2.2.1 :: ws0) q.2.2.2.2.1) (fun a U => a = wv.toArray ∧ Z.Warmed39 U.vm ∧ U.heap = h0) (fun _ _ _ _ _ => True)
      (fun _ U o U' => ∃ v L, o = .returned v ∧ oQ Z n0 KT ad H' r v U'.heap L ∧ FrameEnd U o U' L q.2.2.2.2.1.cells q.2.2.2.2.1.slots)
def oCallOk (l : Launch) (Z : State) (n0 : Nat) (KT : List oKl) (q : oMt) (f : List Value → List oObj → Option (Option Value × List oObj)) : Prop :=
  ∀ vs H r H', f vs H = some (r, H') → oMet l Z n0 KT q vs H r H'
theorem oOV.kr {ad : List Addr} {r v : Option Value} (h : oOV ad r v) : oKR ad r.toList v.toList := by
  cases r with
  | none => cases h; rfl
  | some x => obtain ⟨w, rfl, hw⟩ := h; exact ⟨w, [], rfl, hw, rfl⟩
variable {callf : oCf} {mx : Nat}
theorem oStatic_ok (hC : ∀ (k : Nat) (q : oMt), MT[k]? = some q → oCallOk l Z n0 KT q (callf k)) (X : Stand p l e R s m args below meth c T locs cells slots) (hx : p.tables.exec = Jvm.exec) (hZ : Z.Warmed39 s.vm) (hown : s.vm.findClass y.cls = some m.cls) (hw : ∀ d ∈ ws, d.before a0 Z = true) (hmx : c.maxLocals = mx) (hp2 : ¬ p2 = 2)
    (hd : decode c.code pc = .ok (.invokestatic j, 3)) (hop : oOpOk ws KT CT MT y bytes (pc, .invokestatic j, p1, p2) = true) (N : Fr n0 locs) (hn0 : n0 ≤ T.heap.size) (hl : oLR ad ls Ls) (hk : oKR ad sk ST) (hH : oHR Z T.heap n0 ad KT H) (h : oStep3 KT MT callf R mx (.invokestatic j) p1 p2 pc ls sk H cells slots = some q) :
    oN2 p l e R s m args below meth c Z n0 KT T ad pc Ls ST q := by
  simp only [oStep3, if_neg hp2] at h
  split at h
  · rename_i z zb ml rt rm zn hq
    split at h
    · rename_i hcond
      obtain ⟨hsz, hlen, hfr, hlo, hce, hsl⟩ := hcond
      split at h
      · rename_i r H' hcall
        cases h
        obtain ⟨q1, q2, q3, q4, q5⟩ := oOk_static hop hp2 hq
        obtain ⟨n1, n2⟩ := oNm_spec q5
        have hM := hC p1 _ hq _ _ _ _ hcall (ST.take zn).reverse T.heap ad (hk.take zn).rev hH hn0 []
        have hW : 2 * (mkF m pc Ls ST).monitorRoom + ((ST.drop zn).map fun v => v.category).sum ≤ oCatS (sk.drop zn) := by
          rw [(hk.drop zn).cats]; exact Nat.le_of_eq (Nat.zero_add _)
        obtain ⟨v, vm1, ⟨T', L', k', n'⟩, -, X', ⟨Lc, hQ, l1, y1, z1⟩, st⟩ := Jvm.LawKit.callS X hx (y := z) hown (mvT hZ (hw _ q1)) (mvT hZ (hw _ q2)) (mvT hZ (hw _ q3)) (mvT hZ (hw _ q4)) n1
          (backOf (W := oCatS (sk.drop zn)) hM hZ (hw _ q4) (hw _ q3) hfr hlo) (g := mkF m pc Ls ST) rfl (by rw [hmx, ← hsz]; exact hl.1.symm) (argsL := (ST.take zn).reverse) (rest := ST.drop zn)
          (fun sig hs => by rw [n2 sig hs, List.length_reverse, List.length_take, hk.len]; omega) (by show ST = _; rw [List.reverse_reverse, List.take_append_drop]) hW hd (fun _ _ => ⟨rfl, rfl, hce, hsl⟩)
        dsimp only [Pt.U, Pt.locs, Pt.cells, Pt.slots] at X' l1 y1 z1 st hQ
        subst l1 y1 z1
        obtain ⟨N', hn', ad', pr, hH', hv⟩ := hQ
        exact ⟨T', _, _, ad', X', N.app N', hn', pr, oKR.app ((hk.drop zn).mono pr) hv.kr, hH', st⟩
      · cases h
    · cases h
  · cases h
theorem oN31 {n : Nat} (h : n < 2147483648) : ¬ n.toInt32 < 0 ∧ n.toInt32.toNatClampNeg = n := by
  have q : n.toInt32.toInt = n := len_toInt (by omega)
  constructor
  · rw [Int32.lt_iff_toInt_lt, q]; simp only [Int32.reduceToInt]; omega
  · simp only [Int32.toNatClampNeg, q]; omega
theorem oArv {h : Heap} {a : Addr} {cl : Cell} {vs : List Int32} (A : Arr Z h a cl .int) (hs : cl.slots = (vs.map Value.int).toArray) (hn : vs.length < 2147483648) : Arv Z h a cl.cls .int vs.length.toInt32 (vs.map Value.int) (.int 0) := by
  obtain ⟨h1, h2⟩ := oN31 hn
  refine ⟨cl, A, rfl, by rw [h2]; exact oSz hs, h1, fun k hk => ?_, fun i hi => ?_⟩
  · rw [oSz hs] at hk
    rw [oAt' hs, List.getElem?_eq_getElem hk, List.getD_eq_getElem?_getD, List.getElem?_map, List.getElem?_eq_getElem hk]; rfl
  · rw [oSz hs] at hi
    rw [List.getD_eq_getElem?_getD, List.getElem?_map, List.getElem?_eq_getElem hi]; rfl
theorem oOR.keep {h h' : Heap} {a : Addr} {o : oObj} {us : List Addr} (q : oOR Z h ad KT a o) (K : Keep h h' us) (hn : a ∉ us) : oOR Z h' ad KT a o := by
  rcases o with ⟨k, vs⟩ | ⟨ty, vs⟩
  · obtain ⟨C, n, fs, h1, h0, h2, h3⟩ := q
    exact ⟨C, n, fs, h1, h0, h2.keep K, fun i f v hf hv => by obtain ⟨w, e1, e2⟩ := h3 i f v hf hv; exact ⟨w, e1, e2.keep K hn⟩⟩
  · obtain ⟨c, h1, h2⟩ := q
    exact ⟨c, ⟨K.2.1 _ _ h1.1 hn, h1.2⟩, h2⟩
theorem oHR.keep {h h' : Heap} {b : Addr} {k : Nat} {o o' : oObj} (q : oHR Z h n0 ad KT H) (e : H[k]? = some o) (hb : ad[k]? = some b) (K : Keep h h' [b]) (hn : oOR Z h' ad KT b o') : oHR Z h' n0 ad KT (H.set k o') := by
  refine ⟨by simp [q.1], q.2.1, fun i c hc => ⟨(q.2.2.1 i c hc).1, Nat.lt_of_lt_of_le (q.2.2.1 i c hc).2 K.1⟩, fun j o1 c ho hc => ?_⟩
  by_cases ej : k = j
  · subst ej
    rw [List.getElem?_set_self (List.getElem?_eq_some_iff.mp e).1] at ho
    cases ho
    cases hb.symm.trans hc
    exact hn
  · rw [List.getElem?_set_ne ej] at ho
    exact (q.2.2.2 j o1 c ho hc).keep K (ninS (fun hab => ej (q.2.1 k j b hb (hab ▸ hc))) nin0)
theorem oUs (vs : List Int32) (a n : Nat) (h : a + n ≤ vs.length) : ((List.range n).map fun i => (vs.map Value.int).getD (a + i) (.int 0)) = ((vs.drop a).take n).map Value.int := by
  refine List.ext_getElem? fun i => ?_
  by_cases hi : i < n
  · simp only [List.getElem?_map, List.getElem?_range hi, List.getElem?_take_of_lt hi, List.getElem?_drop, Option.map_some, List.getD_eq_getElem?_getD]
    rw [List.getElem?_eq_getElem (by omega : a + i < vs.length)]; rfl
  · rw [List.getElem?_eq_none (by simpa using Nat.le_of_not_lt hi), List.getElem?_eq_none (by simp; omega)]
theorem oCopy_ok (X : Stand p l e R s m args below meth c T locs cells slots) (hx : p.tables.exec = Jvm.exec) (hZ : Z.Warmed39 s.vm) (hown : s.vm.findClass y.cls = some m.cls) (hw : ∀ d ∈ ws, d.before a0 Z = true) (hmx : c.maxLocals = mx)
    (hd : decode c.code pc = .ok (.invokestatic j, 3)) (hop : oOpOk ws KT CT MT y bytes (pc, .invokestatic j, p1, 2) = true) (N : Fr n0 locs) (hn0 : n0 ≤ T.heap.size) (hl : oLR ad ls Ls) (hk : oKR ad sk ST) (hH : oHR Z T.heap n0 ad KT H) (h : oStep3 KT MT callf R mx (.invokestatic j) p1 2 pc ls sk H cells slots = some q) :
    oN2 p l e R s m args below meth c Z n0 KT T ad pc Ls ST q := by
  simp only [oStep3, if_true] at h
  split at h
  · rename_i nn dp b sp a r
    obtain ⟨_, _, rfl, rfl, _, _, rfl, rfl, _, _, rfl, ⟨ab, hb, rfl⟩, _, _, rfl, rfl, _, ST', rfl, ⟨aa, ha, rfl⟩, hr⟩ := hk
    split at h
    · rename_i vs hA
      split at h
      · rename_i vd hB
        split at h
        · rename_i hcond
          obtain ⟨hsz, h1, h2, h3, h4, h5, h6, h7, h8, h9⟩ := hcond
          cases h
          obtain ⟨q1, q2, q3, q4⟩ := oOk_copy hop
          obtain ⟨ca, Aa, sa⟩ := hH.2.2.2 _ _ _ hA ha
          obtain ⟨cb, Ab, sb⟩ := hH.2.2.2 _ _ _ hB hb
          obtain ⟨z1, z2⟩ := oN31 h6
          obtain ⟨z3, z4⟩ := oN31 h7
          obtain ⟨T', h', L, X', eT, N', K, V', st⟩ := cpA X hx hZ hown (hw _ q1) (hw _ q2) (hw _ q3) (hw _ q4) rfl (oArv Aa sa h6) (oArv Ab sb h7) (us := ((vs.drop sp.toNatClampNeg).take nn.toNatClampNeg).map Value.int) (Or.inl ⟨rfl, rfl⟩) h1 h2 h3 (by rw [z2]; exact h4) (by rw [z4]; exact h5)
            (oUs vs _ _ h4).symm (by rw [List.length_map]; exact h5) N (hH.2.2.1 _ _ hb).1 (g := mkF m pc Ls _) rfl (by rw [hmx, ← hsz]; exact hl.1.symm) (rest := ST') rfl hd h8 (W := oCatS r) (by rw [hr.cats]; exact Nat.le_of_eq (Nat.zero_add _)) (by rw [show nativeFrameWords "java/lang/System" "arraycopy" 5 = 7 from by decide]; exact h9)
          subst eT
          refine ⟨T', L, ST', ad, X', N', Nat.le_trans hn0 K.1, oPre.rfl' ad, hr, hH.keep hB hb K ?_, st⟩
          obtain ⟨c', A', -, S', -, Hs, -⟩ := V'
          rw [z4] at S'
          have hlen : (vd.take dp.toNatClampNeg ++ (vs.drop sp.toNatClampNeg).take nn.toNatClampNeg ++ vd.drop (dp.toNatClampNeg + nn.toNatClampNeg)).length = vd.length := by simp; omega
          refine ⟨c', A', Array.ext (by rw [S', List.size_toArray, List.length_map, hlen]) fun i hi1 hi2 => ?_⟩
          have e1 := Hs i hi1
          rw [Array.getElem?_eq_getElem hi1] at e1
          have e2 := Option.some.inj e1
          rw [e2, ← List.map_take, ← List.map_drop, ← List.map_append, ← List.map_append, List.getD_eq_getElem?_getD]
          rw [List.getElem?_eq_getElem (by rw [List.length_map, hlen, ← S']; exact hi1)]
          simp
        · cases h
      · cases h
    · cases h
  · cases h
theorem oInit_ok (X : Stand p l e R s m args below meth c T locs cells slots) (hx : p.tables.exec = Jvm.exec) (hZ : Z.Warmed39 s.vm) (hown : s.vm.findClass y.cls = some m.cls) (hw : ∀ d ∈ ws, d.before a0 Z = true) (hmx : c.maxLocals = mx)
    (hd : decode c.code pc = .ok (.invokespecial j, 3)) (hop : oOpOk ws KT CT MT y bytes (pc, .invokespecial j, p1, 1) = true) (N : Fr n0 locs) (hn0 : n0 ≤ T.heap.size) (hl : oLR ad ls Ls) (hk : oKR ad sk ST) (hH : oHR Z T.heap n0 ad KT H) (h : oStep3 KT MT callf R mx (.invokespecial j) p1 1 pc ls sk H cells slots = some q) :
    oN2 p l e R s m args below meth c Z n0 KT T ad pc Ls ST q := by
  simp only [oStep3, if_true] at h
  split at h
  · obtain ⟨_, ST', rfl, ⟨a, ha, rfl⟩, hr⟩ := hk
    split at h
    · rename_i hcond
      obtain ⟨hsz, hfr, hlo⟩ := hcond
      cases h
      obtain ⟨q1, q2, q3⟩ := oOk_init hop
      obtain ⟨T', X', eT, st⟩ := initO X hx hZ hown (hw _ q1) (hw _ q2) (hw _ q3) rfl (g := mkF m pc Ls (.ref a :: ST')) rfl (by rw [hmx, ← hsz]; exact hl.1.symm) rfl hd hfr (by rw [hr.cats]; exact Nat.le_of_eq (Nat.zero_add _)) hlo
      exact ⟨T', locs, ST', ad, X', N, by rw [eT]; exact hn0, oPre.rfl' ad, hr, by rw [eT]; exact hH, st⟩
    · cases h
  · cases h
theorem oSpecial_ok (hC : ∀ (k : Nat) (q : oMt), MT[k]? = some q → oCallOk l Z n0 KT q (callf k)) (X : Stand p l e R s m args below meth c T locs cells slots) (hx : p.tables.exec = Jvm.exec) (hZ : Z.Warmed39 s.vm) (hown : s.vm.findClass y.cls = some m.cls) (hw : ∀ d ∈ ws, d.before a0 Z = true) (hmx : c.maxLocals = mx) (hp2 : ¬ p2 = 1)
    (hd : decode c.code pc = .ok (.invokespecial j, 3)) (hop : oOpOk ws KT CT MT y bytes (pc, .invokespecial j, p1, p2) = true) (N : Fr n0 locs) (hn0 : n0 ≤ T.heap.size) (hl : oLR ad ls Ls) (hk : oKR ad sk ST) (hH : oHR Z T.heap n0 ad KT H) (h : oStep3 KT MT callf R mx (.invokespecial j) p1 p2 pc ls sk H cells slots = some q) :
    oN2 p l e R s m args below meth c Z n0 KT T ad pc Ls ST q := by
  simp only [oStep3, if_neg hp2] at h
  split at h
  · rename_i z zb ml rt rm zn hq
    split at h
    · rename_i k r hdrop
      have hkd := hk.drop zn
      rw [hdrop] at hkd
      obtain ⟨_, ST', hST, ⟨a, ha, rfl⟩, hr⟩ := hkd
      split at h
      · rename_i hcond
        obtain ⟨hsz, hfr, hlo, hce, hsl⟩ := hcond
        split at h
        · rename_i rv H' hcall
          cases h
          obtain ⟨q0, rfl, q1, q2, q3, q4, q5⟩ := oOk_special hop hp2 hq
          obtain ⟨n1, n2⟩ := oNm_spec q5
          have hlen : zn ≤ ST.length := by
            have := congrArg List.length hST
            simp only [List.length_drop, List.length_cons] at this
            omega
          have hM := hC p1 _ hq _ _ _ _ hcall (.ref a :: (ST.take zn).reverse) T.heap ad ⟨_, _, rfl, ⟨a, ha, rfl⟩, (hk.take zn).rev⟩ hH hn0 []
          have hW : 2 * (mkF m pc Ls ST).monitorRoom + (ST'.map fun v => v.category).sum ≤ oCatS r := by
            rw [hr.cats]; exact Nat.le_of_eq (Nat.zero_add _)
          obtain ⟨v, vm1, ⟨T', L', k', n'⟩, -, X', ⟨Lc, hQ, l1, y1, z1⟩, st⟩ := Jvm.LawKit.callI X hx (y := z) hown q0 (mvT hZ (hw _ q1)) (mvT hZ (hw _ q2)) (mvT hZ (hw _ q4)) n1
            (backOf (W := oCatS r) hM hZ (hw _ q4) (hw _ q3) hfr hlo) (g := mkF m pc Ls ST) rfl (by rw [hmx, ← hsz]; exact hl.1.symm) (a := a) (argsL := (ST.take zn).reverse) (rest := ST')
            (fun sig hs => by rw [n2 sig hs, List.length_reverse, List.length_take]; omega) (by show ST = _; rw [List.reverse_reverse, ← hST, List.take_append_drop]) hW hd (fun _ _ => ⟨rfl, rfl, hce, hsl⟩)
          dsimp only [Pt.U, Pt.locs, Pt.cells, Pt.slots] at X' l1 y1 z1 st hQ
          subst l1 y1 z1
          obtain ⟨N', hn', ad', pr, hH', hv⟩ := hQ
          exact ⟨T', _, _, ad', X', N.app N', hn', pr, oKR.app (hr.mono pr) hv.kr, hH', st⟩
        · cases h
      · cases h
    · cases h
  · cases h
theorem oVirtual_ok (hC : ∀ (k : Nat) (q : oMt), MT[k]? = some q → oCallOk l Z n0 KT q (callf k)) (X : Stand p l e R s m args below meth c T locs cells slots) (hx : p.tables.exec = Jvm.exec) (hZ : Z.Warmed39 s.vm) (hown : s.vm.findClass y.cls = some m.cls) (hw : ∀ d ∈ ws, d.before a0 Z = true) (hmx : c.maxLocals = mx)
    (hd : decode c.code pc = .ok (.invokevirtual j, 3)) (hop : oOpOk ws KT CT MT y bytes (pc, .invokevirtual j, p1, p2) = true) (N : Fr n0 locs) (hn0 : n0 ≤ T.heap.size) (hl : oLR ad ls Ls) (hk : oKR ad sk ST) (hH : oHR Z T.heap n0 ad KT H) (h : oStep3 KT MT callf R mx (.invokevirtual j) p1 p2 pc ls sk H cells slots = some q) :
    oN2 p l e R s m args below meth c Z n0 KT T ad pc Ls ST q := by
  simp only [oStep3] at h
  split at h
  · rename_i z zb ml rt rm zn hq
    split at h
    · rename_i k r hdrop
      have hkd := hk.drop zn
      rw [hdrop] at hkd
      obtain ⟨_, ST', hST, ⟨a, ha, rfl⟩, hr⟩ := hkd
      split at h
      · rename_i c1 vs1 hHk
        split at h
        · rename_i hcond
          obtain ⟨rfl, hsz, hfr, hlo, hce, hsl⟩ := hcond
          split at h
          · rename_i rv H' hcall
            cases h
            obtain ⟨C, nC, fs, k1, -, E, -⟩ := hH.2.2.2 _ _ _ hHk ha
            obtain ⟨q1, q2, q3, q4, q5, q6, q7⟩ := oOk_virtual hop hq k1
            obtain ⟨n1, n2⟩ := oNm_spec q7
            have hlen : zn ≤ ST.length := by
              have := congrArg List.length hST
              simp only [List.length_drop, List.length_cons] at this
              omega
            have hM := hC p1 _ hq _ _ _ _ hcall (.ref a :: (ST.take zn).reverse) T.heap ad ⟨_, _, rfl, ⟨a, ha, rfl⟩, (hk.take zn).rev⟩ hH hn0 []
            have hW : 2 * (mkF m pc Ls ST).monitorRoom + (ST'.map fun v => v.category).sum ≤ oCatS r := by
              rw [hr.cats]; exact Nat.le_of_eq (Nat.zero_add _)
            obtain ⟨cB, kB, b1, b2, b3⟩ := isOf (T := T) hZ rfl E
            obtain ⟨v, vm1, ⟨T', L', k', n'⟩, -, X', ⟨Lc, hQ, l1, y1, z1⟩, st⟩ := X.virtualBack hx (y := z) (z := z) hown (mvT hZ (hw _ q1)) (mvT hZ (hw _ q2)) (notFace_of_selects (args := #[]) (mvT hZ (hw _ q3))) (mvT hZ (hw _ q3)) (mvT hZ (hw _ q4)) n1
              (backOf (W := oCatS r) hM hZ (hw _ q6) (hw _ q5) hfr hlo) b1 b3 (g := mkF m pc Ls ST) rfl (by rw [hmx, ← hsz]; exact hl.1.symm) (Steps.refl _) (argsL := (ST.take zn).reverse) (rest := ST')
              (fun sig hs => by rw [n2 sig hs, List.length_reverse, List.length_take]; omega) (by show ST = _; rw [List.reverse_reverse, ← hST, List.take_append_drop]) hW hd (fun _ _ => ⟨rfl, rfl, hce, hsl⟩)
            dsimp only [Pt.U, Pt.locs, Pt.cells, Pt.slots] at X' l1 y1 z1 st hQ
            subst l1 y1 z1
            obtain ⟨N', hn', ad', pr, hH', hv⟩ := hQ
            exact ⟨T', _, _, ad', X', N.app N', hn', pr, oKR.app (hr.mono pr) hv.kr, hH', fun t k => st.trans k⟩
          · cases h
        · cases h
      · cases h
    · cases h
  · cases h
theorem oStep3_ok (hC : ∀ (k : Nat) (q : oMt), MT[k]? = some q → oCallOk l Z n0 KT q (callf k)) (X : Stand p l e R s m args below meth c T locs cells slots) (hx : p.tables.exec = Jvm.exec) (hZ : Z.Warmed39 s.vm) (hown : s.vm.findClass y.cls = some m.cls) (hw : ∀ d ∈ ws, d.before a0 Z = true) (hmx : c.maxLocals = mx) {i : Instr} (hby : c.code = bytes)
    (hop : oOpOk ws KT CT MT y bytes (pc, i, p1, p2) = true) (N : Fr n0 locs) (hn0 : n0 ≤ T.heap.size) (hl : oLR ad ls Ls) (hk : oKR ad sk ST) (hH : oHR Z T.heap n0 ad KT H) (h : oStep3 KT MT callf R mx i p1 p2 pc ls sk H cells slots = some q) :
    oN2 p l e R s m args below meth c Z n0 KT T ad pc Ls ST q := by
  obtain ⟨n, hd, hn⟩ := oOk_dec hop
  rw [← hby] at hd
  cases i
  all_goals (first | exact oNone h | (have hn' := hn.resolve_right (fun q => Bool.false_ne_true q); subst hn'))
  case invokestatic j =>
    by_cases hp : p2 = 2
    · subst hp
      exact oCopy_ok X hx hZ hown hw hmx hd hop N hn0 hl hk hH h
    · exact oStatic_ok hC X hx hZ hown hw hmx hp hd hop N hn0 hl hk hH h
  case invokespecial j =>
    by_cases hp : p2 = 1
    · subst hp
      exact oInit_ok X hx hZ hown hw hmx hd hop N hn0 hl hk hH h
    · exact oSpecial_ok hC X hx hZ hown hw hmx hp hd hop N hn0 hl hk hH h
  case invokevirtual j => exact oVirtual_ok hC X hx hZ hown hw hmx hd hop N hn0 hl hk hH h
end Sound

/-! A7. many steps; a method's contract -/
def oAt (p : Program) (l : Launch) (e : Env) (R : Jvm.Room) (s : State) (m : MethodId) (args : Array Value) (below : List Frame) (meth : Method) (c : Code) (Z : State) (n0 : Nat) (KT : List oKl) (T : State) (st : oSt) (Ls : Array Slot) (ST : List Value) (ad : List Addr) : Prop :=
  ∃ locs, Stand p l e R s m args below meth c T locs st.2.2.2.2.1 st.2.2.2.2.2 ∧ Fr n0 locs ∧ n0 ≤ T.heap.size ∧ oLR ad st.2.1 Ls ∧ oKR ad st.2.2.1 ST ∧ oHR Z T.heap n0 ad KT st.2.2.2.1
def oReach (l : Launch) (Z : State) (n0 : Nat) (KT : List oKl) (q : oMt) (st st' : oSt) : Prop :=
  ∀ (p : Program) (e : Env) (s : State) (m : MethodId) (args : Array Value) (below : List Frame) (meth : Method) (c : Code), p.tables.exec = Jvm.exec → Z.Warmed39 s.vm → s.vm.findClass q.1.cls = some m.cls → meth.name = q.1.name → c.code = q.2.1 → c.maxLocals = q.2.2.1 →
    ∀ (T : State) (Ls : Array Slot) (ST : List Value) (ad : List Addr), oAt p l e q.2.2.2.2.1 s m args below meth c Z n0 KT T st Ls ST ad →
      ∃ T' Ls' ST' ad', oAt p l e q.2.2.2.2.1 s m args below meth c Z n0 KT T' st' Ls' ST' ad' ∧ oPre ad ad' ∧
        ∀ target, Steps p.tables e below (T'.setTop (mkF m st'.1 Ls' ST')) target → Steps p.tables e below (T.setTop (mkF m st.1 Ls ST)) target
section Many
variable {l : Launch} {Z : State} {a0 : Array Value} {n0 : Nat} {ws : List Jvm.Cond} {KT : List oKl} {CT : List Value} {MT : List oMt} {callf : oCf} {q : oMt} {st st' st'' : oSt} {ops : List oOp}
theorem oReach.rfl' : oReach l Z n0 KT q st st := fun p e s m args below meth c _ _ _ _ _ _ T Ls ST ad h => ⟨T, Ls, ST, ad, h, oPre.rfl' ad, fun _ k => k⟩
theorem oReach.trans (h : oReach l Z n0 KT q st st') (h' : oReach l Z n0 KT q st' st'') : oReach l Z n0 KT q st st'' :=
  fun p e s m args below meth c a1 a2 a3 a4 a5 a6 T Ls ST ad hA => by
    obtain ⟨T1, Ls1, ST1, ad1, hA1, pr1, k1⟩ := h p e s m args below meth c a1 a2 a3 a4 a5 a6 T Ls ST ad hA
    obtain ⟨T2, Ls2, ST2, ad2, hA2, pr2, k2⟩ := h' p e s m args below meth c a1 a2 a3 a4 a5 a6 T1 Ls1 ST1 ad1 hA1
    exact ⟨T2, Ls2, ST2, ad2, hA2, pr1.trans pr2, fun t k => k1 t (k2 t k)⟩
theorem oReach.step (hw : ∀ d ∈ ws, d.before a0 Z = true) (hK : KT.all (oKOk ws) = true) (hC : ∀ (k : Nat) (q : oMt), MT[k]? = some q → oCallOk l Z n0 KT q (callf k)) {op : Instr × Nat × Nat} (hop : oOpOk ws KT CT MT q.1 q.2.1 (st.1, op) = true)
    (h : oStep KT CT MT callf q.2.2.2.2.1 q.2.2.1 op st = some st') : oReach l Z n0 KT q st st' := by
  intro p e s m args below meth c hx hZ hown hnm hby hmx T Ls ST ad ⟨locs, X, N, hn0, hl, hk, hH⟩
  obtain ⟨pc, ls, sk, H, cells, slots⟩ := st
  obtain ⟨i, p1, p2⟩ := op
  dsimp only at hop X N hn0 hl hk hH ⊢
  simp only [oStep] at h
  split at h
  · rename_i pc' ls' sk' h1
    cases h
    have hd := oOk_dec hop
    rw [← hby] at hd
    obtain ⟨Ls', ST', r1, r2, r3⟩ := oStep1_ok X hx hZ hown hw hd (fun j hj x hx' => by subst hj; exact oOk_ldc hop hx') (fun j hj x hx' => by subst hj; exact oOk_ldc2 hop hx') hl hk h1
    exact ⟨T, Ls', ST', ad, ⟨locs, X, N, hn0, r1, r2, hH⟩, oPre.rfl' ad, r3⟩
  · split at h
    · rename_i pc' sk' H' c' s' h2
      cases h
      obtain ⟨T', locs', ST', ad', X', N', hn', pr, hk', hH', k⟩ := oStep2_ok (Ls := Ls) X hx hZ hown hnm hw hK hby hop N hn0 hk hH h2
      exact ⟨T', Ls, ST', ad', ⟨locs', X', N', hn', hl.mono pr, hk', hH'⟩, pr, k⟩
    · split at h
      · rename_i pc' sk' H' c' s' h3
        cases h
        obtain ⟨T', locs', ST', ad', X', N', hn', pr, hk', hH', k⟩ := oStep3_ok hC X hx hZ hown hw hmx hby hop N hn0 hl hk hH h3
        exact ⟨T', Ls, ST', ad', ⟨locs', X', N', hn', hl.mono pr, hk', hH'⟩, pr, k⟩
      · cases h
theorem oFetch_mem : ∀ {ops : List oOp} {pc : Nat} {op : Instr × Nat × Nat}, oFetch ops pc = some op → (pc, op) ∈ ops
  | [], _, _, h => by cases h
  | (a, r) :: t, pc, op, h => by
    cases hb : Nat.beq a pc with
    | true =>
      simp only [oFetch, hb] at h
      cases h
      rw [Nat.eq_of_beq_eq_true hb]
      exact List.mem_cons_self ..
    | false =>
      simp only [oFetch, hb] at h
      exact List.mem_cons_of_mem _ (oFetch_mem h)
theorem oReach.run (hw : ∀ d ∈ ws, d.before a0 Z = true) (hK : KT.all (oKOk ws) = true) (hC : ∀ (k : Nat) (q : oMt), MT[k]? = some q → oCallOk l Z n0 KT q (callf k)) (hops : ops.all (oOpOk ws KT CT MT q.1 q.2.1) = true) :
    ∀ {n : Nat} {st st' : oSt}, oRun KT CT MT callf q.2.2.2.2.1 q.2.2.1 ops n st = some st' → oReach l Z n0 KT q st st'
  | 0, st, st', h => by cases h; exact oReach.rfl'
  | n + 1, st, st', h => by
    simp only [oRun] at h
    split at h
    · cases h
    · rename_i op hf
      split at h
      · cases h; exact oReach.rfl'
      · split at h
        · cases h
        · rename_i st1 h1
          exact (oReach.step hw hK hC (List.all_eq_true.mp hops _ (oFetch_mem hf)) h1).trans (oReach.run hw hK hC hops h)
theorem oRet_dec (hops : ops.all (oOpOk ws KT CT MT q.1 q.2.1) = true) {pc : Nat} {i : Instr} {r : Nat × Nat} (h : oFetch ops pc = some (i, r)) (hs : oLen i = 1) (hns : oSw i = false) : decode q.2.1 pc = .ok (i, 1) := by
  obtain ⟨p1, p2⟩ := r
  obtain ⟨n, h1, h2⟩ := oOk_dec (List.all_eq_true.mp hops _ (oFetch_mem h))
  rcases h2 with rfl | h2
  · rw [h1, hs]
  · rw [hns] at h2; cases h2
theorem oMet_of_reach0 (hpn : plainFor q.1 = true) (hops : ops.all (oOpOk ws KT CT MT q.1 q.2.1) = true) {vs : List Value} {H H' : List oObj} {r : Option Value} (hR : oReach l Z n0 KT q (0, argsToLocals vs.toArray q.2.2.1, [], H, 0, 0) st') (hret : oRet q ops st' = some (r, H')) :
    oMet l Z n0 KT q vs H r H' := by
  intro wv h0 ad hk hH hn ws0
  refine MetFree.of_bodySF hpn hisR ?_
  intro p e s m args below meth c s₁ Bd hml0 hP hK
  obtain ⟨rfl, hZ, hh⟩ := hP
  have hx := Bd.exec
  have hby := Bd.bytes
  have hown : s.vm.findClass q.1.cls = some m.cls := findClass_of_methodNamed Bd.named
  have hnm := (name_of_methodNamed Bd.named Bd.method).1
  have X0 : Stand p l e q.2.2.2.2.1 s m wv.toArray below meth c s₁ [] 0 0 := Stand.of_body Bd
  have e0 : s₁.heap = h0 := by rw [← hh, Bd.state]; rfl
  obtain ⟨T', Ls', ST', ad', ⟨locs', X', N', hn', hl', hk', hH'⟩, pr, st⟩ := hR p e s m _ below meth c hx hZ hown hnm hby hml0 s₁ (argsToLocals wv.toArray q.2.2.1) [] ad ⟨[], X0, Fr.nil n0, by rw [e0]; exact hn, oLR.entry hk _, rfl, by rw [e0]; exact hH⟩
  obtain ⟨pc, ls, sk, H1, cells, slots⟩ := st'
  dsimp only at X' N' hn' hl' hk' hH' st
  simp only [oRet] at hret
  split at hret
  · rename_i hroom
    split at hret
    · rename_i r1 hf
      have hd := oRet_dec hops hf rfl rfl
      rw [← hby] at hd
      split at hret
      · rename_i hrt
        cases hret
        cases hk'
        have hrt' := Bd.returns
        rw [hrt] at hrt'
        obtain ⟨fs, hr, hrun, hended, hW, hsame⟩ := X'.leave (v := none) (fun _ => rfl)
        exact ⟨_, _, st _ (X'.returnOut hx hrt' hd hr), hrun, hended, _, _, rfl, ⟨N', hn', ad', pr, hH', rfl⟩, ⟨_, rfl⟩, hW, hsame.mono hroom.1 hroom.2⟩
      · cases hret
    · rename_i r1 hf
      have hd := oRet_dec hops hf rfl rfl
      rw [← hby] at hd
      split at hret
      · rename_i x rest
        obtain ⟨_, ST1, rfl, rfl, hr1⟩ := hk'
        split at hret
        · rename_i hc
          cases hret
          have hrt' := Bd.returns
          obtain ⟨c1, c2⟩ := hc
          have ht : ∃ t, q.2.2.2.1 = some t ∧ (t = .int ∨ t = .boolean ∨ t = .byte ∨ t = .char ∨ t = .short) ∧ narrow t (.int x) = .int x := by
            cases hq : q.2.2.2.1 with
            | none => rw [hq] at c1; cases c1
            | some t =>
              rw [hq] at c1 c2
              refine ⟨t, rfl, ?_, by cases t <;> first | rfl | exact of_decide_eq_true c2⟩
              cases t <;> first | exact Or.inl rfl | exact Or.inr (Or.inl rfl) | exact Or.inr (Or.inr (Or.inl rfl)) | exact Or.inr (Or.inr (Or.inr (Or.inl rfl))) | exact Or.inr (Or.inr (Or.inr (Or.inr rfl))) | cases c1
          obtain ⟨t, hq, ht1, ht2⟩ := ht
          rw [hq] at hrt'
          obtain ⟨fs, hr, hrun, hended, hW, hsame⟩ := X'.leave (v := some (.int x)) (fun h => by rw [hrt'] at h; cases h)
          exact ⟨_, _, st _ (retOut X' hx hrt' ht2 (Or.inl ⟨rfl, ht1, x, rfl⟩) hd hr), hrun, hended, _, _, rfl, ⟨N', hn', ad', pr, hH', _, rfl, rfl⟩, ⟨_, rfl⟩, hW, hsame.mono hroom.1 hroom.2⟩
        · cases hret
      · cases hret
    · rename_i r1 hf
      have hd := oRet_dec hops hf rfl rfl
      rw [← hby] at hd
      split at hret
      · rename_i x rest
        obtain ⟨_, ST1, rfl, rfl, hr1⟩ := hk'
        split at hret
        · rename_i hc
          cases hret
          have hrt' := Bd.returns
          rw [hc] at hrt'
          obtain ⟨fs, hr, hrun, hended, hW, hsame⟩ := X'.leave (v := some (.long x)) (fun h => by rw [hrt'] at h; cases h)
          exact ⟨_, _, st _ (retOut X' hx hrt' rfl (Or.inr (Or.inl ⟨rfl, rfl, x, rfl⟩)) hd hr), hrun, hended, _, _, rfl, ⟨N', hn', ad', pr, hH', _, rfl, rfl⟩, ⟨_, rfl⟩, hW, hsame.mono hroom.1 hroom.2⟩
        · cases hret
      · cases hret
    · rename_i r1 hf
      have hd := oRet_dec hops hf rfl rfl
      rw [← hby] at hd
      have key : ∀ (v w : Value) (rest ST1 : List Value), ST' = w :: ST1 → oVR ad' v w → w.isRef = true → oRefT q.2.2.2.1 = true → r = some v → H' = H1 →
          ∃ s₂ o, Steps p.tables e below (s₁.setTop (entryFrame m wv.toArray q.2.2.1)) s₂ ∧ s₂.status = .running ∧ Ended s₂ below o ∧ ∃ v L, o = .returned v ∧ oQ Z n0 KT ad H' r v s₂.heap L ∧ FrameEnd s o s₂ L q.2.2.2.2.1.cells q.2.2.2.2.1.slots := by
        intro v w rest ST1 e1 hv href hT e2 e3
        subst e1 e2 e3
        have hrt' := Bd.returns
        have ht : ∃ t, q.2.2.2.1 = some t ∧ t.isReference = true := by
          cases hq : q.2.2.2.1 with
          | none => rw [hq] at hT; cases hT
          | some t => rw [hq] at hT; exact ⟨t, rfl, hT⟩
        obtain ⟨t, hq, ht1⟩ := ht
        rw [hq] at hrt'
        have hnw : narrow t w = w := by
          rcases ref_cases href with rfl | ⟨a, rfl⟩ <;> cases t <;> rfl
        obtain ⟨fs, hr, hrun, hended, hW, hsame⟩ := X'.leave (v := some w) (fun h => by rw [hrt'] at h; cases h)
        exact ⟨_, _, st _ (retOut X' hx hrt' hnw (Or.inr (Or.inr (Or.inr (Or.inr ⟨rfl, ht1, href⟩)))) hd hr), hrun, hended, _, _, rfl, ⟨N', hn', ad', pr, hH', _, rfl, hv⟩, ⟨_, rfl⟩, hW, hsame.mono hroom.1 hroom.2⟩
      split at hret
      · rename_i k rest
        obtain ⟨w, ST1, e1, ⟨a, ha, rfl⟩, hr1⟩ := hk'
        split at hret
        · rename_i hc
          cases hret
          exact key (.ref k) _ rest ST1 e1 ⟨a, ha, rfl⟩ rfl hc rfl rfl
        · cases hret
      · rename_i rest
        obtain ⟨w, ST1, e1, rfl, hr1⟩ := hk'
        split at hret
        · rename_i hc
          cases hret
          exact key .null _ rest ST1 e1 rfl rfl hc rfl rfl
        · cases hret
      · cases hret
    · cases hret
  · cases hret
theorem oBody_ok {fuel : Nat} (hw : ∀ d ∈ ws, d.before a0 Z = true) (hK : KT.all (oKOk ws) = true) (hC : ∀ (k : Nat) (q : oMt), MT[k]? = some q → oCallOk l Z n0 KT q (callf k)) (hpn : plainFor q.1 = true) (hops : ops.all (oOpOk ws KT CT MT q.1 q.2.1) = true) :
    oCallOk l Z n0 KT q (oBody KT CT MT callf q ops fuel) := fun vs H r H' h => by
  unfold oBody at h
  split at h
  · rename_i st hst
    exact oMet_of_reach0 hpn hops (oReach.run hw hK hC hops hst) h
  · cases h
/-! the table of what is proved of the callees -/
def oCall (fs : List (List Value → List oObj → Option (Option Value × List oObj))) : oCf := fun k => match fs[k]? with
  | some f => f
  | none => fun _ _ => none
def oFsOk (l : Launch) (Z : State) (n0 : Nat) (KT : List oKl) (MT : List oMt) (fs : List (List Value → List oObj → Option (Option Value × List oObj))) : Prop := ∀ (k : Nat) (q : oMt) (f : List Value → List oObj → Option (Option Value × List oObj)), MT[k]? = some q → fs[k]? = some f → oCallOk l Z n0 KT q f
theorem oFsOk.nil : oFsOk l Z n0 KT MT [] := fun k q f _ h => by simp at h
theorem oFsOk.snoc {fs : List (List Value → List oObj → Option (Option Value × List oObj))} {f : List Value → List oObj → Option (Option Value × List oObj)} (h : oFsOk l Z n0 KT MT fs) (hq : MT[fs.length]? = some q) (hf : oCallOk l Z n0 KT q f) : oFsOk l Z n0 KT MT (fs ++ [f]) := fun k q' g hk hg => by
  by_cases hlt : k < fs.length
  · rw [List.getElem?_append_left hlt] at hg
    exact h k q' g hk hg
  · rw [List.getElem?_append_right (Nat.le_of_not_lt hlt)] at hg
    obtain ⟨h1, h2⟩ := List.getElem?_eq_some_iff.mp hg
    simp only [List.length_singleton, Nat.lt_one_iff] at h1
    have hk' : k = fs.length := by omega
    subst hk'
    cases hq.symm.trans hk
    simp only [Nat.sub_self, List.getElem_singleton] at h2
    subst h2
    exact hf
theorem oFsOk.call {fs : List (List Value → List oObj → Option (Option Value × List oObj))} (h : oFsOk l Z n0 KT MT fs) : ∀ (k : Nat) (q : oMt), MT[k]? = some q → oCallOk l Z n0 KT q (oCall fs k) := fun k q hk => by
  unfold oCall
  split
  · rename_i f hf
    exact h k q f hk hf
  · intro vs H r H' hh; cases hh
/-! forgetting what local variables hold -/
def oHv : List Bool → List Slot → List Slot
  | true :: ms, .val v :: ls => (if v.category = 2 then .val (.double 0) else .val (.retAddr 0)) :: oHv ms ls
  | _ :: ms, x :: ls => x :: oHv ms ls
  | [], ls => ls
  | _, [] => []
theorem oHv_len : ∀ (ms : List Bool) (ls : List Slot), (oHv ms ls).length = ls.length
  | [], _ => by simp [oHv]
  | _ :: _, [] => by simp [oHv]
  | b :: ms, x :: ls => by cases b <;> cases x <;> simp [oHv, oHv_len ms ls]
theorem oHv_at {ad : List Addr} : ∀ (ms : List Bool) (ls : List Slot) (i : Nat) (x' y : Slot), (oHv ms ls)[i]? = some x' → (∀ x, ls[i]? = some x → oSR ad x y) → oSR ad x' y
  | [], ls, i, x', y, h, k => by simp only [oHv] at h; exact k _ h
  | b :: ms, [], i, x', y, h, k => by simp [oHv] at h
  | b :: ms, x :: ls, 0, x', y, h, k => by
    have kx := k x rfl
    cases b <;> cases x <;> simp only [oHv, List.getElem?_cons_zero, Option.some.injEq] at h
    all_goals first | (subst h; exact kx) | skip
    obtain ⟨w, rfl, hw⟩ := kx
    split at h
    · rename_i hc
      subst h
      exact ⟨w, rfl, hw.cat.trans hc⟩
    · rename_i hc
      subst h
      refine ⟨w, rfl, ?_⟩
      show w.category = 1
      rw [hw.cat]
      revert hc
      rename_i v
      cases v <;> simp [Value.category]
  | b :: ms, x :: ls, i + 1, x', y, h, k => by
    cases b <;> cases x <;> simp only [oHv, List.getElem?_cons_succ] at h <;> exact oHv_at ms ls i x' y h (fun z hz => k z (by simpa using hz))
theorem oReach.hav (ms : List Bool) {pc : Nat} {ls : Array Slot} {sk : List Value} {H : List oObj} {cl sl : Nat} : oReach l Z n0 KT q (pc, ls, sk, H, cl, sl) (pc, (oHv ms ls.toList).toArray, sk, H, cl, sl) :=
  fun p e s m args below meth c _ _ _ _ _ _ T Ls ST ad ⟨locs, X, N, hn0, hl, hk, hH⟩ => by
    refine ⟨T, Ls, ST, ad, ⟨locs, X, N, hn0, ⟨?_, fun i x' hx' => ?_⟩, hk, hH⟩, oPre.rfl' ad, fun _ k => k⟩
    · dsimp only
      rw [List.size_toArray, oHv_len, Array.length_toList]
      exact hl.1
    · dsimp only at hx'
      rw [List.getElem?_toArray] at hx'
      have hi : i < ls.size := by
        have := (List.getElem?_eq_some_iff.mp hx').1
        rw [oHv_len, Array.length_toList] at this
        exact this
      obtain ⟨y, hy, -⟩ := hl.2 i _ (Array.getElem?_eq_getElem hi)
      refine ⟨y, hy, oHv_at ms ls.toList i x' y hx' fun x hx => ?_⟩
      rw [Array.getElem?_toList] at hx
      obtain ⟨y', hy', hr⟩ := hl.2 i x hx
      cases hy.symm.trans hy'
      exact hr
theorem oHR.nil {h : Heap} : oHR Z h n0 [] KT [] := ⟨rfl, fun i j a hi _ => by simp at hi, fun i a hi => by simp at hi, fun k o a hk _ => by simp at hk⟩
end Many
/-! A8. single steps that ask something of symbols -/
section Single
variable {l : Launch} {Z : State} {a0 : Array Value} {n0 : Nat} {ws : List Jvm.Cond} {KT : List oKl} {CT : List Value} {MT : List oMt} {callf : oCf} {q : oMt} {ops : List oOp} {pc pc' : Nat} {ls : Array Slot} {r : List Value} {H : List oObj} {cl sl : Nat} {pp : Nat × Nat}
theorem oReach.one (hw : ∀ d ∈ ws, d.before a0 Z = true) (hK : KT.all (oKOk ws) = true) (hC : ∀ (k : Nat) (q : oMt), MT[k]? = some q → oCallOk l Z n0 KT q (callf k)) (hops : ops.all (oOpOk ws KT CT MT q.1 q.2.1) = true) {st st' : oSt} {op : Instr × Nat × Nat} (hf : oFetch ops st.1 = some op) (h : oStep KT CT MT callf q.2.2.2.2.1 q.2.2.1 op st = some st') : oReach l Z n0 KT q st st' :=
  oReach.step hw hK hC (List.all_eq_true.mp hops _ (oFetch_mem hf)) h
theorem oReach.icmpY (hw : ∀ d ∈ ws, d.before a0 Z = true) (hK : KT.all (oKOk ws) = true) (hC : ∀ (k : Nat) (q : oMt), MT[k]? = some q → oCallOk l Z n0 KT q (callf k)) (hops : ops.all (oOpOk ws KT CT MT q.1 q.2.1) = true) {cd : ClassFile.Cond} {o : Int} {x y : Int32}
    (hf : oFetch ops pc = some (.if_icmp cd o, pp)) (h : if_icmp.holds cd x y = true) (ho : 0 ≤ (pc : Int) + o) (hp : ((pc : Int) + o).toNat = pc') : oReach l Z n0 KT q (pc, ls, .int y :: .int x :: r, H, cl, sl) (pc', ls, r, H, cl, sl) :=
  oReach.one (callf := callf) hw hK hC hops hf (by simp only [oStep, oStep1, if_pos h, oJmp, if_pos ho, hp])
theorem oReach.icmpN (hw : ∀ d ∈ ws, d.before a0 Z = true) (hK : KT.all (oKOk ws) = true) (hC : ∀ (k : Nat) (q : oMt), MT[k]? = some q → oCallOk l Z n0 KT q (callf k)) (hops : ops.all (oOpOk ws KT CT MT q.1 q.2.1) = true) {cd : ClassFile.Cond} {o : Int} {x y : Int32}
    (hf : oFetch ops pc = some (.if_icmp cd o, pp)) (h : ¬ if_icmp.holds cd x y = true) : oReach l Z n0 KT q (pc, ls, .int y :: .int x :: r, H, cl, sl) (pc + 3, ls, r, H, cl, sl) :=
  oReach.one (callf := callf) hw hK hC hops hf (by simp only [oStep, oStep1, if_neg h])
theorem oReach.ifY (hw : ∀ d ∈ ws, d.before a0 Z = true) (hK : KT.all (oKOk ws) = true) (hC : ∀ (k : Nat) (q : oMt), MT[k]? = some q → oCallOk l Z n0 KT q (callf k)) (hops : ops.all (oOpOk ws KT CT MT q.1 q.2.1) = true) {cd : ClassFile.Cond} {o : Int} {x : Int32}
    (hf : oFetch ops pc = some (.ifCond cd o, pp)) (h : ifCond.holds cd x = true) (ho : 0 ≤ (pc : Int) + o) (hp : ((pc : Int) + o).toNat = pc') : oReach l Z n0 KT q (pc, ls, .int x :: r, H, cl, sl) (pc', ls, r, H, cl, sl) :=
  oReach.one (callf := callf) hw hK hC hops hf (by simp only [oStep, oStep1, if_pos h, oJmp, if_pos ho, hp])
theorem oReach.ifN (hw : ∀ d ∈ ws, d.before a0 Z = true) (hK : KT.all (oKOk ws) = true) (hC : ∀ (k : Nat) (q : oMt), MT[k]? = some q → oCallOk l Z n0 KT q (callf k)) (hops : ops.all (oOpOk ws KT CT MT q.1 q.2.1) = true) {cd : ClassFile.Cond} {o : Int} {x : Int32}
    (hf : oFetch ops pc = some (.ifCond cd o, pp)) (h : ¬ ifCond.holds cd x = true) : oReach l Z n0 KT q (pc, ls, .int x :: r, H, cl, sl) (pc + 3, ls, r, H, cl, sl) :=
  oReach.one (callf := callf) hw hK hC hops hf (by simp only [oStep, oStep1, if_neg h])
theorem oReach.sw (hw : ∀ d ∈ ws, d.before a0 Z = true) (hK : KT.all (oKOk ws) = true) (hC : ∀ (k : Nat) (q : oMt), MT[k]? = some q → oCallOk l Z n0 KT q (callf k)) (hops : ops.all (oOpOk ws KT CT MT q.1 q.2.1) = true) {dflt o : Int} {prs : Array (Int × Int)} {x : Int32}
    (hf : oFetch ops pc = some (.lookupswitch dflt prs, pp)) (hs : (prs.toList.zip (prs.toList.drop 1)).all (fun q => decide (q.1.1 < q.2.1)) = true) (h : lookupswitch.offset prs.toList dflt x.toInt = o) (ho : 0 ≤ (pc : Int) + o) (hp : ((pc : Int) + o).toNat = pc') :
    oReach l Z n0 KT q (pc, ls, .int x :: r, H, cl, sl) (pc', ls, r, H, cl, sl) :=
  oReach.one (callf := callf) hw hK hC hops hf (by simp only [oStep, oStep1, if_pos hs, h, oJmp, if_pos ho, hp])
theorem oReach.iald (hw : ∀ d ∈ ws, d.before a0 Z = true) (hK : KT.all (oKOk ws) = true) (hC : ∀ (k : Nat) (q : oMt), MT[k]? = some q → oCallOk l Z n0 KT q (callf k)) (hops : ops.all (oOpOk ws KT CT MT q.1 q.2.1) = true) {k : Nat} {j x : Int32} {vs : List Int32}
    (hf : oFetch ops pc = some (.iaload, pp)) (hH : H[k]? = some (.inr (.int, vs))) (hj : ¬ j < 0) (hx : vs[j.toNatClampNeg]? = some x) : oReach l Z n0 KT q (pc, ls, .int j :: .ref k :: r, H, cl, sl) (pc + 1, ls, .int x :: r, H, cl, sl) :=
  oReach.one (callf := callf) hw hK hC hops hf (by simp only [oStep, oStep1, oStep2, hH, if_neg hj, hx])
theorem oReach.getf (hw : ∀ d ∈ ws, d.before a0 Z = true) (hK : KT.all (oKOk ws) = true) (hC : ∀ (k : Nat) (q : oMt), MT[k]? = some q → oCallOk l Z n0 KT q (callf k)) (hops : ops.all (oOpOk ws KT CT MT q.1 q.2.1) = true) {j k p1 p2 : Nat} {v : Value} {vs : List Value}
    (hf : oFetch ops pc = some (.getfield j, p1, p2)) (hH : H[k]? = some (.inl (p1, vs))) (hv : vs[p2]? = some v) : oReach l Z n0 KT q (pc, ls, .ref k :: r, H, cl, sl) (pc + 3, ls, v :: r, H, cl, sl) :=
  oReach.one (callf := callf) hw hK hC hops hf (by simp only [oStep, oStep1, oStep2, hH, hv, if_true])
theorem oReach.bald (hw : ∀ d ∈ ws, d.before a0 Z = true) (hK : KT.all (oKOk ws) = true) (hC : ∀ (k : Nat) (q : oMt), MT[k]? = some q → oCallOk l Z n0 KT q (callf k)) (hops : ops.all (oOpOk ws KT CT MT q.1 q.2.1) = true) {k : Nat} {j x : Int32} {vs : List Int32}
    (hf : oFetch ops pc = some (.baload, pp)) (hH : H[k]? = some (.inr (.boolean, vs))) (hj : ¬ j < 0) (hx : vs[j.toNatClampNeg]? = some x) : oReach l Z n0 KT q (pc, ls, .int j :: .ref k :: r, H, cl, sl) (pc + 1, ls, .int x :: r, H, cl, sl) :=
  oReach.one (callf := callf) hw hK hC hops hf (by simp only [oStep, oStep1, oStep2, hH, if_neg hj, hx])
theorem oReach.bast (hw : ∀ d ∈ ws, d.before a0 Z = true) (hK : KT.all (oKOk ws) = true) (hC : ∀ (k : Nat) (q : oMt), MT[k]? = some q → oCallOk l Z n0 KT q (callf k)) (hops : ops.all (oOpOk ws KT CT MT q.1 q.2.1) = true) {k : Nat} {j x : Int32} {vs : List Int32}
    (hf : oFetch ops pc = some (.bastore, pp)) (hH : H[k]? = some (.inr (.boolean, vs))) (hin : oIn j vs.length = true) : oReach l Z n0 KT q (pc, ls, .int x :: .int j :: .ref k :: r, H, cl, sl) (pc + 1, ls, r, H.set k (.inr (.boolean, vs.set j.toNatClampNeg (x &&& 1))), cl, sl) :=
  oReach.one (callf := callf) hw hK hC hops hf (by simp only [oStep, oStep1, oStep2, hH, if_pos hin])
theorem oReach.havS {sk : List Value} (n : Nat) : oReach l Z n0 KT q (pc, ls, sk, H, cl, sl) (pc, ls, sk.take n ++ (sk.drop n).map (fun v => if v.category = 2 then .double 0 else .retAddr 0), H, cl, sl) :=
  fun p e s m args below meth c _ _ _ _ _ _ T Ls ST ad ⟨locs, X, N, hn0, hl, hk, hH⟩ => by
    refine ⟨T, Ls, ST, ad, ⟨locs, X, N, hn0, hl, ?_, hH⟩, oPre.rfl' ad, fun _ k => k⟩
    have key : ∀ {vs ws : List Value}, oKR ad vs ws → oKR ad (vs.map (fun v => if v.category = 2 then .double 0 else .retAddr 0)) ws := by
      intro vs
      induction vs with
      | nil => intro ws h; exact h
      | cons v vs ih =>
        intro ws h
        obtain ⟨w, ws', rfl, hv, hr⟩ := h
        refine ⟨w, ws', rfl, ?_, ih hr⟩
        show oVR ad (if v.category = 2 then .double 0 else .retAddr 0) w
        split
        · rename_i hc
          exact hv.cat.trans hc
        · rename_i hc
          show w.category = 1
          rw [hv.cat]
          revert hc
          cases v <;> simp [Value.category]
    have h1 := oKR.app (key (hk.drop n)) (hk.take n)
    rw [List.take_append_drop] at h1
    exact h1
end Single
/-! A10. a call by what is proved of that one call -/
section Calls
variable {l : Launch} {Z : State} {a0 : Array Value} {n0 : Nat} {ws : List Jvm.Cond} {KT : List oKl} {CT : List Value} {MT : List oMt} {q : oMt} {ops : List oOp} {pc : Nat} {ls : Array Slot} {sk : List Value} {H : List oObj} {cl sl : Nat}
theorem oPick {p1 : Nat} {z : oMt} {vs : List Value} {H' : List oObj} {v : Option Value} (hm : MT[p1]? = some z) (hM : oMet l Z n0 KT z vs H v H') : ∃ g : oCf, g p1 vs H = some (v, H') ∧ ∀ (k : Nat) (q : oMt), MT[k]? = some q → oCallOk l Z n0 KT q (g k) := by
  refine ⟨fun k us H1 => @ite (Option (Option Value × List oObj)) (k = p1 ∧ us = vs ∧ H1 = H) (Classical.propDecidable _) (some (v, H')) none, ?_, fun k q hk us H1 r H2 h => ?_⟩
  · exact if_pos ⟨rfl, rfl, rfl⟩
  · have h0 : @ite (Option (Option Value × List oObj)) (k = p1 ∧ us = vs ∧ H1 = H) (Classical.propDecidable _) (some (v, H')) none = some (r, H2) := h
    by_cases hc : k = p1 ∧ us = vs ∧ H1 = H
    · rw [if_pos hc] at h0
      cases h0
      obtain ⟨rfl, rfl, rfl⟩ := hc
      cases hm.symm.trans hk
      exact hM
    · rw [if_neg hc] at h0
      cases h0
theorem oReach.mS (hw : ∀ d ∈ ws, d.before a0 Z = true) (hK : KT.all (oKOk ws) = true) (hops : ops.all (oOpOk ws KT CT MT q.1 q.2.1) = true) {j p1 p2 : Nat} {z : oMt} {vs : List Value} {v : Option Value} {H' : List oObj}
    (hM : oMet l Z n0 KT z vs H v H') (hf : oFetch ops pc = some (.invokestatic j, p1, p2)) (hp : ¬ p2 = 2) (hm : MT[p1]? = some z) (hv : (sk.take z.2.2.2.2.2).reverse = vs)
    (hc : decide (ls.size = q.2.2.1 ∧ z.2.2.2.2.2 ≤ sk.length ∧ z.2.2.2.2.1.frames + 1 ≤ q.2.2.2.2.1.frames ∧ oCatS (sk.drop z.2.2.2.2.2) + (z.2.2.1 + 11) + z.2.2.2.2.1.locals ≤ q.2.2.2.2.1.locals ∧ cl + z.2.2.2.2.1.cells ≤ q.2.2.2.2.1.cells ∧ sl + z.2.2.2.2.1.slots ≤ q.2.2.2.2.1.slots) = true) :
    oReach l Z n0 KT q (pc, ls, sk, H, cl, sl) (pc + 3, ls, v.toList ++ sk.drop z.2.2.2.2.2, H', cl + z.2.2.2.2.1.cells, sl + z.2.2.2.2.1.slots) := by
  obtain ⟨z0, zb, ml, rt, rm, zn⟩ := z
  obtain ⟨g, hg, hC⟩ := oPick hm hM
  subst hv
  have hc' := of_decide_eq_true hc
  dsimp only at hc' hg ⊢
  exact oReach.one (callf := g) hw hK hC hops hf (by simp only [oStep, oStep1, oStep2, oStep3, if_neg hp, hm, if_pos hc', hg])
theorem oReach.mI (hw : ∀ d ∈ ws, d.before a0 Z = true) (hK : KT.all (oKOk ws) = true) (hops : ops.all (oOpOk ws KT CT MT q.1 q.2.1) = true) {j k p1 p2 : Nat} {z : oMt} {vs r : List Value} {v : Option Value} {H' : List oObj}
    (hM : oMet l Z n0 KT z (.ref k :: vs) H v H') (hf : oFetch ops pc = some (.invokespecial j, p1, p2)) (hp : ¬ p2 = 1) (hm : MT[p1]? = some z) (hd : sk.drop z.2.2.2.2.2 = .ref k :: r) (hv : (sk.take z.2.2.2.2.2).reverse = vs)
    (hc : decide (ls.size = q.2.2.1 ∧ z.2.2.2.2.1.frames + 1 ≤ q.2.2.2.2.1.frames ∧ oCatS r + (z.2.2.1 + 11) + z.2.2.2.2.1.locals ≤ q.2.2.2.2.1.locals ∧ cl + z.2.2.2.2.1.cells ≤ q.2.2.2.2.1.cells ∧ sl + z.2.2.2.2.1.slots ≤ q.2.2.2.2.1.slots) = true) :
    oReach l Z n0 KT q (pc, ls, sk, H, cl, sl) (pc + 3, ls, v.toList ++ r, H', cl + z.2.2.2.2.1.cells, sl + z.2.2.2.2.1.slots) := by
  obtain ⟨z0, zb, ml, rt, rm, zn⟩ := z
  obtain ⟨g, hg, hC⟩ := oPick hm hM
  subst hv
  have hc' := of_decide_eq_true hc
  dsimp only at hc' hg hd ⊢
  exact oReach.one (callf := g) hw hK hC hops hf (by simp only [oStep, oStep1, oStep2, oStep3, if_neg hp, hm, hd, if_pos hc', hg])
theorem oReach.mV (hw : ∀ d ∈ ws, d.before a0 Z = true) (hK : KT.all (oKOk ws) = true) (hops : ops.all (oOpOk ws KT CT MT q.1 q.2.1) = true) {j k c p1 p2 : Nat} {z : oMt} {vs r us : List Value} {v : Option Value} {H' : List oObj}
    (hM : oMet l Z n0 KT z (.ref k :: vs) H v H') (hf : oFetch ops pc = some (.invokevirtual j, p1, p2)) (hm : MT[p1]? = some z) (hd : sk.drop z.2.2.2.2.2 = .ref k :: r) (hH : H[k]? = some (.inl (c, us))) (hv : (sk.take z.2.2.2.2.2).reverse = vs)
    (hc : decide (c = p2 ∧ ls.size = q.2.2.1 ∧ z.2.2.2.2.1.frames + 1 ≤ q.2.2.2.2.1.frames ∧ oCatS r + (z.2.2.1 + 11) + z.2.2.2.2.1.locals ≤ q.2.2.2.2.1.locals ∧ cl + z.2.2.2.2.1.cells ≤ q.2.2.2.2.1.cells ∧ sl + z.2.2.2.2.1.slots ≤ q.2.2.2.2.1.slots) = true) :
    oReach l Z n0 KT q (pc, ls, sk, H, cl, sl) (pc + 3, ls, v.toList ++ r, H', cl + z.2.2.2.2.1.cells, sl + z.2.2.2.2.1.slots) := by
  obtain ⟨z0, zb, ml, rt, rm, zn⟩ := z
  obtain ⟨g, hg, hC⟩ := oPick hm hM
  subst hv
  have hc' := of_decide_eq_true hc
  dsimp only at hc' hg hd ⊢
  exact oReach.one (callf := g) hw hK hC hops hf (by simp only [oStep, oStep1, oStep2, oStep3, hm, hd, hH, if_pos hc', hg])
end Calls
/-! what a branch's condition says of numbers -/
def oRel : ClassFile.Cond → Int → Int → Prop
  | .eq, a, b => a = b
  | .ne, a, b => a ≠ b
  | .lt, a, b => a < b
  | .ge, a, b => b ≤ a
  | .gt, a, b => b < a
  | .le, a, b => a ≤ b
theorem oRel_iff (cd : ClassFile.Cond) (x y : Int32) : if_icmp.holds cd x y = true ↔ oRel cd x.toInt y.toInt := by
  cases cd <;> simp only [if_icmp.holds, oRel, beq_iff_eq, bne_iff_ne, ne_eq, decide_eq_true_eq, Int32.toInt_inj, Int32.lt_iff_toInt_lt, Int32.le_iff_toInt_le, GE.ge, GT.gt]
theorem oI_t {cd : ClassFile.Cond} {x y : Int32} {a b : Int} (hx : x.toInt = a) (hy : y.toInt = b) (h : if_icmp.holds cd x y = true) : oRel cd a b := by subst hx hy; exact (oRel_iff cd x y).mp h
theorem oI_f {cd : ClassFile.Cond} {x y : Int32} {a b : Int} (hx : x.toInt = a) (hy : y.toInt = b) (h : ¬ if_icmp.holds cd x y = true) : ¬ oRel cd a b := by subst hx hy; exact fun q => h ((oRel_iff cd x y).mpr q)
theorem oC_t {cd : ClassFile.Cond} {x : Int32} {a : Int} (hx : x.toInt = a) (h : ifCond.holds cd x = true) : oRel cd a 0 := oI_t (y := 0) hx rfl ((if0 cd x) ▸ h)
theorem oC_f {cd : ClassFile.Cond} {x : Int32} {a : Int} (hx : x.toInt = a) (h : ¬ ifCond.holds cd x = true) : ¬ oRel cd a 0 := oI_f (y := 0) hx rfl ((if0 cd x) ▸ h)
theorem oSelfT {cd : ClassFile.Cond} (x : Int32) (h : oRel cd 0 0 := by first | rfl | exact Int.le_refl _) : if_icmp.holds cd x x = true := (oRel_iff cd x x).mpr (by cases cd <;> simp [oRel] at h ⊢)
theorem oSelfF {cd : ClassFile.Cond} (x : Int32) (h : ¬ oRel cd 0 0 := by simp [oRel]) : ¬ if_icmp.holds cd x x = true := fun q => by
  have := (oRel_iff cd x x).mp q
  cases cd <;> simp [oRel] at h this
/-! A9. the end of a law by evaluation: what is left is closed -/
def oRes (q : oMt) (ops : List oOp) : Option oSt → Bool
  | some st => (match oRet q ops st with
    | some (some (.int v), _) => decide (v = 1)
    | _ => false)
  | none => false
theorem oLaw_of_res0 {l : Launch} {Z : State} {a0 : Array Value} {n0 : Nat} {ws : List Jvm.Cond} {KT : List oKl} {CT : List Value} {MT : List oMt} {callf : oCf} {q : oMt} {ops : List oOp} (hw : ∀ d ∈ ws, d.before a0 Z = true) (hK : KT.all (oKOk ws) = true) (hC : ∀ (k : Nat) (q : oMt), MT[k]? = some q → oCallOk l Z n0 KT q (callf k))
    (hpn : plainFor q.1 = true) (hops : ops.all (oOpOk ws KT CT MT q.1 q.2.1) = true) {n : Nat} {st : oSt} {vs : List Value} {H : List oObj} (hR : oReach l Z n0 KT q (0, argsToLocals vs.toArray q.2.2.1, [], H, 0, 0) st)
    (h : oRes q ops (oRun KT CT MT callf q.2.2.2.2.1 q.2.2.1 ops n st) = true) : ∃ H', oMet l Z n0 KT q vs H (some (.int 1)) H' := by
  cases hr : oRun KT CT MT callf q.2.2.2.2.1 q.2.2.1 ops n st with
  | none => rw [hr] at h; cases h
  | some st' =>
    rw [hr] at h
    simp only [oRes] at h
    split at h
    · rename_i v H' he
      have hv := of_decide_eq_true h
      subst hv
      exact ⟨H', oMet_of_reach0 hpn hops (hR.trans (oReach.run hw hK hC hops hr)) he⟩
    · cases h
/-! what local variables a call begins with, as a list -/
def oEnt : List Value → List Slot
  | [] => []
  | v :: r => match v.category with
    | 2 => .val v :: .second :: oEnt r
    | _ => .val v :: oEnt r
theorem oEnt_fold : ∀ (vs : List Value) (l : Array Slot), vs.foldl (fun acc v => if v.category = 2 then (acc.push (.val v)).push .second else acc.push (.val v)) l = (l.toList ++ oEnt vs).toArray
  | [], l => by simp [oEnt]
  | v :: vs, l => by
    rw [List.foldl_cons, oEnt_fold vs]
    cases v <;> simp [oEnt, Value.category]
theorem oEnt_eq (vs : List Value) (n : Nat) {L : List Slot} (h : oEnt vs ++ List.replicate (n - (oEnt vs).length) .unset = L) : argsToLocals vs.toArray n = L.toArray := by
  subst h
  unfold argsToLocals
  rw [List.foldl_toArray]
  dsimp only
  rw [oEnt_fold]
  simp
theorem oMet_of_reach {l : Launch} {Z : State} {n0 : Nat} {ws : List Jvm.Cond} {KT : List oKl} {CT : List Value} {MT : List oMt} {q : oMt} {ops : List oOp} {st' : oSt} {L : List Slot} (hpn : plainFor q.1 = true) (hops : ops.all (oOpOk ws KT CT MT q.1 q.2.1) = true) {vs : List Value} {H H' : List oObj} {r : Option Value}
    (hR : oReach l Z n0 KT q (0, L.toArray, [], H, 0, 0) st') (hret : oRet q ops st' = some (r, H')) (he : oEnt vs ++ List.replicate (q.2.2.1 - (oEnt vs).length) .unset = L := by rfl) : oMet l Z n0 KT q vs H r H' := by
  rw [← oEnt_eq vs q.2.2.1 he] at hR
  exact oMet_of_reach0 hpn hops hR hret
theorem oLaw_of_res {l : Launch} {Z : State} {a0 : Array Value} {n0 : Nat} {ws : List Jvm.Cond} {KT : List oKl} {CT : List Value} {MT : List oMt} {callf : oCf} {q : oMt} {ops : List oOp} {L : List Slot} (hw : ∀ d ∈ ws, d.before a0 Z = true) (hK : KT.all (oKOk ws) = true) (hC : ∀ (k : Nat) (q : oMt), MT[k]? = some q → oCallOk l Z n0 KT q (callf k))
    (hpn : plainFor q.1 = true) (hops : ops.all (oOpOk ws KT CT MT q.1 q.2.1) = true) {n : Nat} {st : oSt} {vs : List Value} {H : List oObj} (hR : oReach l Z n0 KT q (0, L.toArray, [], H, 0, 0) st)
    (h : oRes q ops (oRun KT CT MT callf q.2.2.2.2.1 q.2.2.1 ops n st) = true) (he : oEnt vs ++ List.replicate (q.2.2.1 - (oEnt vs).length) .unset = L := by rfl) : ∃ H', oMet l Z n0 KT q vs H (some (.int 1)) H' := by
  rw [← oEnt_eq vs q.2.2.1 he] at hR
  exact oLaw_of_res0 hw hK hC hpn hops hR h
theorem oMask (x m : Int32) (k : Nat) (hm : 0 ≤ m.toInt) (hk : m.toInt < k) : ∃ a : Fin k, x &&& m = Int32.ofNat a.val := by
  have h := c_and x m hm
  have h2 := Int32.toInt_lt m
  refine ⟨⟨(x &&& m).toInt.toNat, by omega⟩, Int32.toInt_inj.mp ?_⟩
  rw [Int32.toInt_ofNat_of_lt (by show (x &&& m).toInt.toNat < 2 ^ 31; omega)]
  show _ = ((x &&& m).toInt.toNat : Int)
  omega
/-! A11. the same machine with a quicker way to the instruction -/
abbrev oFt : Type := Nat → Option (Instr × Nat × Nat)
def oRunF (KT : List oKl) (CT : List Value) (MT : List oMt) (callf : oCf) (R : Jvm.Room) (mx : Nat) (F : oFt) : Nat → oSt → Option oSt
  | 0, st => some st
  | n + 1, st => match F st.1 with
    | none => none
    | some op => if oRetI op.1 = true then some st else match oStep KT CT MT callf R mx op st with
      | none => none
      | some st' => oRunF KT CT MT callf R mx F n st'
def oSame (F : oFt) (ops : List oOp) : Prop := ∀ (pc : Nat) (op : Instr × Nat × Nat), F pc = some op → oFetch ops pc = some op
theorem oRunF_run {KT : List oKl} {CT : List Value} {MT : List oMt} {callf : oCf} {R : Jvm.Room} {mx : Nat} {F : oFt} {ops : List oOp} (hF : oSame F ops) : ∀ (n : Nat) (st st' : oSt), oRunF KT CT MT callf R mx F n st = some st' → oRun KT CT MT callf R mx ops n st = some st'
  | 0, _, _, h => h
  | n + 1, st, st', h => by
    unfold oRunF at h
    unfold oRun
    split at h
    · cases h
    · rename_i op hop
      rw [hF _ _ hop]
      dsimp only
      split at h
      · rename_i hr
        rw [if_pos hr]
        exact h
      · rename_i hr
        rw [if_neg hr]
        split at h
        · cases h
        · rename_i st1 hs
          try rw [hs]
          exact oRunF_run hF n st1 st' h
def oRetF (q : oMt) (F : oFt) (st : oSt) : Option (Option Value × List oObj) := match F st.1 with
  | some op => oRet q [(st.1, op)] st
  | none => none
theorem oRetF_ret {q : oMt} {F : oFt} {ops : List oOp} (hF : oSame F ops) {st : oSt} {x : Option Value × List oObj} (h : oRetF q F st = some x) : oRet q ops st = some x := by
  unfold oRetF at h
  split at h
  · rename_i op hop
    obtain ⟨pc, ls, sk, H, c, s⟩ := st
    have e1 : oFetch [(pc, op)] pc = some op := by simp only [oFetch, Nat.beq_refl]
    have e2 : oFetch ops pc = some op := hF _ _ hop
    simp only [oRet, e1] at h
    simp only [oRet, e2]
    exact h
  · cases h
def oStart (q : oMt) (vs : List Value) (H : List oObj) : oSt := (0, (oEnt vs ++ List.replicate (q.2.2.1 - (oEnt vs).length) Slot.unset).toArray, [], H, 0, 0)
def oBodyF (KT : List oKl) (CT : List Value) (MT : List oMt) (callf : oCf) (q : oMt) (F : oFt) (fuel : Nat) (vs : List Value) (H : List oObj) : Option (Option Value × List oObj) :=
  match oRunF KT CT MT callf q.2.2.2.2.1 q.2.2.1 F fuel (oStart q vs H) with
  | some st => oRetF q F st
  | none => none
theorem oBodyF_ok {l : Launch} {Z : State} {a0 : Array Value} {n0 : Nat} {ws : List Jvm.Cond} {KT : List oKl} {CT : List Value} {MT : List oMt} {callf : oCf} {q : oMt} {F : oFt} {ops : List oOp} {fuel : Nat} (hF : oSame F ops) (hw : ∀ d ∈ ws, d.before a0 Z = true) (hK : KT.all (oKOk ws) = true) (hC : ∀ (k : Nat) (q : oMt), MT[k]? = some q → oCallOk l Z n0 KT q (callf k)) (hpn : plainFor q.1 = true) (hops : ops.all (oOpOk ws KT CT MT q.1 q.2.1) = true) :
    oCallOk l Z n0 KT q (oBodyF KT CT MT callf q F fuel) := fun vs H r H' h => by
  unfold oBodyF at h
  split at h
  · rename_i st hst
    exact oMet_of_reach hpn hops (oReach.run hw hK hC hops (oRunF_run hF _ _ _ hst)) (oRetF_ret hF h) rfl
  · cases h
def oResF (q : oMt) (F : oFt) : Option oSt → Bool
  | some st => (match oRetF q F st with
    | some (some (.int v), _) => decide (v = 1)
    | _ => false)
  | none => false
theorem oRes_of_resF {KT : List oKl} {CT : List Value} {MT : List oMt} {callf : oCf} {R : Jvm.Room} {mx : Nat} {q : oMt} {F : oFt} {ops : List oOp} {n : Nat} {st : oSt} (hF : oSame F ops) (h : oResF q F (oRunF KT CT MT callf R mx F n st) = true) : oRes q ops (oRun KT CT MT callf R mx ops n st) = true := by
  cases hr : oRunF KT CT MT callf R mx F n st with
  | none => rw [hr] at h; cases h
  | some st' =>
    rw [hr] at h
    rw [oRunF_run hF _ _ _ hr]
    simp only [oResF] at h
    simp only [oRes]
    split at h
    · rename_i v H' he
      rw [oRetF_ret hF he]
      exact h
    · cases h
def oUpto (F : oFt) (N : Nat) : oFt := fun pc => bif Nat.blt pc N then F pc else none
def oEqI (a b : Option (Instr × Nat × Nat)) : Bool := decide (a = b)
theorem oSame_of {F : oFt} {N : Nat} {ops : List oOp} (h : (List.range N).all (fun pc => oEqI (F pc) (oFetch ops pc)) = true) : oSame (oUpto F N) ops := fun pc op e => by
  unfold oUpto at e
  cases hb : Nat.blt pc N with
  | false => rw [hb] at e; cases e
  | true =>
    rw [hb] at e
    have hp : pc < N := by simpa [Nat.blt_eq] using hb
    have := List.all_eq_true.mp h pc (List.mem_range.mpr hp)
    rw [← of_decide_eq_true (show decide (F pc = oFetch ops pc) = true from this)]
    exact e

/-! ## PART B. this claim -/
def oKT : List oKl := [("com/example/ranked_tree_automata/rankedtreeautomata/Partition", 9, [("elements", "[I", (.array .int), true), ("locations", "[I", (.array .int), true), ("blocks", "[I", (.array .int), true), ("first", "[I", (.array .int), true), ("end", "[I", (.array .int), true), ("markedCounts", "[I", (.array .int), true), ("touched", "[I", (.array .int), true), ("blockCount", "I", .int, false), ("touchedCount", "I", .int, false)])]
def oCT : List Value := []
def oM0 : oMt := (⟨"com/example/ranked_tree_automata/rankedtreeautomata/Partition", "<init>", "(I)V"⟩, prog_3_method_1_code, 3, none, { frames := 1, cells := 7, slots := 28, locals := 12 }, 1)
def oM1 : oMt := (⟨"com/example/ranked_tree_automata/rankedtreeautomata/Partition", "mark", "(I)V"⟩, prog_3_method_6_code, 6, none, { frames := 0, cells := 0, slots := 0, locals := 0 }, 1)
def oM2 : oMt := (⟨"com/example/ranked_tree_automata/rankedtreeautomata/PartitionSplitPinLaw", "markAll", "(Lcom/example/ranked_tree_automata/rankedtreeautomata/Partition;I)V"⟩, method_4_code, 2, none, { frames := 1, cells := 0, slots := 0, locals := 17 }, 2)
def oM3 : oMt := (⟨"com/example/ranked_tree_automata/rankedtreeautomata/Partition", "split", "()V"⟩, prog_3_method_7_code, 6, none, { frames := 0, cells := 0, slots := 0, locals := 0 }, 0)
def oM4 : oMt := (⟨"com/example/ranked_tree_automata/rankedtreeautomata/PartitionSplitPinLaw", "bit", "(II)I"⟩, method_2_code, 2, (some .int), { frames := 0, cells := 0, slots := 0, locals := 0 }, 2)
def oM5 : oMt := (⟨"com/example/ranked_tree_automata/rankedtreeautomata/PartitionSplitPinLaw", "pop", "(I)I"⟩, method_3_code, 1, (some .int), { frames := 1, cells := 0, slots := 0, locals := 14 }, 1)
def oM6 : oMt := (⟨"com/example/ranked_tree_automata/rankedtreeautomata/PartitionSplitPinLaw", "firstRound", "(II)I"⟩, method_5_code, 4, (some .int), { frames := 2, cells := 0, slots := 0, locals := 26 }, 2)
def oM7 : oMt := (⟨"com/example/ranked_tree_automata/rankedtreeautomata/PartitionSplitPinLaw", "members", "(II)I"⟩, method_6_code, 3, (some .int), { frames := 3, cells := 0, slots := 0, locals := 41 }, 2)
def oM8 : oMt := (⟨"com/example/ranked_tree_automata/rankedtreeautomata/PartitionSplitPinLaw", "splits", "(II)Z"⟩, method_7_code, 4, (some .boolean), { frames := 2, cells := 0, slots := 0, locals := 26 }, 2)
def oM9 : oMt := (⟨"com/example/ranked_tree_automata/rankedtreeautomata/PartitionSplitPinLaw", "lowest", "(I)I"⟩, method_9_code, 1, (some .int), { frames := 0, cells := 0, slots := 0, locals := 0 }, 1)
def oM10 : oMt := (⟨"com/example/ranked_tree_automata/rankedtreeautomata/PartitionSplitPinLaw", "moves", "(III)Z"⟩, method_8_code, 6, (some .boolean), { frames := 2, cells := 0, slots := 0, locals := 26 }, 3)
def oM11 : oMt := (⟨"com/example/ranked_tree_automata/rankedtreeautomata/PartitionSplitPinLaw", "expected", "(IIIII)I"⟩, method_10_code, 7, (some .int), { frames := 4, cells := 0, slots := 0, locals := 55 }, 5)
def oM12 : oMt := (⟨"com/example/ranked_tree_automata/rankedtreeautomata/Partition", "blockCount", "()I"⟩, prog_3_method_2_code, 1, (some .int), { frames := 0, cells := 0, slots := 0, locals := 0 }, 0)
def oM13 : oMt := (⟨"com/example/ranked_tree_automata/rankedtreeautomata/Partition", "blockOf", "(I)I"⟩, prog_3_method_3_code, 2, (some .int), { frames := 0, cells := 0, slots := 0, locals := 0 }, 1)
def oM14 : oMt := (⟨"jdk/internal/util/Preconditions", "checkIndex", "(IILjava/util/function/BiFunction;)I"⟩, jdk_41_method_11_code, 3, (some .int), { frames := 0, cells := 0, slots := 0, locals := 0 }, 3)
def oM15 : oMt := (⟨"java/util/Objects", "checkIndex", "(II)I"⟩, jdk_31_method_17_code, 2, (some .int), { frames := 1, cells := 0, slots := 0, locals := 14 }, 2)
def oM16 : oMt := (⟨"com/example/ranked_tree_automata/rankedtreeautomata/Partition", "size", "(I)I"⟩, prog_3_method_4_code, 2, (some .int), { frames := 2, cells := 0, slots := 0, locals := 28 }, 1)
def oMx : oMt := (x, code, maxLocals, ret, room_1, 2)
def oMT : List oMt := [oM0, oM1, oM2, oM3, oM4, oM5, oM6, oM7, oM8, oM9, oM10, oM11, oM12, oM13, oM14, oM15, oM16]
def oP0 : List oOp := [(0, .aload_n 0, 0, 0), (1, .invokespecial 1, 99999, 1), (4, .aload_n 0, 0, 0), (5, .iload_n 1, 0, 0), (6, .newarray .int, 0, 0), (8, .putfield 7, 0, 0), (11, .aload_n 0, 0, 0), (12, .iload_n 1, 0, 0), (13, .newarray .int, 0, 0), (15, .putfield 13, 0, 1), (18, .iconst 0, 0, 0), (19, .istore_n 2, 0, 0), (20, .iload_n 2, 0, 0), (21, .iload_n 1, 0, 0), (22, .if_icmp .ge 23, 0, 0), (25, .aload_n 0, 0, 0), (26, .getfield 7, 0, 0), (29, .iload_n 2, 0, 0), (30, .iload_n 2, 0, 0), (31, .iastore, 0, 0), (32, .aload_n 0, 0, 0), (33, .getfield 13, 0, 1), (36, .iload_n 2, 0, 0), (37, .iload_n 2, 0, 0), (38, .iastore, 0, 0), (39, .iinc 2 1, 0, 0), (42, .goto (-22), 0, 0), (45, .aload_n 0, 0, 0), (46, .iload_n 1, 0, 0), (47, .newarray .int, 0, 0), (49, .putfield 16, 0, 2), (52, .aload_n 0, 0, 0), (53, .iload_n 1, 0, 0), (54, .newarray .int, 0, 0), (56, .putfield 19, 0, 3), (59, .aload_n 0, 0, 0), (60, .iload_n 1, 0, 0), (61, .newarray .int, 0, 0), (63, .putfield 22, 0, 4), (66, .aload_n 0, 0, 0), (67, .iload_n 1, 0, 0), (68, .newarray .int, 0, 0), (70, .putfield 25, 0, 5), (73, .aload_n 0, 0, 0), (74, .iload_n 1, 0, 0), (75, .newarray .int, 0, 0), (77, .putfield 28, 0, 6), (80, .iload_n 1, 0, 0), (81, .ifCond .le 15, 0, 0), (84, .aload_n 0, 0, 0), (85, .getfield 22, 0, 4), (88, .iconst 0, 0, 0), (89, .iload_n 1, 0, 0), (90, .iastore, 0, 0), (91, .aload_n 0, 0, 0), (92, .iconst 1, 0, 0), (93, .putfield 31, 0, 7), (96, .return_, 0, 0)]
def oP1 : List oOp := [(0, .aload_n 0, 0, 0), (1, .getfield 16, 0, 2), (4, .iload_n 1, 0, 0), (5, .iaload, 0, 0), (6, .istore_n 2, 0, 0), (7, .aload_n 0, 0, 0), (8, .getfield 13, 0, 1), (11, .iload_n 1, 0, 0), (12, .iaload, 0, 0), (13, .istore_n 3, 0, 0), (14, .aload_n 0, 0, 0), (15, .getfield 19, 0, 3), (18, .iload_n 2, 0, 0), (19, .iaload, 0, 0), (20, .aload_n 0, 0, 0), (21, .getfield 25, 0, 5), (24, .iload_n 2, 0, 0), (25, .iaload, 0, 0), (26, .iadd, 0, 0), (27, .istore 4, 0, 0), (29, .aload_n 0, 0, 0), (30, .getfield 7, 0, 0), (33, .iload 4, 0, 0), (35, .iaload, 0, 0), (36, .istore 5, 0, 0), (38, .aload_n 0, 0, 0), (39, .getfield 7, 0, 0), (42, .iload 4, 0, 0), (44, .iload_n 1, 0, 0), (45, .iastore, 0, 0), (46, .aload_n 0, 0, 0), (47, .getfield 13, 0, 1), (50, .iload_n 1, 0, 0), (51, .iload 4, 0, 0), (53, .iastore, 0, 0), (54, .aload_n 0, 0, 0), (55, .getfield 7, 0, 0), (58, .iload_n 3, 0, 0), (59, .iload 5, 0, 0), (61, .iastore, 0, 0), (62, .aload_n 0, 0, 0), (63, .getfield 13, 0, 1), (66, .iload 5, 0, 0), (68, .iload_n 3, 0, 0), (69, .iastore, 0, 0), (70, .aload_n 0, 0, 0), (71, .getfield 25, 0, 5), (74, .iload_n 2, 0, 0), (75, .iaload, 0, 0), (76, .ifCond .ne 20, 0, 0), (79, .aload_n 0, 0, 0), (80, .getfield 28, 0, 6), (83, .aload_n 0, 0, 0), (84, .dup, 0, 0), (85, .getfield 45, 0, 8), (88, .dup_x1, 0, 0), (89, .iconst 1, 0, 0), (90, .iadd, 0, 0), (91, .putfield 45, 0, 8), (94, .iload_n 2, 0, 0), (95, .iastore, 0, 0), (96, .aload_n 0, 0, 0), (97, .getfield 25, 0, 5), (100, .iload_n 2, 0, 0), (101, .dup2, 0, 0), (102, .iaload, 0, 0), (103, .iconst 1, 0, 0), (104, .iadd, 0, 0), (105, .iastore, 0, 0), (106, .return_, 0, 0)]
def oP2 : List oOp := [(0, .iload_n 1, 0, 0), (1, .iconst 1, 0, 0), (2, .iand, 0, 0), (3, .ifCond .eq 8, 0, 0), (6, .aload_n 0, 0, 0), (7, .iconst 0, 0, 0), (8, .invokevirtual 13, 1, 0), (11, .iload_n 1, 0, 0), (12, .iconst 2, 0, 0), (13, .iand, 0, 0), (14, .ifCond .eq 8, 0, 0), (17, .aload_n 0, 0, 0), (18, .iconst 1, 0, 0), (19, .invokevirtual 13, 1, 0), (22, .iload_n 1, 0, 0), (23, .iconst 4, 0, 0), (24, .iand, 0, 0), (25, .ifCond .eq 8, 0, 0), (28, .aload_n 0, 0, 0), (29, .iconst 2, 0, 0), (30, .invokevirtual 13, 1, 0), (33, .iload_n 1, 0, 0), (34, .bipush 8, 0, 0), (36, .iand, 0, 0), (37, .ifCond .eq 8, 0, 0), (40, .aload_n 0, 0, 0), (41, .iconst 3, 0, 0), (42, .invokevirtual 13, 1, 0), (45, .return_, 0, 0)]
def oP3 : List oOp := [(0, .iconst 0, 0, 0), (1, .istore_n 1, 0, 0), (2, .iload_n 1, 0, 0), (3, .aload_n 0, 0, 0), (4, .getfield 45, 0, 8), (7, .if_icmp .ge 179, 0, 0), (10, .aload_n 0, 0, 0), (11, .getfield 28, 0, 6), (14, .iload_n 1, 0, 0), (15, .iaload, 0, 0), (16, .istore_n 2, 0, 0), (17, .aload_n 0, 0, 0), (18, .getfield 19, 0, 3), (21, .iload_n 2, 0, 0), (22, .iaload, 0, 0), (23, .aload_n 0, 0, 0), (24, .getfield 25, 0, 5), (27, .iload_n 2, 0, 0), (28, .iaload, 0, 0), (29, .iadd, 0, 0), (30, .istore_n 3, 0, 0), (31, .aload_n 0, 0, 0), (32, .getfield 25, 0, 5), (35, .iload_n 2, 0, 0), (36, .iconst 0, 0, 0), (37, .iastore, 0, 0), (38, .iload_n 3, 0, 0), (39, .aload_n 0, 0, 0), (40, .getfield 22, 0, 4), (43, .iload_n 2, 0, 0), (44, .iaload, 0, 0), (45, .if_icmp .ge 135, 0, 0), (48, .aload_n 0, 0, 0), (49, .dup, 0, 0), (50, .getfield 31, 0, 7), (53, .dup_x1, 0, 0), (54, .iconst 1, 0, 0), (55, .iadd, 0, 0), (56, .putfield 31, 0, 7), (59, .istore 4, 0, 0), (61, .iload_n 3, 0, 0), (62, .aload_n 0, 0, 0), (63, .getfield 19, 0, 3), (66, .iload_n 2, 0, 0), (67, .iaload, 0, 0), (68, .isub, 0, 0), (69, .aload_n 0, 0, 0), (70, .getfield 22, 0, 4), (73, .iload_n 2, 0, 0), (74, .iaload, 0, 0), (75, .iload_n 3, 0, 0), (76, .isub, 0, 0), (77, .if_icmp .gt 34, 0, 0), (80, .aload_n 0, 0, 0), (81, .getfield 19, 0, 3), (84, .iload 4, 0, 0), (86, .aload_n 0, 0, 0), (87, .getfield 19, 0, 3), (90, .iload_n 2, 0, 0), (91, .iaload, 0, 0), (92, .iastore, 0, 0), (93, .aload_n 0, 0, 0), (94, .getfield 22, 0, 4), (97, .iload 4, 0, 0), (99, .iload_n 3, 0, 0), (100, .iastore, 0, 0), (101, .aload_n 0, 0, 0), (102, .getfield 19, 0, 3), (105, .iload_n 2, 0, 0), (106, .iload_n 3, 0, 0), (107, .iastore, 0, 0), (108, .goto 31, 0, 0), (111, .aload_n 0, 0, 0), (112, .getfield 19, 0, 3), (115, .iload 4, 0, 0), (117, .iload_n 3, 0, 0), (118, .iastore, 0, 0), (119, .aload_n 0, 0, 0), (120, .getfield 22, 0, 4), (123, .iload 4, 0, 0), (125, .aload_n 0, 0, 0), (126, .getfield 22, 0, 4), (129, .iload_n 2, 0, 0), (130, .iaload, 0, 0), (131, .iastore, 0, 0), (132, .aload_n 0, 0, 0), (133, .getfield 22, 0, 4), (136, .iload_n 2, 0, 0), (137, .iload_n 3, 0, 0), (138, .iastore, 0, 0), (139, .aload_n 0, 0, 0), (140, .getfield 19, 0, 3), (143, .iload 4, 0, 0), (145, .iaload, 0, 0), (146, .istore 5, 0, 0), (148, .iload 5, 0, 0), (150, .aload_n 0, 0, 0), (151, .getfield 22, 0, 4), (154, .iload 4, 0, 0), (156, .iaload, 0, 0), (157, .if_icmp .ge 23, 0, 0), (160, .aload_n 0, 0, 0), (161, .getfield 16, 0, 2), (164, .aload_n 0, 0, 0), (165, .getfield 7, 0, 0), (168, .iload 5, 0, 0), (170, .iaload, 0, 0), (171, .iload 4, 0, 0), (173, .iastore, 0, 0), (174, .iinc 5 1, 0, 0), (177, .goto (-29), 0, 0), (180, .iinc 1 1, 0, 0), (183, .goto (-181), 0, 0), (186, .aload_n 0, 0, 0), (187, .iconst 0, 0, 0), (188, .putfield 45, 0, 8), (191, .return_, 0, 0)]
def oP4 : List oOp := [(0, .iload_n 0, 0, 0), (1, .iload_n 1, 0, 0), (2, .iushr, 0, 0), (3, .iconst 1, 0, 0), (4, .iand, 0, 0), (5, .ireturn, 0, 0)]
def oP5 : List oOp := [(0, .iload_n 0, 0, 0), (1, .iconst 0, 0, 0), (2, .invokestatic 7, 4, 0), (5, .iload_n 0, 0, 0), (6, .iconst 1, 0, 0), (7, .invokestatic 7, 4, 0), (10, .iadd, 0, 0), (11, .iload_n 0, 0, 0), (12, .iconst 2, 0, 0), (13, .invokestatic 7, 4, 0), (16, .iadd, 0, 0), (17, .iload_n 0, 0, 0), (18, .iconst 3, 0, 0), (19, .invokestatic 7, 4, 0), (22, .iadd, 0, 0), (23, .ireturn, 0, 0)]
def oP6 : List oOp := [(0, .iload_n 0, 0, 0), (1, .invokestatic 19, 5, 0), (4, .istore_n 2, 0, 0), (5, .iload_n 2, 0, 0), (6, .ifCond .eq 8, 0, 0), (9, .iload_n 2, 0, 0), (10, .iconst 4, 0, 0), (11, .if_icmp .ne 5, 0, 0), (14, .iconst 0, 0, 0), (15, .ireturn, 0, 0), (16, .iload_n 0, 0, 0), (17, .iload_n 1, 0, 0), (18, .invokestatic 7, 4, 0), (21, .iconst 1, 0, 0), (22, .if_icmp .ne 7, 0, 0), (25, .iconst 1, 0, 0), (26, .goto 4, 0, 0), (29, .iconst 0, 0, 0), (30, .istore_n 3, 0, 0), (31, .iload_n 3, 0, 0), (32, .iload_n 2, 0, 0), (33, .iconst 2, 0, 0), (34, .if_icmp .gt 7, 0, 0), (37, .iconst 1, 0, 0), (38, .goto 4, 0, 0), (41, .iconst 0, 0, 0), (42, .if_icmp .ne 7, 0, 0), (45, .iconst 1, 0, 0), (46, .goto 4, 0, 0), (49, .iconst 0, 0, 0), (50, .ireturn, 0, 0)]
def oP7 : List oOp := [(0, .iconst 0, 0, 0), (1, .istore_n 2, 0, 0), (2, .iload_n 0, 0, 0), (3, .iconst 0, 0, 0), (4, .invokestatic 23, 6, 0), (7, .iload_n 1, 0, 0), (8, .if_icmp .ne 7, 0, 0), (11, .iload_n 2, 0, 0), (12, .iconst 1, 0, 0), (13, .ior, 0, 0), (14, .istore_n 2, 0, 0), (15, .iload_n 0, 0, 0), (16, .iconst 1, 0, 0), (17, .invokestatic 23, 6, 0), (20, .iload_n 1, 0, 0), (21, .if_icmp .ne 7, 0, 0), (24, .iload_n 2, 0, 0), (25, .iconst 2, 0, 0), (26, .ior, 0, 0), (27, .istore_n 2, 0, 0), (28, .iload_n 0, 0, 0), (29, .iconst 2, 0, 0), (30, .invokestatic 23, 6, 0), (33, .iload_n 1, 0, 0), (34, .if_icmp .ne 7, 0, 0), (37, .iload_n 2, 0, 0), (38, .iconst 4, 0, 0), (39, .ior, 0, 0), (40, .istore_n 2, 0, 0), (41, .iload_n 0, 0, 0), (42, .iconst 3, 0, 0), (43, .invokestatic 23, 6, 0), (46, .iload_n 1, 0, 0), (47, .if_icmp .ne 8, 0, 0), (50, .iload_n 2, 0, 0), (51, .bipush 8, 0, 0), (53, .ior, 0, 0), (54, .istore_n 2, 0, 0), (55, .iload_n 2, 0, 0), (56, .ireturn, 0, 0)]
def oP8 : List oOp := [(0, .iload_n 0, 0, 0), (1, .invokestatic 19, 5, 0), (4, .istore_n 2, 0, 0), (5, .iload_n 0, 0, 0), (6, .iload_n 1, 0, 0), (7, .iand, 0, 0), (8, .invokestatic 19, 5, 0), (11, .istore_n 3, 0, 0), (12, .iload_n 3, 0, 0), (13, .ifCond .le 12, 0, 0), (16, .iload_n 3, 0, 0), (17, .iload_n 2, 0, 0), (18, .if_icmp .ge 7, 0, 0), (21, .iconst 1, 0, 0), (22, .goto 4, 0, 0), (25, .iconst 0, 0, 0), (26, .ireturn, 0, 0)]
def oP9 : List oOp := [(0, .iload_n 0, 0, 0), (1, .iconst 1, 0, 0), (2, .iand, 0, 0), (3, .ifCond .eq 5, 0, 0), (6, .iconst 0, 0, 0), (7, .ireturn, 0, 0), (8, .iload_n 0, 0, 0), (9, .iconst 2, 0, 0), (10, .iand, 0, 0), (11, .ifCond .eq 5, 0, 0), (14, .iconst 1, 0, 0), (15, .ireturn, 0, 0), (16, .iload_n 0, 0, 0), (17, .iconst 4, 0, 0), (18, .iand, 0, 0), (19, .ifCond .eq 5, 0, 0), (22, .iconst 2, 0, 0), (23, .ireturn, 0, 0), (24, .iconst 3, 0, 0), (25, .ireturn, 0, 0)]
def oP10 : List oOp := [(0, .iload_n 0, 0, 0), (1, .invokestatic 19, 5, 0), (4, .istore_n 3, 0, 0), (5, .iload_n 0, 0, 0), (6, .iload_n 1, 0, 0), (7, .iand, 0, 0), (8, .invokestatic 19, 5, 0), (11, .istore 4, 0, 0), (13, .iload_n 1, 0, 0), (14, .iload_n 2, 0, 0), (15, .invokestatic 7, 4, 0), (18, .iconst 1, 0, 0), (19, .if_icmp .ne 7, 0, 0), (22, .iconst 1, 0, 0), (23, .goto 4, 0, 0), (26, .iconst 0, 0, 0), (27, .istore 5, 0, 0), (29, .iload 5, 0, 0), (31, .iload 4, 0, 0), (33, .iload_n 3, 0, 0), (34, .iload 4, 0, 0), (36, .isub, 0, 0), (37, .if_icmp .gt 7, 0, 0), (40, .iconst 1, 0, 0), (41, .goto 4, 0, 0), (44, .iconst 0, 0, 0), (45, .if_icmp .ne 7, 0, 0), (48, .iconst 1, 0, 0), (49, .goto 4, 0, 0), (52, .iconst 0, 0, 0), (53, .ireturn, 0, 0)]
def oP11 : List oOp := [(0, .iload_n 0, 0, 0), (1, .iload_n 2, 0, 0), (2, .invokestatic 23, 6, 0), (5, .istore 5, 0, 0), (7, .iload_n 0, 0, 0), (8, .iload 5, 0, 0), (10, .invokestatic 26, 7, 0), (13, .istore 6, 0, 0), (15, .iload 6, 0, 0), (17, .iload_n 1, 0, 0), (18, .invokestatic 29, 8, 0), (21, .ifCond .eq 25, 0, 0), (24, .iload 6, 0, 0), (26, .iload_n 1, 0, 0), (27, .iload_n 2, 0, 0), (28, .invokestatic 33, 10, 0), (31, .ifCond .eq 15, 0, 0), (34, .iload 5, 0, 0), (36, .ifCond .ne 7, 0, 0), (39, .iload_n 3, 0, 0), (40, .goto 5, 0, 0), (43, .iload 4, 0, 0), (45, .ireturn, 0, 0), (46, .iload 5, 0, 0), (48, .ireturn, 0, 0)]
def oP12 : List oOp := [(0, .aload_n 0, 0, 0), (1, .getfield 31, 0, 7), (4, .ireturn, 0, 0)]
def oP13 : List oOp := [(0, .aload_n 0, 0, 0), (1, .getfield 16, 0, 2), (4, .iload_n 1, 0, 0), (5, .iaload, 0, 0), (6, .ireturn, 0, 0)]
def oP14 : List oOp := [(0, .iload_n 0, 0, 0), (1, .ifCond .lt 8, 0, 0), (4, .iload_n 0, 0, 0), (5, .iload_n 1, 0, 0), (6, .if_icmp .lt 10, 0, 0), (9, .aload_n 2, 0, 0), (10, .iload_n 0, 0, 0), (11, .iload_n 1, 0, 0), (12, .invokestatic 95, 99999, 0), (15, .athrow, 0, 0), (16, .iload_n 0, 0, 0), (17, .ireturn, 0, 0)]
def oP15 : List oOp := [(0, .iload_n 0, 0, 0), (1, .iload_n 1, 0, 0), (2, .aconst_null, 0, 0), (3, .invokestatic 105, 14, 0), (6, .ireturn, 0, 0)]
def oP16 : List oOp := [(0, .aload_n 0, 0, 0), (1, .getfield 22, 0, 4), (4, .iload_n 1, 0, 0), (5, .aload_n 0, 0, 0), (6, .getfield 31, 0, 7), (9, .invokestatic 35, 15, 0), (12, .iaload, 0, 0), (13, .aload_n 0, 0, 0), (14, .getfield 19, 0, 3), (17, .iload_n 1, 0, 0), (18, .iaload, 0, 0), (19, .isub, 0, 0), (20, .ireturn, 0, 0)]
def oPx : List oOp := [(0, .iload_n 0, 0, 0), (1, .bipush 15, 0, 0), (3, .iand, 0, 0), (4, .istore_n 2, 0, 0), (5, .iload_n 1, 0, 0), (6, .bipush 15, 0, 0), (8, .iand, 0, 0), (9, .istore_n 3, 0, 0), (10, .new 14, 0, 0), (13, .dup, 0, 0), (14, .iconst 4, 0, 0), (15, .invokespecial 37, 0, 0), (18, .astore 4, 0, 0), (20, .aload 4, 0, 0), (22, .iload_n 2, 0, 0), (23, .invokestatic 39, 2, 0), (26, .aload 4, 0, 0), (28, .invokevirtual 43, 3, 0), (31, .aload 4, 0, 0), (33, .iload_n 3, 0, 0), (34, .invokestatic 39, 2, 0), (37, .aload 4, 0, 0), (39, .invokevirtual 43, 3, 0), (42, .iload_n 2, 0, 0), (43, .invokestatic 19, 5, 0), (46, .istore 5, 0, 0), (48, .iload 5, 0, 0), (50, .ifCond .eq 9, 0, 0), (53, .iload 5, 0, 0), (55, .iconst 4, 0, 0), (56, .if_icmp .ne 7, 0, 0), (59, .iconst 1, 0, 0), (60, .goto 4, 0, 0), (63, .iconst 2, 0, 0), (64, .istore 6, 0, 0), (66, .iload_n 2, 0, 0), (67, .iconst 0, 0, 0), (68, .invokestatic 26, 7, 0), (71, .istore 7, 0, 0), (73, .iload_n 2, 0, 0), (74, .iconst 1, 0, 0), (75, .invokestatic 26, 7, 0), (78, .istore 8, 0, 0), (80, .iload 7, 0, 0), (82, .iload_n 3, 0, 0), (83, .invokestatic 29, 8, 0), (86, .istore 9, 0, 0), (88, .iload 8, 0, 0), (90, .iload_n 3, 0, 0), (91, .invokestatic 29, 8, 0), (94, .istore 10, 0, 0), (96, .iload_n 3, 0, 0), (97, .ifCond .ne 7, 0, 0), (100, .iconst 0, 0, 0), (101, .goto 11, 0, 0), (104, .iload_n 2, 0, 0), (105, .iload_n 3, 0, 0), (106, .invokestatic 46, 9, 0), (109, .invokestatic 23, 6, 0), (112, .istore 11, 0, 0), (114, .iload 11, 0, 0), (116, .ifCond .ne 25, 0, 0), (119, .iload 6, 0, 0), (121, .istore 12, 0, 0), (123, .iload 6, 0, 0), (125, .iload 9, 0, 0), (127, .ifCond .eq 7, 0, 0), (130, .iconst 1, 0, 0), (131, .goto 4, 0, 0), (134, .iconst 0, 0, 0), (135, .iadd, 0, 0), (136, .istore 13, 0, 0), (138, .goto 22, 0, 0), (141, .iload 6, 0, 0), (143, .istore 13, 0, 0), (145, .iload 6, 0, 0), (147, .iload 10, 0, 0), (149, .ifCond .eq 7, 0, 0), (152, .iconst 1, 0, 0), (153, .goto 4, 0, 0), (156, .iconst 0, 0, 0), (157, .iadd, 0, 0), (158, .istore 12, 0, 0), (160, .iload 6, 0, 0), (162, .iload 9, 0, 0), (164, .ifCond .eq 7, 0, 0), (167, .iconst 1, 0, 0), (168, .goto 4, 0, 0), (171, .iconst 0, 0, 0), (172, .iadd, 0, 0), (173, .iload 10, 0, 0), (175, .ifCond .eq 7, 0, 0), (178, .iconst 1, 0, 0), (179, .goto 4, 0, 0), (182, .iconst 0, 0, 0), (183, .iadd, 0, 0), (184, .istore 14, 0, 0), (186, .iload_n 2, 0, 0), (187, .iload_n 3, 0, 0), (188, .iconst 0, 0, 0), (189, .iload 12, 0, 0), (191, .iload 13, 0, 0), (193, .invokestatic 49, 11, 0), (196, .istore 15, 0, 0), (198, .iload_n 2, 0, 0), (199, .iload_n 3, 0, 0), (200, .iconst 1, 0, 0), (201, .iload 12, 0, 0), (203, .iload 13, 0, 0), (205, .invokestatic 49, 11, 0), (208, .istore 16, 0, 0), (210, .iload_n 2, 0, 0), (211, .iload_n 3, 0, 0), (212, .iconst 2, 0, 0), (213, .iload 12, 0, 0), (215, .iload 13, 0, 0), (217, .invokestatic 49, 11, 0), (220, .istore 17, 0, 0), (222, .iload_n 2, 0, 0), (223, .iload_n 3, 0, 0), (224, .iconst 3, 0, 0), (225, .iload 12, 0, 0), (227, .iload 13, 0, 0), (229, .invokestatic 49, 11, 0), (232, .istore 18, 0, 0), (234, .iload 15, 0, 0), (236, .ifCond .ne 7, 0, 0), (239, .iconst 1, 0, 0), (240, .goto 4, 0, 0), (243, .iconst 0, 0, 0), (244, .iload 16, 0, 0), (246, .ifCond .ne 7, 0, 0), (249, .iconst 1, 0, 0), (250, .goto 4, 0, 0), (253, .iconst 0, 0, 0), (254, .iadd, 0, 0), (255, .iload 17, 0, 0), (257, .ifCond .ne 7, 0, 0), (260, .iconst 1, 0, 0), (261, .goto 4, 0, 0), (264, .iconst 0, 0, 0), (265, .iadd, 0, 0), (266, .iload 18, 0, 0), (268, .ifCond .ne 7, 0, 0), (271, .iconst 1, 0, 0), (272, .goto 4, 0, 0), (275, .iconst 0, 0, 0), (276, .iadd, 0, 0), (277, .istore 19, 0, 0), (279, .aload 4, 0, 0), (281, .invokevirtual 53, 12, 0), (284, .iload 14, 0, 0), (286, .if_icmp .ne 7, 0, 0), (289, .iconst 1, 0, 0), (290, .goto 4, 0, 0), (293, .iconst 0, 0, 0), (294, .istore 20, 0, 0), (296, .iload 20, 0, 0), (298, .ifCond .eq 18, 0, 0), (301, .aload 4, 0, 0), (303, .iconst 0, 0, 0), (304, .invokevirtual 57, 13, 0), (307, .iload 15, 0, 0), (309, .if_icmp .ne 7, 0, 0), (312, .iconst 1, 0, 0), (313, .goto 4, 0, 0), (316, .iconst 0, 0, 0), (317, .istore 20, 0, 0), (319, .iload 20, 0, 0), (321, .ifCond .eq 18, 0, 0), (324, .aload 4, 0, 0), (326, .iconst 1, 0, 0), (327, .invokevirtual 57, 13, 0), (330, .iload 16, 0, 0), (332, .if_icmp .ne 7, 0, 0), (335, .iconst 1, 0, 0), (336, .goto 4, 0, 0), (339, .iconst 0, 0, 0), (340, .istore 20, 0, 0), (342, .iload 20, 0, 0), (344, .ifCond .eq 18, 0, 0), (347, .aload 4, 0, 0), (349, .iconst 2, 0, 0), (350, .invokevirtual 57, 13, 0), (353, .iload 17, 0, 0), (355, .if_icmp .ne 7, 0, 0), (358, .iconst 1, 0, 0), (359, .goto 4, 0, 0), (362, .iconst 0, 0, 0), (363, .istore 20, 0, 0), (365, .iload 20, 0, 0), (367, .ifCond .eq 18, 0, 0), (370, .aload 4, 0, 0), (372, .iconst 3, 0, 0), (373, .invokevirtual 57, 13, 0), (376, .iload 18, 0, 0), (378, .if_icmp .ne 7, 0, 0), (381, .iconst 1, 0, 0), (382, .goto 4, 0, 0), (385, .iconst 0, 0, 0), (386, .istore 20, 0, 0), (388, .iload 20, 0, 0), (390, .ifCond .eq 18, 0, 0), (393, .aload 4, 0, 0), (395, .iconst 0, 0, 0), (396, .invokevirtual 60, 16, 0), (399, .iload 19, 0, 0), (401, .if_icmp .ne 7, 0, 0), (404, .iconst 1, 0, 0), (405, .goto 4, 0, 0), (408, .iconst 0, 0, 0), (409, .istore 20, 0, 0), (411, .iload 20, 0, 0), (413, .ireturn, 0, 0)]
set_option maxRecDepth 65536 in
theorem oK_ok : oKT.all (oKOk tables_1) = true := by decide +kernel
set_option maxRecDepth 65536 in
theorem ops0 : oP0.all (oOpOk tables_1 oKT oCT oMT oM0.1 oM0.2.1) = true := by decide +kernel
theorem pn0 : plainFor oM0.1 = true := plainFor_of_name (by
  show plainName "com/example/ranked_tree_automata/rankedtreeautomata/Partition" = true
  first | (simp [plainName, overriddenIn]; done) | decide +kernel)
set_option maxRecDepth 65536 in
theorem ops1 : oP1.all (oOpOk tables_1 oKT oCT oMT oM1.1 oM1.2.1) = true := by decide +kernel
theorem pn1 : plainFor oM1.1 = true := plainFor_of_name (by
  show plainName "com/example/ranked_tree_automata/rankedtreeautomata/Partition" = true
  first | (simp [plainName, overriddenIn]; done) | decide +kernel)
set_option maxRecDepth 65536 in
theorem ops2 : oP2.all (oOpOk tables_1 oKT oCT oMT oM2.1 oM2.2.1) = true := by decide +kernel
theorem pn2 : plainFor oM2.1 = true := plainFor_of_name (by
  show plainName "com/example/ranked_tree_automata/rankedtreeautomata/PartitionSplitPinLaw" = true
  first | (simp [plainName, overriddenIn]; done) | decide +kernel)
set_option maxRecDepth 65536 in
theorem ops3 : oP3.all (oOpOk tables_1 oKT oCT oMT oM3.1 oM3.2.1) = true := by decide +kernel
theorem pn3 : plainFor oM3.1 = true := plainFor_of_name (by
  show plainName "com/example/ranked_tree_automata/rankedtreeautomata/Partition" = true
  first | (simp [plainName, overriddenIn]; done) | decide +kernel)
set_option maxRecDepth 65536 in
theorem ops4 : oP4.all (oOpOk tables_1 oKT oCT oMT oM4.1 oM4.2.1) = true := by decide +kernel
theorem pn4 : plainFor oM4.1 = true := plainFor_of_name (by
  show plainName "com/example/ranked_tree_automata/rankedtreeautomata/PartitionSplitPinLaw" = true
  first | (simp [plainName, overriddenIn]; done) | decide +kernel)
set_option maxRecDepth 65536 in
theorem ops5 : oP5.all (oOpOk tables_1 oKT oCT oMT oM5.1 oM5.2.1) = true := by decide +kernel
theorem pn5 : plainFor oM5.1 = true := plainFor_of_name (by
  show plainName "com/example/ranked_tree_automata/rankedtreeautomata/PartitionSplitPinLaw" = true
  first | (simp [plainName, overriddenIn]; done) | decide +kernel)
set_option maxRecDepth 65536 in
theorem ops6 : oP6.all (oOpOk tables_1 oKT oCT oMT oM6.1 oM6.2.1) = true := by decide +kernel
theorem pn6 : plainFor oM6.1 = true := plainFor_of_name (by
  show plainName "com/example/ranked_tree_automata/rankedtreeautomata/PartitionSplitPinLaw" = true
  first | (simp [plainName, overriddenIn]; done) | decide +kernel)
set_option maxRecDepth 65536 in
theorem ops7 : oP7.all (oOpOk tables_1 oKT oCT oMT oM7.1 oM7.2.1) = true := by decide +kernel
theorem pn7 : plainFor oM7.1 = true := plainFor_of_name (by
  show plainName "com/example/ranked_tree_automata/rankedtreeautomata/PartitionSplitPinLaw" = true
  first | (simp [plainName, overriddenIn]; done) | decide +kernel)
set_option maxRecDepth 65536 in
theorem ops8 : oP8.all (oOpOk tables_1 oKT oCT oMT oM8.1 oM8.2.1) = true := by decide +kernel
theorem pn8 : plainFor oM8.1 = true := plainFor_of_name (by
  show plainName "com/example/ranked_tree_automata/rankedtreeautomata/PartitionSplitPinLaw" = true
  first | (simp [plainName, overriddenIn]; done) | decide +kernel)
set_option maxRecDepth 65536 in
theorem ops9 : oP9.all (oOpOk tables_1 oKT oCT oMT oM9.1 oM9.2.1) = true := by decide +kernel
theorem pn9 : plainFor oM9.1 = true := plainFor_of_name (by
  show plainName "com/example/ranked_tree_automata/rankedtreeautomata/PartitionSplitPinLaw" = true
  first | (simp [plainName, overriddenIn]; done) | decide +kernel)
set_option maxRecDepth 65536 in
theorem ops10 : oP10.all (oOpOk tables_1 oKT oCT oMT oM10.1 oM10.2.1) = true := by decide +kernel
theorem pn10 : plainFor oM10.1 = true := plainFor_of_name (by
  show plainName "com/example/ranked_tree_automata/rankedtreeautomata/PartitionSplitPinLaw" = true
  first | (simp [plainName, overriddenIn]; done) | decide +kernel)
set_option maxRecDepth 65536 in
theorem ops11 : oP11.all (oOpOk tables_1 oKT oCT oMT oM11.1 oM11.2.1) = true := by decide +kernel
theorem pn11 : plainFor oM11.1 = true := plainFor_of_name (by
  show plainName "com/example/ranked_tree_automata/rankedtreeautomata/PartitionSplitPinLaw" = true
  first | (simp [plainName, overriddenIn]; done) | decide +kernel)
set_option maxRecDepth 65536 in
theorem ops12 : oP12.all (oOpOk tables_1 oKT oCT oMT oM12.1 oM12.2.1) = true := by decide +kernel
theorem pn12 : plainFor oM12.1 = true := plainFor_of_name (by
  show plainName "com/example/ranked_tree_automata/rankedtreeautomata/Partition" = true
  first | (simp [plainName, overriddenIn]; done) | decide +kernel)
set_option maxRecDepth 65536 in
theorem ops13 : oP13.all (oOpOk tables_1 oKT oCT oMT oM13.1 oM13.2.1) = true := by decide +kernel
theorem pn13 : plainFor oM13.1 = true := plainFor_of_name (by
  show plainName "com/example/ranked_tree_automata/rankedtreeautomata/Partition" = true
  first | (simp [plainName, overriddenIn]; done) | decide +kernel)
set_option maxRecDepth 65536 in
theorem ops14 : oP14.all (oOpOk tables_1 oKT oCT oMT oM14.1 oM14.2.1) = true := by decide +kernel
theorem pn14 : plainFor oM14.1 = true := plainFor_of_name (by
  show plainName "jdk/internal/util/Preconditions" = true
  first | (simp [plainName, overriddenIn]; done) | decide +kernel)
set_option maxRecDepth 65536 in
theorem ops15 : oP15.all (oOpOk tables_1 oKT oCT oMT oM15.1 oM15.2.1) = true := by decide +kernel
theorem pn15 : plainFor oM15.1 = true := plainFor_of_name (by
  show plainName "java/util/Objects" = true
  first | (simp [plainName, overriddenIn]; done) | decide +kernel)
set_option maxRecDepth 65536 in
theorem ops16 : oP16.all (oOpOk tables_1 oKT oCT oMT oM16.1 oM16.2.1) = true := by decide +kernel
theorem pn16 : plainFor oM16.1 = true := plainFor_of_name (by
  show plainName "com/example/ranked_tree_automata/rankedtreeautomata/Partition" = true
  first | (simp [plainName, overriddenIn]; done) | decide +kernel)
set_option maxRecDepth 65536 in
theorem opsx : oPx.all (oOpOk tables_1 oKT oCT oMT oMx.1 oMx.2.1) = true := by decide +kernel
theorem pnx : plainFor oMx.1 = true := plainFor_of_name (by
  show plainName "com/example/ranked_tree_automata/rankedtreeautomata/PartitionSplitPinLaw" = true
  first | (simp [plainName, overriddenIn]; done) | decide +kernel)
def oF0_0 (pc : Nat) : Option (Instr × Nat × Nat) := (bif Nat.beq pc 0 then some (.aload_n 0, 0, 0) else (bif Nat.beq pc 1 then some (.invokespecial 1, 99999, 1) else (bif Nat.beq pc 4 then some (.aload_n 0, 0, 0) else none)))
def oF0_3 (pc : Nat) : Option (Instr × Nat × Nat) := (bif Nat.beq pc 5 then some (.iload_n 1, 0, 0) else (bif Nat.beq pc 6 then some (.newarray .int, 0, 0) else (bif Nat.beq pc 8 then some (.putfield 7, 0, 0) else (bif Nat.beq pc 11 then some (.aload_n 0, 0, 0) else none))))
def oF0_0_7 (pc : Nat) : Option (Instr × Nat × Nat) := bif Nat.blt pc 5 then oF0_0 pc else oF0_3 pc
def oF0_7 (pc : Nat) : Option (Instr × Nat × Nat) := (bif Nat.beq pc 12 then some (.iload_n 1, 0, 0) else (bif Nat.beq pc 13 then some (.newarray .int, 0, 0) else (bif Nat.beq pc 15 then some (.putfield 13, 0, 1) else none)))
def oF0_10 (pc : Nat) : Option (Instr × Nat × Nat) := (bif Nat.beq pc 18 then some (.iconst 0, 0, 0) else (bif Nat.beq pc 19 then some (.istore_n 2, 0, 0) else (bif Nat.beq pc 20 then some (.iload_n 2, 0, 0) else (bif Nat.beq pc 21 then some (.iload_n 1, 0, 0) else none))))
def oF0_7_14 (pc : Nat) : Option (Instr × Nat × Nat) := bif Nat.blt pc 18 then oF0_7 pc else oF0_10 pc
def oF0_0_14 (pc : Nat) : Option (Instr × Nat × Nat) := bif Nat.blt pc 12 then oF0_0_7 pc else oF0_7_14 pc
def oF0_14 (pc : Nat) : Option (Instr × Nat × Nat) := (bif Nat.beq pc 22 then some (.if_icmp .ge 23, 0, 0) else (bif Nat.beq pc 25 then some (.aload_n 0, 0, 0) else (bif Nat.beq pc 26 then some (.getfield 7, 0, 0) else none)))
def oF0_17 (pc : Nat) : Option (Instr × Nat × Nat) := (bif Nat.beq pc 29 then some (.iload_n 2, 0, 0) else (bif Nat.beq pc 30 then some (.iload_n 2, 0, 0) else (bif Nat.beq pc 31 then some (.iastore, 0, 0) else (bif Nat.beq pc 32 then some (.aload_n 0, 0, 0) else none))))
def oF0_14_21 (pc : Nat) : Option (Instr × Nat × Nat) := bif Nat.blt pc 29 then oF0_14 pc else oF0_17 pc
def oF0_21 (pc : Nat) : Option (Instr × Nat × Nat) := (bif Nat.beq pc 33 then some (.getfield 13, 0, 1) else (bif Nat.beq pc 36 then some (.iload_n 2, 0, 0) else (bif Nat.beq pc 37 then some (.iload_n 2, 0, 0) else (bif Nat.beq pc 38 then some (.iastore, 0, 0) else none))))
def oF0_25 (pc : Nat) : Option (Instr × Nat × Nat) := (bif Nat.beq pc 39 then some (.iinc 2 1, 0, 0) else (bif Nat.beq pc 42 then some (.goto (-22), 0, 0) else (bif Nat.beq pc 45 then some (.aload_n 0, 0, 0) else (bif Nat.beq pc 46 then some (.iload_n 1, 0, 0) else none))))
def oF0_21_29 (pc : Nat) : Option (Instr × Nat × Nat) := bif Nat.blt pc 39 then oF0_21 pc else oF0_25 pc
def oF0_14_29 (pc : Nat) : Option (Instr × Nat × Nat) := bif Nat.blt pc 33 then oF0_14_21 pc else oF0_21_29 pc
def oF0_0_29 (pc : Nat) : Option (Instr × Nat × Nat) := bif Nat.blt pc 22 then oF0_0_14 pc else oF0_14_29 pc
def oF0_29 (pc : Nat) : Option (Instr × Nat × Nat) := (bif Nat.beq pc 47 then some (.newarray .int, 0, 0) else (bif Nat.beq pc 49 then some (.putfield 16, 0, 2) else (bif Nat.beq pc 52 then some (.aload_n 0, 0, 0) else none)))
def oF0_32 (pc : Nat) : Option (Instr × Nat × Nat) := (bif Nat.beq pc 53 then some (.iload_n 1, 0, 0) else (bif Nat.beq pc 54 then some (.newarray .int, 0, 0) else (bif Nat.beq pc 56 then some (.putfield 19, 0, 3) else (bif Nat.beq pc 59 then some (.aload_n 0, 0, 0) else none))))
def oF0_29_36 (pc : Nat) : Option (Instr × Nat × Nat) := bif Nat.blt pc 53 then oF0_29 pc else oF0_32 pc
def oF0_36 (pc : Nat) : Option (Instr × Nat × Nat) := (bif Nat.beq pc 60 then some (.iload_n 1, 0, 0) else (bif Nat.beq pc 61 then some (.newarray .int, 0, 0) else (bif Nat.beq pc 63 then some (.putfield 22, 0, 4) else none)))
def oF0_39 (pc : Nat) : Option (Instr × Nat × Nat) := (bif Nat.beq pc 66 then some (.aload_n 0, 0, 0) else (bif Nat.beq pc 67 then some (.iload_n 1, 0, 0) else (bif Nat.beq pc 68 then some (.newarray .int, 0, 0) else (bif Nat.beq pc 70 then some (.putfield 25, 0, 5) else none))))
def oF0_36_43 (pc : Nat) : Option (Instr × Nat × Nat) := bif Nat.blt pc 66 then oF0_36 pc else oF0_39 pc
def oF0_29_43 (pc : Nat) : Option (Instr × Nat × Nat) := bif Nat.blt pc 60 then oF0_29_36 pc else oF0_36_43 pc
def oF0_43 (pc : Nat) : Option (Instr × Nat × Nat) := (bif Nat.beq pc 73 then some (.aload_n 0, 0, 0) else (bif Nat.beq pc 74 then some (.iload_n 1, 0, 0) else (bif Nat.beq pc 75 then some (.newarray .int, 0, 0) else none)))
def oF0_46 (pc : Nat) : Option (Instr × Nat × Nat) := (bif Nat.beq pc 77 then some (.putfield 28, 0, 6) else (bif Nat.beq pc 80 then some (.iload_n 1, 0, 0) else (bif Nat.beq pc 81 then some (.ifCond .le 15, 0, 0) else (bif Nat.beq pc 84 then some (.aload_n 0, 0, 0) else none))))
def oF0_43_50 (pc : Nat) : Option (Instr × Nat × Nat) := bif Nat.blt pc 77 then oF0_43 pc else oF0_46 pc
def oF0_50 (pc : Nat) : Option (Instr × Nat × Nat) := (bif Nat.beq pc 85 then some (.getfield 22, 0, 4) else (bif Nat.beq pc 88 then some (.iconst 0, 0, 0) else (bif Nat.beq pc 89 then some (.iload_n 1, 0, 0) else (bif Nat.beq pc 90 then some (.iastore, 0, 0) else none))))
def oF0_54 (pc : Nat) : Option (Instr × Nat × Nat) := (bif Nat.beq pc 91 then some (.aload_n 0, 0, 0) else (bif Nat.beq pc 92 then some (.iconst 1, 0, 0) else (bif Nat.beq pc 93 then some (.putfield 31, 0, 7) else (bif Nat.beq pc 96 then some (.return_, 0, 0) else none))))
def oF0_50_58 (pc : Nat) : Option (Instr × Nat × Nat) := bif Nat.blt pc 91 then oF0_50 pc else oF0_54 pc
def oF0_43_58 (pc : Nat) : Option (Instr × Nat × Nat) := bif Nat.blt pc 85 then oF0_43_50 pc else oF0_50_58 pc
def oF0_29_58 (pc : Nat) : Option (Instr × Nat × Nat) := bif Nat.blt pc 73 then oF0_29_43 pc else oF0_43_58 pc
def oF0_0_58 (pc : Nat) : Option (Instr × Nat × Nat) := bif Nat.blt pc 47 then oF0_0_29 pc else oF0_29_58 pc
def oF0 : oFt := oUpto (fun pc => oF0_0_58 pc) 97
set_option maxRecDepth 65536 in
theorem oS0 : oSame oF0 oP0 := oSame_of (by decide +kernel)
def oF1_0 (pc : Nat) : Option (Instr × Nat × Nat) := (bif Nat.beq pc 0 then some (.aload_n 0, 0, 0) else (bif Nat.beq pc 1 then some (.getfield 16, 0, 2) else (bif Nat.beq pc 4 then some (.iload_n 1, 0, 0) else (bif Nat.beq pc 5 then some (.iaload, 0, 0) else none))))
def oF1_4 (pc : Nat) : Option (Instr × Nat × Nat) := (bif Nat.beq pc 6 then some (.istore_n 2, 0, 0) else (bif Nat.beq pc 7 then some (.aload_n 0, 0, 0) else (bif Nat.beq pc 8 then some (.getfield 13, 0, 1) else (bif Nat.beq pc 11 then some (.iload_n 1, 0, 0) else none))))
def oF1_0_8 (pc : Nat) : Option (Instr × Nat × Nat) := bif Nat.blt pc 6 then oF1_0 pc else oF1_4 pc
def oF1_8 (pc : Nat) : Option (Instr × Nat × Nat) := (bif Nat.beq pc 12 then some (.iaload, 0, 0) else (bif Nat.beq pc 13 then some (.istore_n 3, 0, 0) else (bif Nat.beq pc 14 then some (.aload_n 0, 0, 0) else (bif Nat.beq pc 15 then some (.getfield 19, 0, 3) else none))))
def oF1_12 (pc : Nat) : Option (Instr × Nat × Nat) := (bif Nat.beq pc 18 then some (.iload_n 2, 0, 0) else (bif Nat.beq pc 19 then some (.iaload, 0, 0) else (bif Nat.beq pc 20 then some (.aload_n 0, 0, 0) else (bif Nat.beq pc 21 then some (.getfield 25, 0, 5) else (bif Nat.beq pc 24 then some (.iload_n 2, 0, 0) else none)))))
def oF1_8_17 (pc : Nat) : Option (Instr × Nat × Nat) := bif Nat.blt pc 18 then oF1_8 pc else oF1_12 pc
def oF1_0_17 (pc : Nat) : Option (Instr × Nat × Nat) := bif Nat.blt pc 12 then oF1_0_8 pc else oF1_8_17 pc
def oF1_17 (pc : Nat) : Option (Instr × Nat × Nat) := (bif Nat.beq pc 25 then some (.iaload, 0, 0) else (bif Nat.beq pc 26 then some (.iadd, 0, 0) else (bif Nat.beq pc 27 then some (.istore 4, 0, 0) else (bif Nat.beq pc 29 then some (.aload_n 0, 0, 0) else none))))
def oF1_21 (pc : Nat) : Option (Instr × Nat × Nat) := (bif Nat.beq pc 30 then some (.getfield 7, 0, 0) else (bif Nat.beq pc 33 then some (.iload 4, 0, 0) else (bif Nat.beq pc 35 then some (.iaload, 0, 0) else (bif Nat.beq pc 36 then some (.istore 5, 0, 0) else (bif Nat.beq pc 38 then some (.aload_n 0, 0, 0) else none)))))
def oF1_17_26 (pc : Nat) : Option (Instr × Nat × Nat) := bif Nat.blt pc 30 then oF1_17 pc else oF1_21 pc
def oF1_26 (pc : Nat) : Option (Instr × Nat × Nat) := (bif Nat.beq pc 39 then some (.getfield 7, 0, 0) else (bif Nat.beq pc 42 then some (.iload 4, 0, 0) else (bif Nat.beq pc 44 then some (.iload_n 1, 0, 0) else (bif Nat.beq pc 45 then some (.iastore, 0, 0) else none))))
def oF1_30 (pc : Nat) : Option (Instr × Nat × Nat) := (bif Nat.beq pc 46 then some (.aload_n 0, 0, 0) else (bif Nat.beq pc 47 then some (.getfield 13, 0, 1) else (bif Nat.beq pc 50 then some (.iload_n 1, 0, 0) else (bif Nat.beq pc 51 then some (.iload 4, 0, 0) else (bif Nat.beq pc 53 then some (.iastore, 0, 0) else none)))))
def oF1_26_35 (pc : Nat) : Option (Instr × Nat × Nat) := bif Nat.blt pc 46 then oF1_26 pc else oF1_30 pc
def oF1_17_35 (pc : Nat) : Option (Instr × Nat × Nat) := bif Nat.blt pc 39 then oF1_17_26 pc else oF1_26_35 pc
def oF1_0_35 (pc : Nat) : Option (Instr × Nat × Nat) := bif Nat.blt pc 25 then oF1_0_17 pc else oF1_17_35 pc
def oF1_35 (pc : Nat) : Option (Instr × Nat × Nat) := (bif Nat.beq pc 54 then some (.aload_n 0, 0, 0) else (bif Nat.beq pc 55 then some (.getfield 7, 0, 0) else (bif Nat.beq pc 58 then some (.iload_n 3, 0, 0) else (bif Nat.beq pc 59 then some (.iload 5, 0, 0) else none))))
def oF1_39 (pc : Nat) : Option (Instr × Nat × Nat) := (bif Nat.beq pc 61 then some (.iastore, 0, 0) else (bif Nat.beq pc 62 then some (.aload_n 0, 0, 0) else (bif Nat.beq pc 63 then some (.getfield 13, 0, 1) else (bif Nat.beq pc 66 then some (.iload 5, 0, 0) else none))))
def oF1_35_43 (pc : Nat) : Option (Instr × Nat × Nat) := bif Nat.blt pc 61 then oF1_35 pc else oF1_39 pc
def oF1_43 (pc : Nat) : Option (Instr × Nat × Nat) := (bif Nat.beq pc 68 then some (.iload_n 3, 0, 0) else (bif Nat.beq pc 69 then some (.iastore, 0, 0) else (bif Nat.beq pc 70 then some (.aload_n 0, 0, 0) else (bif Nat.beq pc 71 then some (.getfield 25, 0, 5) else none))))
def oF1_47 (pc : Nat) : Option (Instr × Nat × Nat) := (bif Nat.beq pc 74 then some (.iload_n 2, 0, 0) else (bif Nat.beq pc 75 then some (.iaload, 0, 0) else (bif Nat.beq pc 76 then some (.ifCond .ne 20, 0, 0) else (bif Nat.beq pc 79 then some (.aload_n 0, 0, 0) else (bif Nat.beq pc 80 then some (.getfield 28, 0, 6) else none)))))
def oF1_43_52 (pc : Nat) : Option (Instr × Nat × Nat) := bif Nat.blt pc 74 then oF1_43 pc else oF1_47 pc
def oF1_35_52 (pc : Nat) : Option (Instr × Nat × Nat) := bif Nat.blt pc 68 then oF1_35_43 pc else oF1_43_52 pc
def oF1_52 (pc : Nat) : Option (Instr × Nat × Nat) := (bif Nat.beq pc 83 then some (.aload_n 0, 0, 0) else (bif Nat.beq pc 84 then some (.dup, 0, 0) else (bif Nat.beq pc 85 then some (.getfield 45, 0, 8) else (bif Nat.beq pc 88 then some (.dup_x1, 0, 0) else none))))
def oF1_56 (pc : Nat) : Option (Instr × Nat × Nat) := (bif Nat.beq pc 89 then some (.iconst 1, 0, 0) else (bif Nat.beq pc 90 then some (.iadd, 0, 0) else (bif Nat.beq pc 91 then some (.putfield 45, 0, 8) else (bif Nat.beq pc 94 then some (.iload_n 2, 0, 0) else (bif Nat.beq pc 95 then some (.iastore, 0, 0) else none)))))
def oF1_52_61 (pc : Nat) : Option (Instr × Nat × Nat) := bif Nat.blt pc 89 then oF1_52 pc else oF1_56 pc
def oF1_61 (pc : Nat) : Option (Instr × Nat × Nat) := (bif Nat.beq pc 96 then some (.aload_n 0, 0, 0) else (bif Nat.beq pc 97 then some (.getfield 25, 0, 5) else (bif Nat.beq pc 100 then some (.iload_n 2, 0, 0) else (bif Nat.beq pc 101 then some (.dup2, 0, 0) else none))))
def oF1_65 (pc : Nat) : Option (Instr × Nat × Nat) := (bif Nat.beq pc 102 then some (.iaload, 0, 0) else (bif Nat.beq pc 103 then some (.iconst 1, 0, 0) else (bif Nat.beq pc 104 then some (.iadd, 0, 0) else (bif Nat.beq pc 105 then some (.iastore, 0, 0) else (bif Nat.beq pc 106 then some (.return_, 0, 0) else none)))))
def oF1_61_70 (pc : Nat) : Option (Instr × Nat × Nat) := bif Nat.blt pc 102 then oF1_61 pc else oF1_65 pc
def oF1_52_70 (pc : Nat) : Option (Instr × Nat × Nat) := bif Nat.blt pc 96 then oF1_52_61 pc else oF1_61_70 pc
def oF1_35_70 (pc : Nat) : Option (Instr × Nat × Nat) := bif Nat.blt pc 83 then oF1_35_52 pc else oF1_52_70 pc
def oF1_0_70 (pc : Nat) : Option (Instr × Nat × Nat) := bif Nat.blt pc 54 then oF1_0_35 pc else oF1_35_70 pc
def oF1 : oFt := oUpto (fun pc => oF1_0_70 pc) 107
set_option maxRecDepth 65536 in
theorem oS1 : oSame oF1 oP1 := oSame_of (by decide +kernel)
def oF2_0 (pc : Nat) : Option (Instr × Nat × Nat) := (bif Nat.beq pc 0 then some (.iload_n 1, 0, 0) else (bif Nat.beq pc 1 then some (.iconst 1, 0, 0) else (bif Nat.beq pc 2 then some (.iand, 0, 0) else none)))
def oF2_3 (pc : Nat) : Option (Instr × Nat × Nat) := (bif Nat.beq pc 3 then some (.ifCond .eq 8, 0, 0) else (bif Nat.beq pc 6 then some (.aload_n 0, 0, 0) else (bif Nat.beq pc 7 then some (.iconst 0, 0, 0) else (bif Nat.beq pc 8 then some (.invokevirtual 13, 1, 0) else none))))
def oF2_0_7 (pc : Nat) : Option (Instr × Nat × Nat) := bif Nat.blt pc 3 then oF2_0 pc else oF2_3 pc
def oF2_7 (pc : Nat) : Option (Instr × Nat × Nat) := (bif Nat.beq pc 11 then some (.iload_n 1, 0, 0) else (bif Nat.beq pc 12 then some (.iconst 2, 0, 0) else (bif Nat.beq pc 13 then some (.iand, 0, 0) else none)))
def oF2_10 (pc : Nat) : Option (Instr × Nat × Nat) := (bif Nat.beq pc 14 then some (.ifCond .eq 8, 0, 0) else (bif Nat.beq pc 17 then some (.aload_n 0, 0, 0) else (bif Nat.beq pc 18 then some (.iconst 1, 0, 0) else (bif Nat.beq pc 19 then some (.invokevirtual 13, 1, 0) else none))))
def oF2_7_14 (pc : Nat) : Option (Instr × Nat × Nat) := bif Nat.blt pc 14 then oF2_7 pc else oF2_10 pc
def oF2_0_14 (pc : Nat) : Option (Instr × Nat × Nat) := bif Nat.blt pc 11 then oF2_0_7 pc else oF2_7_14 pc
def oF2_14 (pc : Nat) : Option (Instr × Nat × Nat) := (bif Nat.beq pc 22 then some (.iload_n 1, 0, 0) else (bif Nat.beq pc 23 then some (.iconst 4, 0, 0) else (bif Nat.beq pc 24 then some (.iand, 0, 0) else none)))
def oF2_17 (pc : Nat) : Option (Instr × Nat × Nat) := (bif Nat.beq pc 25 then some (.ifCond .eq 8, 0, 0) else (bif Nat.beq pc 28 then some (.aload_n 0, 0, 0) else (bif Nat.beq pc 29 then some (.iconst 2, 0, 0) else (bif Nat.beq pc 30 then some (.invokevirtual 13, 1, 0) else none))))
def oF2_14_21 (pc : Nat) : Option (Instr × Nat × Nat) := bif Nat.blt pc 25 then oF2_14 pc else oF2_17 pc
def oF2_21 (pc : Nat) : Option (Instr × Nat × Nat) := (bif Nat.beq pc 33 then some (.iload_n 1, 0, 0) else (bif Nat.beq pc 34 then some (.bipush 8, 0, 0) else (bif Nat.beq pc 36 then some (.iand, 0, 0) else (bif Nat.beq pc 37 then some (.ifCond .eq 8, 0, 0) else none))))
def oF2_25 (pc : Nat) : Option (Instr × Nat × Nat) := (bif Nat.beq pc 40 then some (.aload_n 0, 0, 0) else (bif Nat.beq pc 41 then some (.iconst 3, 0, 0) else (bif Nat.beq pc 42 then some (.invokevirtual 13, 1, 0) else (bif Nat.beq pc 45 then some (.return_, 0, 0) else none))))
def oF2_21_29 (pc : Nat) : Option (Instr × Nat × Nat) := bif Nat.blt pc 40 then oF2_21 pc else oF2_25 pc
def oF2_14_29 (pc : Nat) : Option (Instr × Nat × Nat) := bif Nat.blt pc 33 then oF2_14_21 pc else oF2_21_29 pc
def oF2_0_29 (pc : Nat) : Option (Instr × Nat × Nat) := bif Nat.blt pc 22 then oF2_0_14 pc else oF2_14_29 pc
def oF2 : oFt := oUpto (fun pc => oF2_0_29 pc) 46
set_option maxRecDepth 65536 in
theorem oS2 : oSame oF2 oP2 := oSame_of (by decide +kernel)
def oF3_0 (pc : Nat) : Option (Instr × Nat × Nat) := (bif Nat.beq pc 0 then some (.iconst 0, 0, 0) else (bif Nat.beq pc 1 then some (.istore_n 1, 0, 0) else (bif Nat.beq pc 2 then some (.iload_n 1, 0, 0) else none)))
def oF3_3 (pc : Nat) : Option (Instr × Nat × Nat) := (bif Nat.beq pc 3 then some (.aload_n 0, 0, 0) else (bif Nat.beq pc 4 then some (.getfield 45, 0, 8) else (bif Nat.beq pc 7 then some (.if_icmp .ge 179, 0, 0) else (bif Nat.beq pc 10 then some (.aload_n 0, 0, 0) else none))))
def oF3_0_7 (pc : Nat) : Option (Instr × Nat × Nat) := bif Nat.blt pc 3 then oF3_0 pc else oF3_3 pc
def oF3_7 (pc : Nat) : Option (Instr × Nat × Nat) := (bif Nat.beq pc 11 then some (.getfield 28, 0, 6) else (bif Nat.beq pc 14 then some (.iload_n 1, 0, 0) else (bif Nat.beq pc 15 then some (.iaload, 0, 0) else none)))
def oF3_10 (pc : Nat) : Option (Instr × Nat × Nat) := (bif Nat.beq pc 16 then some (.istore_n 2, 0, 0) else (bif Nat.beq pc 17 then some (.aload_n 0, 0, 0) else (bif Nat.beq pc 18 then some (.getfield 19, 0, 3) else (bif Nat.beq pc 21 then some (.iload_n 2, 0, 0) else none))))
def oF3_7_14 (pc : Nat) : Option (Instr × Nat × Nat) := bif Nat.blt pc 16 then oF3_7 pc else oF3_10 pc
def oF3_0_14 (pc : Nat) : Option (Instr × Nat × Nat) := bif Nat.blt pc 11 then oF3_0_7 pc else oF3_7_14 pc
def oF3_14 (pc : Nat) : Option (Instr × Nat × Nat) := (bif Nat.beq pc 22 then some (.iaload, 0, 0) else (bif Nat.beq pc 23 then some (.aload_n 0, 0, 0) else (bif Nat.beq pc 24 then some (.getfield 25, 0, 5) else none)))
def oF3_17 (pc : Nat) : Option (Instr × Nat × Nat) := (bif Nat.beq pc 27 then some (.iload_n 2, 0, 0) else (bif Nat.beq pc 28 then some (.iaload, 0, 0) else (bif Nat.beq pc 29 then some (.iadd, 0, 0) else (bif Nat.beq pc 30 then some (.istore_n 3, 0, 0) else none))))
def oF3_14_21 (pc : Nat) : Option (Instr × Nat × Nat) := bif Nat.blt pc 27 then oF3_14 pc else oF3_17 pc
def oF3_21 (pc : Nat) : Option (Instr × Nat × Nat) := (bif Nat.beq pc 31 then some (.aload_n 0, 0, 0) else (bif Nat.beq pc 32 then some (.getfield 25, 0, 5) else (bif Nat.beq pc 35 then some (.iload_n 2, 0, 0) else (bif Nat.beq pc 36 then some (.iconst 0, 0, 0) else none))))
def oF3_25 (pc : Nat) : Option (Instr × Nat × Nat) := (bif Nat.beq pc 37 then some (.iastore, 0, 0) else (bif Nat.beq pc 38 then some (.iload_n 3, 0, 0) else (bif Nat.beq pc 39 then some (.aload_n 0, 0, 0) else (bif Nat.beq pc 40 then some (.getfield 22, 0, 4) else none))))
def oF3_21_29 (pc : Nat) : Option (Instr × Nat × Nat) := bif Nat.blt pc 37 then oF3_21 pc else oF3_25 pc
def oF3_14_29 (pc : Nat) : Option (Instr × Nat × Nat) := bif Nat.blt pc 31 then oF3_14_21 pc else oF3_21_29 pc
def oF3_0_29 (pc : Nat) : Option (Instr × Nat × Nat) := bif Nat.blt pc 22 then oF3_0_14 pc else oF3_14_29 pc
def oF3_29 (pc : Nat) : Option (Instr × Nat × Nat) := (bif Nat.beq pc 43 then some (.iload_n 2, 0, 0) else (bif Nat.beq pc 44 then some (.iaload, 0, 0) else (bif Nat.beq pc 45 then some (.if_icmp .ge 135, 0, 0) else none)))
def oF3_32 (pc : Nat) : Option (Instr × Nat × Nat) := (bif Nat.beq pc 48 then some (.aload_n 0, 0, 0) else (bif Nat.beq pc 49 then some (.dup, 0, 0) else (bif Nat.beq pc 50 then some (.getfield 31, 0, 7) else (bif Nat.beq pc 53 then some (.dup_x1, 0, 0) else none))))
def oF3_29_36 (pc : Nat) : Option (Instr × Nat × Nat) := bif Nat.blt pc 48 then oF3_29 pc else oF3_32 pc
def oF3_36 (pc : Nat) : Option (Instr × Nat × Nat) := (bif Nat.beq pc 54 then some (.iconst 1, 0, 0) else (bif Nat.beq pc 55 then some (.iadd, 0, 0) else (bif Nat.beq pc 56 then some (.putfield 31, 0, 7) else none)))
def oF3_39 (pc : Nat) : Option (Instr × Nat × Nat) := (bif Nat.beq pc 59 then some (.istore 4, 0, 0) else (bif Nat.beq pc 61 then some (.iload_n 3, 0, 0) else (bif Nat.beq pc 62 then some (.aload_n 0, 0, 0) else (bif Nat.beq pc 63 then some (.getfield 19, 0, 3) else none))))
def oF3_36_43 (pc : Nat) : Option (Instr × Nat × Nat) := bif Nat.blt pc 59 then oF3_36 pc else oF3_39 pc
def oF3_29_43 (pc : Nat) : Option (Instr × Nat × Nat) := bif Nat.blt pc 54 then oF3_29_36 pc else oF3_36_43 pc
def oF3_43 (pc : Nat) : Option (Instr × Nat × Nat) := (bif Nat.beq pc 66 then some (.iload_n 2, 0, 0) else (bif Nat.beq pc 67 then some (.iaload, 0, 0) else (bif Nat.beq pc 68 then some (.isub, 0, 0) else none)))
def oF3_46 (pc : Nat) : Option (Instr × Nat × Nat) := (bif Nat.beq pc 69 then some (.aload_n 0, 0, 0) else (bif Nat.beq pc 70 then some (.getfield 22, 0, 4) else (bif Nat.beq pc 73 then some (.iload_n 2, 0, 0) else (bif Nat.beq pc 74 then some (.iaload, 0, 0) else none))))
def oF3_43_50 (pc : Nat) : Option (Instr × Nat × Nat) := bif Nat.blt pc 69 then oF3_43 pc else oF3_46 pc
def oF3_50 (pc : Nat) : Option (Instr × Nat × Nat) := (bif Nat.beq pc 75 then some (.iload_n 3, 0, 0) else (bif Nat.beq pc 76 then some (.isub, 0, 0) else (bif Nat.beq pc 77 then some (.if_icmp .gt 34, 0, 0) else (bif Nat.beq pc 80 then some (.aload_n 0, 0, 0) else none))))
def oF3_54 (pc : Nat) : Option (Instr × Nat × Nat) := (bif Nat.beq pc 81 then some (.getfield 19, 0, 3) else (bif Nat.beq pc 84 then some (.iload 4, 0, 0) else (bif Nat.beq pc 86 then some (.aload_n 0, 0, 0) else (bif Nat.beq pc 87 then some (.getfield 19, 0, 3) else none))))
def oF3_50_58 (pc : Nat) : Option (Instr × Nat × Nat) := bif Nat.blt pc 81 then oF3_50 pc else oF3_54 pc
def oF3_43_58 (pc : Nat) : Option (Instr × Nat × Nat) := bif Nat.blt pc 75 then oF3_43_50 pc else oF3_50_58 pc
def oF3_29_58 (pc : Nat) : Option (Instr × Nat × Nat) := bif Nat.blt pc 66 then oF3_29_43 pc else oF3_43_58 pc
def oF3_0_58 (pc : Nat) : Option (Instr × Nat × Nat) := bif Nat.blt pc 43 then oF3_0_29 pc else oF3_29_58 pc
def oF3_58 (pc : Nat) : Option (Instr × Nat × Nat) := (bif Nat.beq pc 90 then some (.iload_n 2, 0, 0) else (bif Nat.beq pc 91 then some (.iaload, 0, 0) else (bif Nat.beq pc 92 then some (.iastore, 0, 0) else none)))
def oF3_61 (pc : Nat) : Option (Instr × Nat × Nat) := (bif Nat.beq pc 93 then some (.aload_n 0, 0, 0) else (bif Nat.beq pc 94 then some (.getfield 22, 0, 4) else (bif Nat.beq pc 97 then some (.iload 4, 0, 0) else (bif Nat.beq pc 99 then some (.iload_n 3, 0, 0) else none))))
def oF3_58_65 (pc : Nat) : Option (Instr × Nat × Nat) := bif Nat.blt pc 93 then oF3_58 pc else oF3_61 pc
def oF3_65 (pc : Nat) : Option (Instr × Nat × Nat) := (bif Nat.beq pc 100 then some (.iastore, 0, 0) else (bif Nat.beq pc 101 then some (.aload_n 0, 0, 0) else (bif Nat.beq pc 102 then some (.getfield 19, 0, 3) else none)))
def oF3_68 (pc : Nat) : Option (Instr × Nat × Nat) := (bif Nat.beq pc 105 then some (.iload_n 2, 0, 0) else (bif Nat.beq pc 106 then some (.iload_n 3, 0, 0) else (bif Nat.beq pc 107 then some (.iastore, 0, 0) else (bif Nat.beq pc 108 then some (.goto 31, 0, 0) else none))))
def oF3_65_72 (pc : Nat) : Option (Instr × Nat × Nat) := bif Nat.blt pc 105 then oF3_65 pc else oF3_68 pc
def oF3_58_72 (pc : Nat) : Option (Instr × Nat × Nat) := bif Nat.blt pc 100 then oF3_58_65 pc else oF3_65_72 pc
def oF3_72 (pc : Nat) : Option (Instr × Nat × Nat) := (bif Nat.beq pc 111 then some (.aload_n 0, 0, 0) else (bif Nat.beq pc 112 then some (.getfield 19, 0, 3) else (bif Nat.beq pc 115 then some (.iload 4, 0, 0) else none)))
def oF3_75 (pc : Nat) : Option (Instr × Nat × Nat) := (bif Nat.beq pc 117 then some (.iload_n 3, 0, 0) else (bif Nat.beq pc 118 then some (.iastore, 0, 0) else (bif Nat.beq pc 119 then some (.aload_n 0, 0, 0) else (bif Nat.beq pc 120 then some (.getfield 22, 0, 4) else none))))
def oF3_72_79 (pc : Nat) : Option (Instr × Nat × Nat) := bif Nat.blt pc 117 then oF3_72 pc else oF3_75 pc
def oF3_79 (pc : Nat) : Option (Instr × Nat × Nat) := (bif Nat.beq pc 123 then some (.iload 4, 0, 0) else (bif Nat.beq pc 125 then some (.aload_n 0, 0, 0) else (bif Nat.beq pc 126 then some (.getfield 22, 0, 4) else (bif Nat.beq pc 129 then some (.iload_n 2, 0, 0) else none))))
def oF3_83 (pc : Nat) : Option (Instr × Nat × Nat) := (bif Nat.beq pc 130 then some (.iaload, 0, 0) else (bif Nat.beq pc 131 then some (.iastore, 0, 0) else (bif Nat.beq pc 132 then some (.aload_n 0, 0, 0) else (bif Nat.beq pc 133 then some (.getfield 22, 0, 4) else none))))
def oF3_79_87 (pc : Nat) : Option (Instr × Nat × Nat) := bif Nat.blt pc 130 then oF3_79 pc else oF3_83 pc
def oF3_72_87 (pc : Nat) : Option (Instr × Nat × Nat) := bif Nat.blt pc 123 then oF3_72_79 pc else oF3_79_87 pc
def oF3_58_87 (pc : Nat) : Option (Instr × Nat × Nat) := bif Nat.blt pc 111 then oF3_58_72 pc else oF3_72_87 pc
def oF3_87 (pc : Nat) : Option (Instr × Nat × Nat) := (bif Nat.beq pc 136 then some (.iload_n 2, 0, 0) else (bif Nat.beq pc 137 then some (.iload_n 3, 0, 0) else (bif Nat.beq pc 138 then some (.iastore, 0, 0) else none)))
def oF3_90 (pc : Nat) : Option (Instr × Nat × Nat) := (bif Nat.beq pc 139 then some (.aload_n 0, 0, 0) else (bif Nat.beq pc 140 then some (.getfield 19, 0, 3) else (bif Nat.beq pc 143 then some (.iload 4, 0, 0) else (bif Nat.beq pc 145 then some (.iaload, 0, 0) else none))))
def oF3_87_94 (pc : Nat) : Option (Instr × Nat × Nat) := bif Nat.blt pc 139 then oF3_87 pc else oF3_90 pc
def oF3_94 (pc : Nat) : Option (Instr × Nat × Nat) := (bif Nat.beq pc 146 then some (.istore 5, 0, 0) else (bif Nat.beq pc 148 then some (.iload 5, 0, 0) else (bif Nat.beq pc 150 then some (.aload_n 0, 0, 0) else (bif Nat.beq pc 151 then some (.getfield 22, 0, 4) else none))))
def oF3_98 (pc : Nat) : Option (Instr × Nat × Nat) := (bif Nat.beq pc 154 then some (.iload 4, 0, 0) else (bif Nat.beq pc 156 then some (.iaload, 0, 0) else (bif Nat.beq pc 157 then some (.if_icmp .ge 23, 0, 0) else (bif Nat.beq pc 160 then some (.aload_n 0, 0, 0) else none))))
def oF3_94_102 (pc : Nat) : Option (Instr × Nat × Nat) := bif Nat.blt pc 154 then oF3_94 pc else oF3_98 pc
def oF3_87_102 (pc : Nat) : Option (Instr × Nat × Nat) := bif Nat.blt pc 146 then oF3_87_94 pc else oF3_94_102 pc
def oF3_102 (pc : Nat) : Option (Instr × Nat × Nat) := (bif Nat.beq pc 161 then some (.getfield 16, 0, 2) else (bif Nat.beq pc 164 then some (.aload_n 0, 0, 0) else (bif Nat.beq pc 165 then some (.getfield 7, 0, 0) else none)))
def oF3_105 (pc : Nat) : Option (Instr × Nat × Nat) := (bif Nat.beq pc 168 then some (.iload 5, 0, 0) else (bif Nat.beq pc 170 then some (.iaload, 0, 0) else (bif Nat.beq pc 171 then some (.iload 4, 0, 0) else (bif Nat.beq pc 173 then some (.iastore, 0, 0) else none))))
def oF3_102_109 (pc : Nat) : Option (Instr × Nat × Nat) := bif Nat.blt pc 168 then oF3_102 pc else oF3_105 pc
def oF3_109 (pc : Nat) : Option (Instr × Nat × Nat) := (bif Nat.beq pc 174 then some (.iinc 5 1, 0, 0) else (bif Nat.beq pc 177 then some (.goto (-29), 0, 0) else (bif Nat.beq pc 180 then some (.iinc 1 1, 0, 0) else (bif Nat.beq pc 183 then some (.goto (-181), 0, 0) else none))))
def oF3_113 (pc : Nat) : Option (Instr × Nat × Nat) := (bif Nat.beq pc 186 then some (.aload_n 0, 0, 0) else (bif Nat.beq pc 187 then some (.iconst 0, 0, 0) else (bif Nat.beq pc 188 then some (.putfield 45, 0, 8) else (bif Nat.beq pc 191 then some (.return_, 0, 0) else none))))
def oF3_109_117 (pc : Nat) : Option (Instr × Nat × Nat) := bif Nat.blt pc 186 then oF3_109 pc else oF3_113 pc
def oF3_102_117 (pc : Nat) : Option (Instr × Nat × Nat) := bif Nat.blt pc 174 then oF3_102_109 pc else oF3_109_117 pc
def oF3_87_117 (pc : Nat) : Option (Instr × Nat × Nat) := bif Nat.blt pc 161 then oF3_87_102 pc else oF3_102_117 pc
def oF3_58_117 (pc : Nat) : Option (Instr × Nat × Nat) := bif Nat.blt pc 136 then oF3_58_87 pc else oF3_87_117 pc
def oF3_0_117 (pc : Nat) : Option (Instr × Nat × Nat) := bif Nat.blt pc 90 then oF3_0_58 pc else oF3_58_117 pc
def oF3 : oFt := oUpto (fun pc => oF3_0_117 pc) 192
set_option maxRecDepth 65536 in
theorem oS3 : oSame oF3 oP3 := oSame_of (by decide +kernel)
def oF12_0 (pc : Nat) : Option (Instr × Nat × Nat) := (bif Nat.beq pc 0 then some (.aload_n 0, 0, 0) else (bif Nat.beq pc 1 then some (.getfield 31, 0, 7) else (bif Nat.beq pc 4 then some (.ireturn, 0, 0) else none)))
def oF12 : oFt := oUpto (fun pc => oF12_0 pc) 5
set_option maxRecDepth 65536 in
theorem oS12 : oSame oF12 oP12 := oSame_of (by decide +kernel)
def oF13_0 (pc : Nat) : Option (Instr × Nat × Nat) := (bif Nat.beq pc 0 then some (.aload_n 0, 0, 0) else (bif Nat.beq pc 1 then some (.getfield 16, 0, 2) else (bif Nat.beq pc 4 then some (.iload_n 1, 0, 0) else (bif Nat.beq pc 5 then some (.iaload, 0, 0) else (bif Nat.beq pc 6 then some (.ireturn, 0, 0) else none)))))
def oF13 : oFt := oUpto (fun pc => oF13_0 pc) 7
set_option maxRecDepth 65536 in
theorem oS13 : oSame oF13 oP13 := oSame_of (by decide +kernel)
def oF14_0 (pc : Nat) : Option (Instr × Nat × Nat) := (bif Nat.beq pc 0 then some (.iload_n 0, 0, 0) else (bif Nat.beq pc 1 then some (.ifCond .lt 8, 0, 0) else (bif Nat.beq pc 4 then some (.iload_n 0, 0, 0) else none)))
def oF14_3 (pc : Nat) : Option (Instr × Nat × Nat) := (bif Nat.beq pc 5 then some (.iload_n 1, 0, 0) else (bif Nat.beq pc 6 then some (.if_icmp .lt 10, 0, 0) else (bif Nat.beq pc 9 then some (.aload_n 2, 0, 0) else none)))
def oF14_0_6 (pc : Nat) : Option (Instr × Nat × Nat) := bif Nat.blt pc 5 then oF14_0 pc else oF14_3 pc
def oF14_6 (pc : Nat) : Option (Instr × Nat × Nat) := (bif Nat.beq pc 10 then some (.iload_n 0, 0, 0) else (bif Nat.beq pc 11 then some (.iload_n 1, 0, 0) else (bif Nat.beq pc 12 then some (.invokestatic 95, 99999, 0) else none)))
def oF14_9 (pc : Nat) : Option (Instr × Nat × Nat) := (bif Nat.beq pc 15 then some (.athrow, 0, 0) else (bif Nat.beq pc 16 then some (.iload_n 0, 0, 0) else (bif Nat.beq pc 17 then some (.ireturn, 0, 0) else none)))
def oF14_6_12 (pc : Nat) : Option (Instr × Nat × Nat) := bif Nat.blt pc 15 then oF14_6 pc else oF14_9 pc
def oF14_0_12 (pc : Nat) : Option (Instr × Nat × Nat) := bif Nat.blt pc 10 then oF14_0_6 pc else oF14_6_12 pc
def oF14 : oFt := oUpto (fun pc => oF14_0_12 pc) 18
set_option maxRecDepth 65536 in
theorem oS14 : oSame oF14 oP14 := oSame_of (by decide +kernel)
def oF15_0 (pc : Nat) : Option (Instr × Nat × Nat) := (bif Nat.beq pc 0 then some (.iload_n 0, 0, 0) else (bif Nat.beq pc 1 then some (.iload_n 1, 0, 0) else (bif Nat.beq pc 2 then some (.aconst_null, 0, 0) else (bif Nat.beq pc 3 then some (.invokestatic 105, 14, 0) else (bif Nat.beq pc 6 then some (.ireturn, 0, 0) else none)))))
def oF15 : oFt := oUpto (fun pc => oF15_0 pc) 7
set_option maxRecDepth 65536 in
theorem oS15 : oSame oF15 oP15 := oSame_of (by decide +kernel)
def oF16_0 (pc : Nat) : Option (Instr × Nat × Nat) := (bif Nat.beq pc 0 then some (.aload_n 0, 0, 0) else (bif Nat.beq pc 1 then some (.getfield 22, 0, 4) else (bif Nat.beq pc 4 then some (.iload_n 1, 0, 0) else none)))
def oF16_3 (pc : Nat) : Option (Instr × Nat × Nat) := (bif Nat.beq pc 5 then some (.aload_n 0, 0, 0) else (bif Nat.beq pc 6 then some (.getfield 31, 0, 7) else (bif Nat.beq pc 9 then some (.invokestatic 35, 15, 0) else none)))
def oF16_0_6 (pc : Nat) : Option (Instr × Nat × Nat) := bif Nat.blt pc 5 then oF16_0 pc else oF16_3 pc
def oF16_6 (pc : Nat) : Option (Instr × Nat × Nat) := (bif Nat.beq pc 12 then some (.iaload, 0, 0) else (bif Nat.beq pc 13 then some (.aload_n 0, 0, 0) else (bif Nat.beq pc 14 then some (.getfield 19, 0, 3) else none)))
def oF16_9 (pc : Nat) : Option (Instr × Nat × Nat) := (bif Nat.beq pc 17 then some (.iload_n 1, 0, 0) else (bif Nat.beq pc 18 then some (.iaload, 0, 0) else (bif Nat.beq pc 19 then some (.isub, 0, 0) else (bif Nat.beq pc 20 then some (.ireturn, 0, 0) else none))))
def oF16_6_13 (pc : Nat) : Option (Instr × Nat × Nat) := bif Nat.blt pc 17 then oF16_6 pc else oF16_9 pc
def oF16_0_13 (pc : Nat) : Option (Instr × Nat × Nat) := bif Nat.blt pc 12 then oF16_0_6 pc else oF16_6_13 pc
def oF16 : oFt := oUpto (fun pc => oF16_0_13 pc) 21
set_option maxRecDepth 65536 in
theorem oS16 : oSame oF16 oP16 := oSame_of (by decide +kernel)
def oFx_0 (pc : Nat) : Option (Instr × Nat × Nat) := (bif Nat.beq pc 0 then some (.iload_n 0, 0, 0) else (bif Nat.beq pc 1 then some (.bipush 15, 0, 0) else (bif Nat.beq pc 3 then some (.iand, 0, 0) else none)))
def oFx_3 (pc : Nat) : Option (Instr × Nat × Nat) := (bif Nat.beq pc 4 then some (.istore_n 2, 0, 0) else (bif Nat.beq pc 5 then some (.iload_n 1, 0, 0) else (bif Nat.beq pc 6 then some (.bipush 15, 0, 0) else none)))
def oFx_0_6 (pc : Nat) : Option (Instr × Nat × Nat) := bif Nat.blt pc 4 then oFx_0 pc else oFx_3 pc
def oFx_6 (pc : Nat) : Option (Instr × Nat × Nat) := (bif Nat.beq pc 8 then some (.iand, 0, 0) else (bif Nat.beq pc 9 then some (.istore_n 3, 0, 0) else (bif Nat.beq pc 10 then some (.new 14, 0, 0) else none)))
def oFx_9 (pc : Nat) : Option (Instr × Nat × Nat) := (bif Nat.beq pc 13 then some (.dup, 0, 0) else (bif Nat.beq pc 14 then some (.iconst 4, 0, 0) else (bif Nat.beq pc 15 then some (.invokespecial 37, 0, 0) else (bif Nat.beq pc 18 then some (.astore 4, 0, 0) else none))))
def oFx_6_13 (pc : Nat) : Option (Instr × Nat × Nat) := bif Nat.blt pc 13 then oFx_6 pc else oFx_9 pc
def oFx_0_13 (pc : Nat) : Option (Instr × Nat × Nat) := bif Nat.blt pc 8 then oFx_0_6 pc else oFx_6_13 pc
def oFx_13 (pc : Nat) : Option (Instr × Nat × Nat) := (bif Nat.beq pc 20 then some (.aload 4, 0, 0) else (bif Nat.beq pc 22 then some (.iload_n 2, 0, 0) else (bif Nat.beq pc 23 then some (.invokestatic 39, 2, 0) else none)))
def oFx_16 (pc : Nat) : Option (Instr × Nat × Nat) := (bif Nat.beq pc 26 then some (.aload 4, 0, 0) else (bif Nat.beq pc 28 then some (.invokevirtual 43, 3, 0) else (bif Nat.beq pc 31 then some (.aload 4, 0, 0) else none)))
def oFx_13_19 (pc : Nat) : Option (Instr × Nat × Nat) := bif Nat.blt pc 26 then oFx_13 pc else oFx_16 pc
def oFx_19 (pc : Nat) : Option (Instr × Nat × Nat) := (bif Nat.beq pc 33 then some (.iload_n 3, 0, 0) else (bif Nat.beq pc 34 then some (.invokestatic 39, 2, 0) else (bif Nat.beq pc 37 then some (.aload 4, 0, 0) else none)))
def oFx_22 (pc : Nat) : Option (Instr × Nat × Nat) := (bif Nat.beq pc 39 then some (.invokevirtual 43, 3, 0) else (bif Nat.beq pc 42 then some (.iload_n 2, 0, 0) else (bif Nat.beq pc 43 then some (.invokestatic 19, 5, 0) else (bif Nat.beq pc 46 then some (.istore 5, 0, 0) else none))))
def oFx_19_26 (pc : Nat) : Option (Instr × Nat × Nat) := bif Nat.blt pc 39 then oFx_19 pc else oFx_22 pc
def oFx_13_26 (pc : Nat) : Option (Instr × Nat × Nat) := bif Nat.blt pc 33 then oFx_13_19 pc else oFx_19_26 pc
def oFx_0_26 (pc : Nat) : Option (Instr × Nat × Nat) := bif Nat.blt pc 20 then oFx_0_13 pc else oFx_13_26 pc
def oFx_26 (pc : Nat) : Option (Instr × Nat × Nat) := (bif Nat.beq pc 48 then some (.iload 5, 0, 0) else (bif Nat.beq pc 50 then some (.ifCond .eq 9, 0, 0) else (bif Nat.beq pc 53 then some (.iload 5, 0, 0) else none)))
def oFx_29 (pc : Nat) : Option (Instr × Nat × Nat) := (bif Nat.beq pc 55 then some (.iconst 4, 0, 0) else (bif Nat.beq pc 56 then some (.if_icmp .ne 7, 0, 0) else (bif Nat.beq pc 59 then some (.iconst 1, 0, 0) else none)))
def oFx_26_32 (pc : Nat) : Option (Instr × Nat × Nat) := bif Nat.blt pc 55 then oFx_26 pc else oFx_29 pc
def oFx_32 (pc : Nat) : Option (Instr × Nat × Nat) := (bif Nat.beq pc 60 then some (.goto 4, 0, 0) else (bif Nat.beq pc 63 then some (.iconst 2, 0, 0) else (bif Nat.beq pc 64 then some (.istore 6, 0, 0) else none)))
def oFx_35 (pc : Nat) : Option (Instr × Nat × Nat) := (bif Nat.beq pc 66 then some (.iload_n 2, 0, 0) else (bif Nat.beq pc 67 then some (.iconst 0, 0, 0) else (bif Nat.beq pc 68 then some (.invokestatic 26, 7, 0) else (bif Nat.beq pc 71 then some (.istore 7, 0, 0) else none))))
def oFx_32_39 (pc : Nat) : Option (Instr × Nat × Nat) := bif Nat.blt pc 66 then oFx_32 pc else oFx_35 pc
def oFx_26_39 (pc : Nat) : Option (Instr × Nat × Nat) := bif Nat.blt pc 60 then oFx_26_32 pc else oFx_32_39 pc
def oFx_39 (pc : Nat) : Option (Instr × Nat × Nat) := (bif Nat.beq pc 73 then some (.iload_n 2, 0, 0) else (bif Nat.beq pc 74 then some (.iconst 1, 0, 0) else (bif Nat.beq pc 75 then some (.invokestatic 26, 7, 0) else none)))
def oFx_42 (pc : Nat) : Option (Instr × Nat × Nat) := (bif Nat.beq pc 78 then some (.istore 8, 0, 0) else (bif Nat.beq pc 80 then some (.iload 7, 0, 0) else (bif Nat.beq pc 82 then some (.iload_n 3, 0, 0) else (bif Nat.beq pc 83 then some (.invokestatic 29, 8, 0) else none))))
def oFx_39_46 (pc : Nat) : Option (Instr × Nat × Nat) := bif Nat.blt pc 78 then oFx_39 pc else oFx_42 pc
def oFx_46 (pc : Nat) : Option (Instr × Nat × Nat) := (bif Nat.beq pc 86 then some (.istore 9, 0, 0) else (bif Nat.beq pc 88 then some (.iload 8, 0, 0) else (bif Nat.beq pc 90 then some (.iload_n 3, 0, 0) else none)))
def oFx_49 (pc : Nat) : Option (Instr × Nat × Nat) := (bif Nat.beq pc 91 then some (.invokestatic 29, 8, 0) else (bif Nat.beq pc 94 then some (.istore 10, 0, 0) else (bif Nat.beq pc 96 then some (.iload_n 3, 0, 0) else (bif Nat.beq pc 97 then some (.ifCond .ne 7, 0, 0) else none))))
def oFx_46_53 (pc : Nat) : Option (Instr × Nat × Nat) := bif Nat.blt pc 91 then oFx_46 pc else oFx_49 pc
def oFx_39_53 (pc : Nat) : Option (Instr × Nat × Nat) := bif Nat.blt pc 86 then oFx_39_46 pc else oFx_46_53 pc
def oFx_26_53 (pc : Nat) : Option (Instr × Nat × Nat) := bif Nat.blt pc 73 then oFx_26_39 pc else oFx_39_53 pc
def oFx_0_53 (pc : Nat) : Option (Instr × Nat × Nat) := bif Nat.blt pc 48 then oFx_0_26 pc else oFx_26_53 pc
def oFx_53 (pc : Nat) : Option (Instr × Nat × Nat) := (bif Nat.beq pc 100 then some (.iconst 0, 0, 0) else (bif Nat.beq pc 101 then some (.goto 11, 0, 0) else (bif Nat.beq pc 104 then some (.iload_n 2, 0, 0) else none)))
def oFx_56 (pc : Nat) : Option (Instr × Nat × Nat) := (bif Nat.beq pc 105 then some (.iload_n 3, 0, 0) else (bif Nat.beq pc 106 then some (.invokestatic 46, 9, 0) else (bif Nat.beq pc 109 then some (.invokestatic 23, 6, 0) else none)))
def oFx_53_59 (pc : Nat) : Option (Instr × Nat × Nat) := bif Nat.blt pc 105 then oFx_53 pc else oFx_56 pc
def oFx_59 (pc : Nat) : Option (Instr × Nat × Nat) := (bif Nat.beq pc 112 then some (.istore 11, 0, 0) else (bif Nat.beq pc 114 then some (.iload 11, 0, 0) else (bif Nat.beq pc 116 then some (.ifCond .ne 25, 0, 0) else none)))
def oFx_62 (pc : Nat) : Option (Instr × Nat × Nat) := (bif Nat.beq pc 119 then some (.iload 6, 0, 0) else (bif Nat.beq pc 121 then some (.istore 12, 0, 0) else (bif Nat.beq pc 123 then some (.iload 6, 0, 0) else (bif Nat.beq pc 125 then some (.iload 9, 0, 0) else none))))
def oFx_59_66 (pc : Nat) : Option (Instr × Nat × Nat) := bif Nat.blt pc 119 then oFx_59 pc else oFx_62 pc
def oFx_53_66 (pc : Nat) : Option (Instr × Nat × Nat) := bif Nat.blt pc 112 then oFx_53_59 pc else oFx_59_66 pc
def oFx_66 (pc : Nat) : Option (Instr × Nat × Nat) := (bif Nat.beq pc 127 then some (.ifCond .eq 7, 0, 0) else (bif Nat.beq pc 130 then some (.iconst 1, 0, 0) else (bif Nat.beq pc 131 then some (.goto 4, 0, 0) else none)))
def oFx_69 (pc : Nat) : Option (Instr × Nat × Nat) := (bif Nat.beq pc 134 then some (.iconst 0, 0, 0) else (bif Nat.beq pc 135 then some (.iadd, 0, 0) else (bif Nat.beq pc 136 then some (.istore 13, 0, 0) else (bif Nat.beq pc 138 then some (.goto 22, 0, 0) else none))))
def oFx_66_73 (pc : Nat) : Option (Instr × Nat × Nat) := bif Nat.blt pc 134 then oFx_66 pc else oFx_69 pc
def oFx_73 (pc : Nat) : Option (Instr × Nat × Nat) := (bif Nat.beq pc 141 then some (.iload 6, 0, 0) else (bif Nat.beq pc 143 then some (.istore 13, 0, 0) else (bif Nat.beq pc 145 then some (.iload 6, 0, 0) else none)))
def oFx_76 (pc : Nat) : Option (Instr × Nat × Nat) := (bif Nat.beq pc 147 then some (.iload 10, 0, 0) else (bif Nat.beq pc 149 then some (.ifCond .eq 7, 0, 0) else (bif Nat.beq pc 152 then some (.iconst 1, 0, 0) else (bif Nat.beq pc 153 then some (.goto 4, 0, 0) else none))))
def oFx_73_80 (pc : Nat) : Option (Instr × Nat × Nat) := bif Nat.blt pc 147 then oFx_73 pc else oFx_76 pc
def oFx_66_80 (pc : Nat) : Option (Instr × Nat × Nat) := bif Nat.blt pc 141 then oFx_66_73 pc else oFx_73_80 pc
def oFx_53_80 (pc : Nat) : Option (Instr × Nat × Nat) := bif Nat.blt pc 127 then oFx_53_66 pc else oFx_66_80 pc
def oFx_80 (pc : Nat) : Option (Instr × Nat × Nat) := (bif Nat.beq pc 156 then some (.iconst 0, 0, 0) else (bif Nat.beq pc 157 then some (.iadd, 0, 0) else (bif Nat.beq pc 158 then some (.istore 12, 0, 0) else none)))
def oFx_83 (pc : Nat) : Option (Instr × Nat × Nat) := (bif Nat.beq pc 160 then some (.iload 6, 0, 0) else (bif Nat.beq pc 162 then some (.iload 9, 0, 0) else (bif Nat.beq pc 164 then some (.ifCond .eq 7, 0, 0) else none)))
def oFx_80_86 (pc : Nat) : Option (Instr × Nat × Nat) := bif Nat.blt pc 160 then oFx_80 pc else oFx_83 pc
def oFx_86 (pc : Nat) : Option (Instr × Nat × Nat) := (bif Nat.beq pc 167 then some (.iconst 1, 0, 0) else (bif Nat.beq pc 168 then some (.goto 4, 0, 0) else (bif Nat.beq pc 171 then some (.iconst 0, 0, 0) else none)))
def oFx_89 (pc : Nat) : Option (Instr × Nat × Nat) := (bif Nat.beq pc 172 then some (.iadd, 0, 0) else (bif Nat.beq pc 173 then some (.iload 10, 0, 0) else (bif Nat.beq pc 175 then some (.ifCond .eq 7, 0, 0) else (bif Nat.beq pc 178 then some (.iconst 1, 0, 0) else none))))
def oFx_86_93 (pc : Nat) : Option (Instr × Nat × Nat) := bif Nat.blt pc 172 then oFx_86 pc else oFx_89 pc
def oFx_80_93 (pc : Nat) : Option (Instr × Nat × Nat) := bif Nat.blt pc 167 then oFx_80_86 pc else oFx_86_93 pc
def oFx_93 (pc : Nat) : Option (Instr × Nat × Nat) := (bif Nat.beq pc 179 then some (.goto 4, 0, 0) else (bif Nat.beq pc 182 then some (.iconst 0, 0, 0) else (bif Nat.beq pc 183 then some (.iadd, 0, 0) else none)))
def oFx_96 (pc : Nat) : Option (Instr × Nat × Nat) := (bif Nat.beq pc 184 then some (.istore 14, 0, 0) else (bif Nat.beq pc 186 then some (.iload_n 2, 0, 0) else (bif Nat.beq pc 187 then some (.iload_n 3, 0, 0) else (bif Nat.beq pc 188 then some (.iconst 0, 0, 0) else none))))
def oFx_93_100 (pc : Nat) : Option (Instr × Nat × Nat) := bif Nat.blt pc 184 then oFx_93 pc else oFx_96 pc
def oFx_100 (pc : Nat) : Option (Instr × Nat × Nat) := (bif Nat.beq pc 189 then some (.iload 12, 0, 0) else (bif Nat.beq pc 191 then some (.iload 13, 0, 0) else (bif Nat.beq pc 193 then some (.invokestatic 49, 11, 0) else none)))
def oFx_103 (pc : Nat) : Option (Instr × Nat × Nat) := (bif Nat.beq pc 196 then some (.istore 15, 0, 0) else (bif Nat.beq pc 198 then some (.iload_n 2, 0, 0) else (bif Nat.beq pc 199 then some (.iload_n 3, 0, 0) else (bif Nat.beq pc 200 then some (.iconst 1, 0, 0) else none))))
def oFx_100_107 (pc : Nat) : Option (Instr × Nat × Nat) := bif Nat.blt pc 196 then oFx_100 pc else oFx_103 pc
def oFx_93_107 (pc : Nat) : Option (Instr × Nat × Nat) := bif Nat.blt pc 189 then oFx_93_100 pc else oFx_100_107 pc
def oFx_80_107 (pc : Nat) : Option (Instr × Nat × Nat) := bif Nat.blt pc 179 then oFx_80_93 pc else oFx_93_107 pc
def oFx_53_107 (pc : Nat) : Option (Instr × Nat × Nat) := bif Nat.blt pc 156 then oFx_53_80 pc else oFx_80_107 pc
def oFx_0_107 (pc : Nat) : Option (Instr × Nat × Nat) := bif Nat.blt pc 100 then oFx_0_53 pc else oFx_53_107 pc
def oFx_107 (pc : Nat) : Option (Instr × Nat × Nat) := (bif Nat.beq pc 201 then some (.iload 12, 0, 0) else (bif Nat.beq pc 203 then some (.iload 13, 0, 0) else (bif Nat.beq pc 205 then some (.invokestatic 49, 11, 0) else none)))
def oFx_110 (pc : Nat) : Option (Instr × Nat × Nat) := (bif Nat.beq pc 208 then some (.istore 16, 0, 0) else (bif Nat.beq pc 210 then some (.iload_n 2, 0, 0) else (bif Nat.beq pc 211 then some (.iload_n 3, 0, 0) else none)))
def oFx_107_113 (pc : Nat) : Option (Instr × Nat × Nat) := bif Nat.blt pc 208 then oFx_107 pc else oFx_110 pc
def oFx_113 (pc : Nat) : Option (Instr × Nat × Nat) := (bif Nat.beq pc 212 then some (.iconst 2, 0, 0) else (bif Nat.beq pc 213 then some (.iload 12, 0, 0) else (bif Nat.beq pc 215 then some (.iload 13, 0, 0) else none)))
def oFx_116 (pc : Nat) : Option (Instr × Nat × Nat) := (bif Nat.beq pc 217 then some (.invokestatic 49, 11, 0) else (bif Nat.beq pc 220 then some (.istore 17, 0, 0) else (bif Nat.beq pc 222 then some (.iload_n 2, 0, 0) else (bif Nat.beq pc 223 then some (.iload_n 3, 0, 0) else none))))
def oFx_113_120 (pc : Nat) : Option (Instr × Nat × Nat) := bif Nat.blt pc 217 then oFx_113 pc else oFx_116 pc
def oFx_107_120 (pc : Nat) : Option (Instr × Nat × Nat) := bif Nat.blt pc 212 then oFx_107_113 pc else oFx_113_120 pc
def oFx_120 (pc : Nat) : Option (Instr × Nat × Nat) := (bif Nat.beq pc 224 then some (.iconst 3, 0, 0) else (bif Nat.beq pc 225 then some (.iload 12, 0, 0) else (bif Nat.beq pc 227 then some (.iload 13, 0, 0) else none)))
def oFx_123 (pc : Nat) : Option (Instr × Nat × Nat) := (bif Nat.beq pc 229 then some (.invokestatic 49, 11, 0) else (bif Nat.beq pc 232 then some (.istore 18, 0, 0) else (bif Nat.beq pc 234 then some (.iload 15, 0, 0) else none)))
def oFx_120_126 (pc : Nat) : Option (Instr × Nat × Nat) := bif Nat.blt pc 229 then oFx_120 pc else oFx_123 pc
def oFx_126 (pc : Nat) : Option (Instr × Nat × Nat) := (bif Nat.beq pc 236 then some (.ifCond .ne 7, 0, 0) else (bif Nat.beq pc 239 then some (.iconst 1, 0, 0) else (bif Nat.beq pc 240 then some (.goto 4, 0, 0) else none)))
def oFx_129 (pc : Nat) : Option (Instr × Nat × Nat) := (bif Nat.beq pc 243 then some (.iconst 0, 0, 0) else (bif Nat.beq pc 244 then some (.iload 16, 0, 0) else (bif Nat.beq pc 246 then some (.ifCond .ne 7, 0, 0) else (bif Nat.beq pc 249 then some (.iconst 1, 0, 0) else none))))
def oFx_126_133 (pc : Nat) : Option (Instr × Nat × Nat) := bif Nat.blt pc 243 then oFx_126 pc else oFx_129 pc
def oFx_120_133 (pc : Nat) : Option (Instr × Nat × Nat) := bif Nat.blt pc 236 then oFx_120_126 pc else oFx_126_133 pc
def oFx_107_133 (pc : Nat) : Option (Instr × Nat × Nat) := bif Nat.blt pc 224 then oFx_107_120 pc else oFx_120_133 pc
def oFx_133 (pc : Nat) : Option (Instr × Nat × Nat) := (bif Nat.beq pc 250 then some (.goto 4, 0, 0) else (bif Nat.beq pc 253 then some (.iconst 0, 0, 0) else (bif Nat.beq pc 254 then some (.iadd, 0, 0) else none)))
def oFx_136 (pc : Nat) : Option (Instr × Nat × Nat) := (bif Nat.beq pc 255 then some (.iload 17, 0, 0) else (bif Nat.beq pc 257 then some (.ifCond .ne 7, 0, 0) else (bif Nat.beq pc 260 then some (.iconst 1, 0, 0) else none)))
def oFx_133_139 (pc : Nat) : Option (Instr × Nat × Nat) := bif Nat.blt pc 255 then oFx_133 pc else oFx_136 pc
def oFx_139 (pc : Nat) : Option (Instr × Nat × Nat) := (bif Nat.beq pc 261 then some (.goto 4, 0, 0) else (bif Nat.beq pc 264 then some (.iconst 0, 0, 0) else (bif Nat.beq pc 265 then some (.iadd, 0, 0) else none)))
def oFx_142 (pc : Nat) : Option (Instr × Nat × Nat) := (bif Nat.beq pc 266 then some (.iload 18, 0, 0) else (bif Nat.beq pc 268 then some (.ifCond .ne 7, 0, 0) else (bif Nat.beq pc 271 then some (.iconst 1, 0, 0) else (bif Nat.beq pc 272 then some (.goto 4, 0, 0) else none))))
def oFx_139_146 (pc : Nat) : Option (Instr × Nat × Nat) := bif Nat.blt pc 266 then oFx_139 pc else oFx_142 pc
def oFx_133_146 (pc : Nat) : Option (Instr × Nat × Nat) := bif Nat.blt pc 261 then oFx_133_139 pc else oFx_139_146 pc
def oFx_146 (pc : Nat) : Option (Instr × Nat × Nat) := (bif Nat.beq pc 275 then some (.iconst 0, 0, 0) else (bif Nat.beq pc 276 then some (.iadd, 0, 0) else (bif Nat.beq pc 277 then some (.istore 19, 0, 0) else none)))
def oFx_149 (pc : Nat) : Option (Instr × Nat × Nat) := (bif Nat.beq pc 279 then some (.aload 4, 0, 0) else (bif Nat.beq pc 281 then some (.invokevirtual 53, 12, 0) else (bif Nat.beq pc 284 then some (.iload 14, 0, 0) else (bif Nat.beq pc 286 then some (.if_icmp .ne 7, 0, 0) else none))))
def oFx_146_153 (pc : Nat) : Option (Instr × Nat × Nat) := bif Nat.blt pc 279 then oFx_146 pc else oFx_149 pc
def oFx_153 (pc : Nat) : Option (Instr × Nat × Nat) := (bif Nat.beq pc 289 then some (.iconst 1, 0, 0) else (bif Nat.beq pc 290 then some (.goto 4, 0, 0) else (bif Nat.beq pc 293 then some (.iconst 0, 0, 0) else none)))
def oFx_156 (pc : Nat) : Option (Instr × Nat × Nat) := (bif Nat.beq pc 294 then some (.istore 20, 0, 0) else (bif Nat.beq pc 296 then some (.iload 20, 0, 0) else (bif Nat.beq pc 298 then some (.ifCond .eq 18, 0, 0) else (bif Nat.beq pc 301 then some (.aload 4, 0, 0) else none))))
def oFx_153_160 (pc : Nat) : Option (Instr × Nat × Nat) := bif Nat.blt pc 294 then oFx_153 pc else oFx_156 pc
def oFx_146_160 (pc : Nat) : Option (Instr × Nat × Nat) := bif Nat.blt pc 289 then oFx_146_153 pc else oFx_153_160 pc
def oFx_133_160 (pc : Nat) : Option (Instr × Nat × Nat) := bif Nat.blt pc 275 then oFx_133_146 pc else oFx_146_160 pc
def oFx_107_160 (pc : Nat) : Option (Instr × Nat × Nat) := bif Nat.blt pc 250 then oFx_107_133 pc else oFx_133_160 pc
def oFx_160 (pc : Nat) : Option (Instr × Nat × Nat) := (bif Nat.beq pc 303 then some (.iconst 0, 0, 0) else (bif Nat.beq pc 304 then some (.invokevirtual 57, 13, 0) else (bif Nat.beq pc 307 then some (.iload 15, 0, 0) else none)))
def oFx_163 (pc : Nat) : Option (Instr × Nat × Nat) := (bif Nat.beq pc 309 then some (.if_icmp .ne 7, 0, 0) else (bif Nat.beq pc 312 then some (.iconst 1, 0, 0) else (bif Nat.beq pc 313 then some (.goto 4, 0, 0) else none)))
def oFx_160_166 (pc : Nat) : Option (Instr × Nat × Nat) := bif Nat.blt pc 309 then oFx_160 pc else oFx_163 pc
def oFx_166 (pc : Nat) : Option (Instr × Nat × Nat) := (bif Nat.beq pc 316 then some (.iconst 0, 0, 0) else (bif Nat.beq pc 317 then some (.istore 20, 0, 0) else (bif Nat.beq pc 319 then some (.iload 20, 0, 0) else none)))
def oFx_169 (pc : Nat) : Option (Instr × Nat × Nat) := (bif Nat.beq pc 321 then some (.ifCond .eq 18, 0, 0) else (bif Nat.beq pc 324 then some (.aload 4, 0, 0) else (bif Nat.beq pc 326 then some (.iconst 1, 0, 0) else (bif Nat.beq pc 327 then some (.invokevirtual 57, 13, 0) else none))))
def oFx_166_173 (pc : Nat) : Option (Instr × Nat × Nat) := bif Nat.blt pc 321 then oFx_166 pc else oFx_169 pc
def oFx_160_173 (pc : Nat) : Option (Instr × Nat × Nat) := bif Nat.blt pc 316 then oFx_160_166 pc else oFx_166_173 pc
def oFx_173 (pc : Nat) : Option (Instr × Nat × Nat) := (bif Nat.beq pc 330 then some (.iload 16, 0, 0) else (bif Nat.beq pc 332 then some (.if_icmp .ne 7, 0, 0) else (bif Nat.beq pc 335 then some (.iconst 1, 0, 0) else none)))
def oFx_176 (pc : Nat) : Option (Instr × Nat × Nat) := (bif Nat.beq pc 336 then some (.goto 4, 0, 0) else (bif Nat.beq pc 339 then some (.iconst 0, 0, 0) else (bif Nat.beq pc 340 then some (.istore 20, 0, 0) else (bif Nat.beq pc 342 then some (.iload 20, 0, 0) else none))))
def oFx_173_180 (pc : Nat) : Option (Instr × Nat × Nat) := bif Nat.blt pc 336 then oFx_173 pc else oFx_176 pc
def oFx_180 (pc : Nat) : Option (Instr × Nat × Nat) := (bif Nat.beq pc 344 then some (.ifCond .eq 18, 0, 0) else (bif Nat.beq pc 347 then some (.aload 4, 0, 0) else (bif Nat.beq pc 349 then some (.iconst 2, 0, 0) else none)))
def oFx_183 (pc : Nat) : Option (Instr × Nat × Nat) := (bif Nat.beq pc 350 then some (.invokevirtual 57, 13, 0) else (bif Nat.beq pc 353 then some (.iload 17, 0, 0) else (bif Nat.beq pc 355 then some (.if_icmp .ne 7, 0, 0) else (bif Nat.beq pc 358 then some (.iconst 1, 0, 0) else none))))
def oFx_180_187 (pc : Nat) : Option (Instr × Nat × Nat) := bif Nat.blt pc 350 then oFx_180 pc else oFx_183 pc
def oFx_173_187 (pc : Nat) : Option (Instr × Nat × Nat) := bif Nat.blt pc 344 then oFx_173_180 pc else oFx_180_187 pc
def oFx_160_187 (pc : Nat) : Option (Instr × Nat × Nat) := bif Nat.blt pc 330 then oFx_160_173 pc else oFx_173_187 pc
def oFx_187 (pc : Nat) : Option (Instr × Nat × Nat) := (bif Nat.beq pc 359 then some (.goto 4, 0, 0) else (bif Nat.beq pc 362 then some (.iconst 0, 0, 0) else (bif Nat.beq pc 363 then some (.istore 20, 0, 0) else none)))
def oFx_190 (pc : Nat) : Option (Instr × Nat × Nat) := (bif Nat.beq pc 365 then some (.iload 20, 0, 0) else (bif Nat.beq pc 367 then some (.ifCond .eq 18, 0, 0) else (bif Nat.beq pc 370 then some (.aload 4, 0, 0) else none)))
def oFx_187_193 (pc : Nat) : Option (Instr × Nat × Nat) := bif Nat.blt pc 365 then oFx_187 pc else oFx_190 pc
def oFx_193 (pc : Nat) : Option (Instr × Nat × Nat) := (bif Nat.beq pc 372 then some (.iconst 3, 0, 0) else (bif Nat.beq pc 373 then some (.invokevirtual 57, 13, 0) else (bif Nat.beq pc 376 then some (.iload 18, 0, 0) else none)))
def oFx_196 (pc : Nat) : Option (Instr × Nat × Nat) := (bif Nat.beq pc 378 then some (.if_icmp .ne 7, 0, 0) else (bif Nat.beq pc 381 then some (.iconst 1, 0, 0) else (bif Nat.beq pc 382 then some (.goto 4, 0, 0) else (bif Nat.beq pc 385 then some (.iconst 0, 0, 0) else none))))
def oFx_193_200 (pc : Nat) : Option (Instr × Nat × Nat) := bif Nat.blt pc 378 then oFx_193 pc else oFx_196 pc
def oFx_187_200 (pc : Nat) : Option (Instr × Nat × Nat) := bif Nat.blt pc 372 then oFx_187_193 pc else oFx_193_200 pc
def oFx_200 (pc : Nat) : Option (Instr × Nat × Nat) := (bif Nat.beq pc 386 then some (.istore 20, 0, 0) else (bif Nat.beq pc 388 then some (.iload 20, 0, 0) else (bif Nat.beq pc 390 then some (.ifCond .eq 18, 0, 0) else none)))
def oFx_203 (pc : Nat) : Option (Instr × Nat × Nat) := (bif Nat.beq pc 393 then some (.aload 4, 0, 0) else (bif Nat.beq pc 395 then some (.iconst 0, 0, 0) else (bif Nat.beq pc 396 then some (.invokevirtual 60, 16, 0) else (bif Nat.beq pc 399 then some (.iload 19, 0, 0) else none))))
def oFx_200_207 (pc : Nat) : Option (Instr × Nat × Nat) := bif Nat.blt pc 393 then oFx_200 pc else oFx_203 pc
def oFx_207 (pc : Nat) : Option (Instr × Nat × Nat) := (bif Nat.beq pc 401 then some (.if_icmp .ne 7, 0, 0) else (bif Nat.beq pc 404 then some (.iconst 1, 0, 0) else (bif Nat.beq pc 405 then some (.goto 4, 0, 0) else none)))
def oFx_210 (pc : Nat) : Option (Instr × Nat × Nat) := (bif Nat.beq pc 408 then some (.iconst 0, 0, 0) else (bif Nat.beq pc 409 then some (.istore 20, 0, 0) else (bif Nat.beq pc 411 then some (.iload 20, 0, 0) else (bif Nat.beq pc 413 then some (.ireturn, 0, 0) else none))))
def oFx_207_214 (pc : Nat) : Option (Instr × Nat × Nat) := bif Nat.blt pc 408 then oFx_207 pc else oFx_210 pc
def oFx_200_214 (pc : Nat) : Option (Instr × Nat × Nat) := bif Nat.blt pc 401 then oFx_200_207 pc else oFx_207_214 pc
def oFx_187_214 (pc : Nat) : Option (Instr × Nat × Nat) := bif Nat.blt pc 386 then oFx_187_200 pc else oFx_200_214 pc
def oFx_160_214 (pc : Nat) : Option (Instr × Nat × Nat) := bif Nat.blt pc 359 then oFx_160_187 pc else oFx_187_214 pc
def oFx_107_214 (pc : Nat) : Option (Instr × Nat × Nat) := bif Nat.blt pc 303 then oFx_107_160 pc else oFx_160_214 pc
def oFx_0_214 (pc : Nat) : Option (Instr × Nat × Nat) := bif Nat.blt pc 201 then oFx_0_107 pc else oFx_107_214 pc
def oFx : oFt := oUpto (fun pc => oFx_0_214 pc) 414
set_option maxRecDepth 65536 in
theorem oSx : oSame oFx oPx := oSame_of (by decide +kernel)
section Claim
variable {l : Launch} {Z : State} {a0 : Array Value} {n0 : Nat}
abbrev oHw (a0 : Array Value) (Z : State) : Prop := ∀ d ∈ tables_1, d.before a0 Z = true
theorem fs0 (hw : oHw a0 Z) : oFsOk l Z n0 oKT oMT [] := oFsOk.nil
def f0 : List Value → List oObj → Option (Option Value × List oObj) := oBodyF oKT oCT oMT (oCall []) oM0 oF0 1000
theorem ok0 (hw : oHw a0 Z) : oCallOk l Z n0 oKT oM0 f0 := oBodyF_ok oS0 hw oK_ok (fs0 hw).call pn0 ops0
theorem fs1 (hw : oHw a0 Z) : oFsOk l Z n0 oKT oMT [f0] := (fs0 hw).snoc (fs := []) (q := oM0) rfl (ok0 hw)
def f1 : List Value → List oObj → Option (Option Value × List oObj) := oBodyF oKT oCT oMT (oCall [f0]) oM1 oF1 1000
theorem ok1 (hw : oHw a0 Z) : oCallOk l Z n0 oKT oM1 f1 := oBodyF_ok oS1 hw oK_ok (fs1 hw).call pn1 ops1
theorem fs2 (hw : oHw a0 Z) : oFsOk l Z n0 oKT oMT [f0, f1] := (fs1 hw).snoc (fs := [f0]) (q := oM1) rfl (ok1 hw)
def f2 : List Value → List oObj → Option (Option Value × List oObj) := oBodyF oKT oCT oMT (oCall [f0, f1]) oM2 oF2 1000
theorem ok2 (hw : oHw a0 Z) : oCallOk l Z n0 oKT oM2 f2 := oBodyF_ok oS2 hw oK_ok (fs2 hw).call pn2 ops2
theorem fs3 (hw : oHw a0 Z) : oFsOk l Z n0 oKT oMT [f0, f1, f2] := (fs2 hw).snoc (fs := [f0, f1]) (q := oM2) rfl (ok2 hw)
def f3 : List Value → List oObj → Option (Option Value × List oObj) := oBodyF oKT oCT oMT (oCall [f0, f1, f2]) oM3 oF3 1000
theorem ok3 (hw : oHw a0 Z) : oCallOk l Z n0 oKT oM3 f3 := oBodyF_ok oS3 hw oK_ok (fs3 hw).call pn3 ops3
theorem fs4 (hw : oHw a0 Z) : oFsOk l Z n0 oKT oMT [f0, f1, f2, f3] := (fs3 hw).snoc (fs := [f0, f1, f2]) (q := oM3) rfl (ok3 hw)
def own_bit (g i : Int32) : Int32 := (XT.ushr g i) &&& (1 : Int32)
def f4 (vs : List Value) (H : List oObj) : Option (Option Value × List oObj) := match vs with
  | [.int g, .int i] => some (some (.int (own_bit g i)), H)
  | _ => none
set_option maxRecDepth 65536 in
set_option maxHeartbeats 4000000 in
theorem ok4 (hw : oHw a0 Z) : oCallOk l Z n0 oKT oM4 f4 := by
  intro vs H r H' h
  have hK := oK_ok
  have hC := (fs4 hw : oFsOk l Z n0 oKT oMT [f0, f1, f2, f3]).call
  unfold f4 at h
  split at h
  case h_2 => cases h
  rename_i g i
  cases h
  have R1 := oReach.run (l := l) (n0 := n0) (q := oM4) (CT := oCT) (MT := oMT) (callf := (oCall [f0, f1, f2, f3])) (ops := oP4) (n := 5) (st := (0, #[.val (.int g), .val (.int i)], [], H, 0, 0)) (st' := (5, #[.val (.int g), .val (.int i)], [.int ((XT.ushr g i) &&& (1 : Int32))], H, 0, 0)) hw hK hC ops4 rfl
  have e : (own_bit g i) = ((XT.ushr g i) &&& (1 : Int32)) := rfl
  rw [e]
  exact oMet_of_reach pn4 ops4 R1 rfl
theorem fs5 (hw : oHw a0 Z) : oFsOk l Z n0 oKT oMT [f0, f1, f2, f3, f4] := (fs4 hw).snoc (fs := [f0, f1, f2, f3]) (q := oM4) rfl (ok4 hw)
def own_pop (g : Int32) : Int32 := ((own_bit g (0 : Int32) + own_bit g (1 : Int32)) + own_bit g (2 : Int32)) + own_bit g (3 : Int32)
def f5 (vs : List Value) (H : List oObj) : Option (Option Value × List oObj) := match vs with
  | [.int g] => some (some (.int (own_pop g)), H)
  | _ => none
set_option maxRecDepth 65536 in
set_option maxHeartbeats 4000000 in
theorem ok5 (hw : oHw a0 Z) : oCallOk l Z n0 oKT oM5 f5 := by
  intro vs H r H' h
  have hK := oK_ok
  have hC := (fs5 hw : oFsOk l Z n0 oKT oMT [f0, f1, f2, f3, f4]).call
  unfold f5 at h
  split at h
  case h_2 => cases h
  rename_i g
  cases h
  have R1 := oReach.run (l := l) (n0 := n0) (q := oM5) (CT := oCT) (MT := oMT) (callf := (oCall [f0, f1, f2, f3, f4])) (ops := oP5) (n := 6) (st := (0, #[.val (.int g)], [], H, 0, 0)) (st' := (10, #[.val (.int g)], [.int (own_bit g (1 : Int32)), .int (own_bit g (0 : Int32))], H, 0, 0)) hw hK hC ops5 rfl
  have R2 := R1.trans (oReach.run (l := l) (n0 := n0) (q := oM5) (CT := oCT) (MT := oMT) (callf := (oCall [f0, f1, f2, f3, f4])) (ops := oP5) (n := 6) (st' := (18, #[.val (.int g)], [.int g, .int (((own_bit g (0 : Int32)) + (own_bit g (1 : Int32))) + (own_bit g (2 : Int32)))], H, 0, 0)) hw hK hC ops5 rfl)
  have R3 := R2.trans (oReach.run (l := l) (n0 := n0) (q := oM5) (CT := oCT) (MT := oMT) (callf := (oCall [f0, f1, f2, f3, f4])) (ops := oP5) (n := 3) (st' := (23, #[.val (.int g)], [.int ((((own_bit g (0 : Int32)) + (own_bit g (1 : Int32))) + (own_bit g (2 : Int32))) + (own_bit g (3 : Int32)))], H, 0, 0)) hw hK hC ops5 rfl)
  have e : (own_pop g) = ((((own_bit g (0 : Int32)) + (own_bit g (1 : Int32))) + (own_bit g (2 : Int32))) + (own_bit g (3 : Int32))) := rfl
  rw [e]
  exact oMet_of_reach pn5 ops5 R3 rfl
theorem fs6 (hw : oHw a0 Z) : oFsOk l Z n0 oKT oMT [f0, f1, f2, f3, f4, f5] := (fs5 hw).snoc (fs := [f0, f1, f2, f3, f4]) (q := oM5) rfl (ok5 hw)
def own_fr (a i : Int32) : Int32 := if (own_pop a).toInt = 0 ∨ (own_pop a).toInt = 4 then 0 else if ((own_bit a i).toInt = 1 ∧ (own_pop a).toInt ≤ 2) ∨ (¬ (own_bit a i).toInt = 1 ∧ ¬ (own_pop a).toInt ≤ 2) then 1 else 0
def f6 (vs : List Value) (H : List oObj) : Option (Option Value × List oObj) := match vs with
  | [.int a, .int i] => some (some (.int (own_fr a i)), H)
  | _ => none
set_option maxRecDepth 65536 in
set_option maxHeartbeats 4000000 in
theorem ok6 (hw : oHw a0 Z) : oCallOk l Z n0 oKT oM6 f6 := by
  intro vs H r H' h
  have hK := oK_ok
  have hC := (fs6 hw : oFsOk l Z n0 oKT oMT [f0, f1, f2, f3, f4, f5]).call
  unfold f6 at h
  split at h
  case h_2 => cases h
  rename_i a i
  cases h
  have R1 := oReach.run (l := l) (n0 := n0) (q := oM6) (CT := oCT) (MT := oMT) (callf := (oCall [f0, f1, f2, f3, f4, f5])) (ops := oP6) (n := 4) (st := (0, #[.val (.int a), .val (.int i), .unset, .unset], [], H, 0, 0)) (st' := (6, #[.val (.int a), .val (.int i), .val (.int (own_pop a)), .unset], [.int (own_pop a)], H, 0, 0)) hw hK hC ops6 rfl
  by_cases c2 : ifCond.holds .eq (own_pop a) = true
  · -- taken
    have d2 : (own_pop a).toInt = 0 := oC_t rfl c2
    have R3 := R1.trans (oReach.ifY (CT := oCT) (MT := oMT) (callf := (oCall [f0, f1, f2, f3, f4, f5])) (ops := oP6) (pc' := 14) hw hK hC ops6 rfl c2 (by decide) (by decide))
    have R4 := R3.trans (oReach.run (l := l) (n0 := n0) (q := oM6) (CT := oCT) (MT := oMT) (callf := (oCall [f0, f1, f2, f3, f4, f5])) (ops := oP6) (n := 1) (st' := (15, #[.val (.int a), .val (.int i), .val (.int (own_pop a)), .unset], [.int (0 : Int32)], H, 0, 0)) hw hK hC ops6 rfl)
    have e : (own_fr a i) = (0 : Int32) := by unfold own_fr; (repeat' split) <;> first | rfl | (exfalso; omega)
    rw [e]
    exact oMet_of_reach pn6 ops6 R4 rfl
  · -- not taken
    have d2 : ¬ ((own_pop a).toInt = 0) := oC_f rfl c2
    have R5 := R1.trans (oReach.ifN (CT := oCT) (MT := oMT) (callf := (oCall [f0, f1, f2, f3, f4, f5])) (ops := oP6) hw hK hC ops6 rfl c2)
    have R6 := R5.trans (oReach.run (l := l) (n0 := n0) (q := oM6) (CT := oCT) (MT := oMT) (callf := (oCall [f0, f1, f2, f3, f4, f5])) (ops := oP6) (n := 2) (st' := (11, #[.val (.int a), .val (.int i), .val (.int (own_pop a)), .unset], [.int (4 : Int32), .int (own_pop a)], H, 0, 0)) hw hK hC ops6 rfl)
    by_cases c7 : if_icmp.holds .ne (own_pop a) (4 : Int32) = true
    · -- taken
      have d7 : (own_pop a).toInt ≠ 4 := oI_t rfl rfl c7
      have R8 := R6.trans (oReach.icmpY (CT := oCT) (MT := oMT) (callf := (oCall [f0, f1, f2, f3, f4, f5])) (ops := oP6) (pc' := 16) hw hK hC ops6 rfl c7 (by decide) (by decide))
      have R9 := R8.trans (oReach.run (l := l) (n0 := n0) (q := oM6) (CT := oCT) (MT := oMT) (callf := (oCall [f0, f1, f2, f3, f4, f5])) (ops := oP6) (n := 4) (st' := (22, #[.val (.int a), .val (.int i), .val (.int (own_pop a)), .unset], [.int (1 : Int32), .int (own_bit a i)], H, 0, 0)) hw hK hC ops6 rfl)
      by_cases c10 : if_icmp.holds .ne (own_bit a i) (1 : Int32) = true
      · -- taken
        have d10 : (own_bit a i).toInt ≠ 1 := oI_t rfl rfl c10
        have R11 := R9.trans (oReach.icmpY (CT := oCT) (MT := oMT) (callf := (oCall [f0, f1, f2, f3, f4, f5])) (ops := oP6) (pc' := 29) hw hK hC ops6 rfl c10 (by decide) (by decide))
        have R12 := R11.trans (oReach.run (l := l) (n0 := n0) (q := oM6) (CT := oCT) (MT := oMT) (callf := (oCall [f0, f1, f2, f3, f4, f5])) (ops := oP6) (n := 5) (st' := (34, #[.val (.int a), .val (.int i), .val (.int (own_pop a)), .val (.int (0 : Int32))], [.int (2 : Int32), .int (own_pop a), .int (0 : Int32)], H, 0, 0)) hw hK hC ops6 rfl)
        by_cases c13 : if_icmp.holds .gt (own_pop a) (2 : Int32) = true
        · -- taken
          have d13 : 2 < (own_pop a).toInt := oI_t rfl rfl c13
          have R14 := R12.trans (oReach.icmpY (CT := oCT) (MT := oMT) (callf := (oCall [f0, f1, f2, f3, f4, f5])) (ops := oP6) (pc' := 41) hw hK hC ops6 rfl c13 (by decide) (by decide))
          have R15 := R14.trans (oReach.run (l := l) (n0 := n0) (q := oM6) (CT := oCT) (MT := oMT) (callf := (oCall [f0, f1, f2, f3, f4, f5])) (ops := oP6) (n := 4) (st' := (50, #[.val (.int a), .val (.int i), .val (.int (own_pop a)), .val (.int (0 : Int32))], [.int (1 : Int32)], H, 0, 0)) hw hK hC ops6 rfl)
          have e : (own_fr a i) = (1 : Int32) := by unfold own_fr; (repeat' split) <;> first | rfl | (exfalso; omega)
          rw [e]
          exact oMet_of_reach pn6 ops6 R15 rfl
        · -- not taken
          have d13 : ¬ (2 < (own_pop a).toInt) := oI_f rfl rfl c13
          have R16 := R12.trans (oReach.icmpN (CT := oCT) (MT := oMT) (callf := (oCall [f0, f1, f2, f3, f4, f5])) (ops := oP6) hw hK hC ops6 rfl c13)
          have R17 := R16.trans (oReach.run (l := l) (n0 := n0) (q := oM6) (CT := oCT) (MT := oMT) (callf := (oCall [f0, f1, f2, f3, f4, f5])) (ops := oP6) (n := 4) (st' := (50, #[.val (.int a), .val (.int i), .val (.int (own_pop a)), .val (.int (0 : Int32))], [.int (0 : Int32)], H, 0, 0)) hw hK hC ops6 rfl)
          have e : (own_fr a i) = (0 : Int32) := by unfold own_fr; (repeat' split) <;> first | rfl | (exfalso; omega)
          rw [e]
          exact oMet_of_reach pn6 ops6 R17 rfl
      · -- not taken
        have d10 : ¬ ((own_bit a i).toInt ≠ 1) := oI_f rfl rfl c10
        have R18 := R9.trans (oReach.icmpN (CT := oCT) (MT := oMT) (callf := (oCall [f0, f1, f2, f3, f4, f5])) (ops := oP6) hw hK hC ops6 rfl c10)
        have R19 := R18.trans (oReach.run (l := l) (n0 := n0) (q := oM6) (CT := oCT) (MT := oMT) (callf := (oCall [f0, f1, f2, f3, f4, f5])) (ops := oP6) (n := 6) (st' := (34, #[.val (.int a), .val (.int i), .val (.int (own_pop a)), .val (.int (1 : Int32))], [.int (2 : Int32), .int (own_pop a), .int (1 : Int32)], H, 0, 0)) hw hK hC ops6 rfl)
        by_cases c20 : if_icmp.holds .gt (own_pop a) (2 : Int32) = true
        · -- taken
          have d20 : 2 < (own_pop a).toInt := oI_t rfl rfl c20
          have R21 := R19.trans (oReach.icmpY (CT := oCT) (MT := oMT) (callf := (oCall [f0, f1, f2, f3, f4, f5])) (ops := oP6) (pc' := 41) hw hK hC ops6 rfl c20 (by decide) (by decide))
          have R22 := R21.trans (oReach.run (l := l) (n0 := n0) (q := oM6) (CT := oCT) (MT := oMT) (callf := (oCall [f0, f1, f2, f3, f4, f5])) (ops := oP6) (n := 3) (st' := (50, #[.val (.int a), .val (.int i), .val (.int (own_pop a)), .val (.int (1 : Int32))], [.int (0 : Int32)], H, 0, 0)) hw hK hC ops6 rfl)
          have e : (own_fr a i) = (0 : Int32) := by unfold own_fr; (repeat' split) <;> first | rfl | (exfalso; omega)
          rw [e]
          exact oMet_of_reach pn6 ops6 R22 rfl
        · -- not taken
          have d20 : ¬ (2 < (own_pop a).toInt) := oI_f rfl rfl c20
          have R23 := R19.trans (oReach.icmpN (CT := oCT) (MT := oMT) (callf := (oCall [f0, f1, f2, f3, f4, f5])) (ops := oP6) hw hK hC ops6 rfl c20)
          have R24 := R23.trans (oReach.run (l := l) (n0 := n0) (q := oM6) (CT := oCT) (MT := oMT) (callf := (oCall [f0, f1, f2, f3, f4, f5])) (ops := oP6) (n := 5) (st' := (50, #[.val (.int a), .val (.int i), .val (.int (own_pop a)), .val (.int (1 : Int32))], [.int (1 : Int32)], H, 0, 0)) hw hK hC ops6 rfl)
          have e : (own_fr a i) = (1 : Int32) := by unfold own_fr; (repeat' split) <;> first | rfl | (exfalso; omega)
          rw [e]
          exact oMet_of_reach pn6 ops6 R24 rfl
    · -- not taken
      have d7 : ¬ ((own_pop a).toInt ≠ 4) := oI_f rfl rfl c7
      have R25 := R6.trans (oReach.icmpN (CT := oCT) (MT := oMT) (callf := (oCall [f0, f1, f2, f3, f4, f5])) (ops := oP6) hw hK hC ops6 rfl c7)
      have R26 := R25.trans (oReach.run (l := l) (n0 := n0) (q := oM6) (CT := oCT) (MT := oMT) (callf := (oCall [f0, f1, f2, f3, f4, f5])) (ops := oP6) (n := 1) (st' := (15, #[.val (.int a), .val (.int i), .val (.int (own_pop a)), .unset], [.int (0 : Int32)], H, 0, 0)) hw hK hC ops6 rfl)
      have e : (own_fr a i) = (0 : Int32) := by unfold own_fr; (repeat' split) <;> first | rfl | (exfalso; omega)
      rw [e]
      exact oMet_of_reach pn6 ops6 R26 rfl
theorem fs7 (hw : oHw a0 Z) : oFsOk l Z n0 oKT oMT [f0, f1, f2, f3, f4, f5, f6] := (fs6 hw).snoc (fs := [f0, f1, f2, f3, f4, f5]) (q := oM6) rfl (ok6 hw)
def own_mem (a y : Int32) : Int32 := (if (own_fr a 0).toInt = y.toInt then (if (own_fr a 1).toInt = y.toInt then (if (own_fr a 2).toInt = y.toInt then (if (own_fr a 3).toInt = y.toInt then 15 else 7) else (if (own_fr a 3).toInt = y.toInt then 11 else 3)) else (if (own_fr a 2).toInt = y.toInt then (if (own_fr a 3).toInt = y.toInt then 13 else 5) else (if (own_fr a 3).toInt = y.toInt then 9 else 1))) else (if (own_fr a 1).toInt = y.toInt then (if (own_fr a 2).toInt = y.toInt then (if (own_fr a 3).toInt = y.toInt then 14 else 6) else (if (own_fr a 3).toInt = y.toInt then 10 else 2)) else (if (own_fr a 2).toInt = y.toInt then (if (own_fr a 3).toInt = y.toInt then 12 else 4) else (if (own_fr a 3).toInt = y.toInt then 8 else 0))))
def f7 (vs : List Value) (H : List oObj) : Option (Option Value × List oObj) := match vs with
  | [.int a, .int y] => some (some (.int (own_mem a y)), H)
  | _ => none
set_option maxRecDepth 65536 in
set_option maxHeartbeats 4000000 in
theorem ok7 (hw : oHw a0 Z) : oCallOk l Z n0 oKT oM7 f7 := by
  intro vs H r H' h
  have hK := oK_ok
  have hC := (fs7 hw : oFsOk l Z n0 oKT oMT [f0, f1, f2, f3, f4, f5, f6]).call
  unfold f7 at h
  split at h
  case h_2 => cases h
  rename_i a y
  cases h
  have R1 := oReach.run (l := l) (n0 := n0) (q := oM7) (CT := oCT) (MT := oMT) (callf := (oCall [f0, f1, f2, f3, f4, f5, f6])) (ops := oP7) (n := 6) (st := (0, #[.val (.int a), .val (.int y), .unset], [], H, 0, 0)) (st' := (8, #[.val (.int a), .val (.int y), .val (.int (0 : Int32))], [.int y, .int (own_fr a (0 : Int32))], H, 0, 0)) hw hK hC ops7 rfl
  by_cases c2 : if_icmp.holds .ne (own_fr a (0 : Int32)) y = true
  · -- taken
    have d2 : (own_fr a (0 : Int32)).toInt ≠ y.toInt := oI_t rfl rfl c2
    have R3 := R1.trans (oReach.icmpY (CT := oCT) (MT := oMT) (callf := (oCall [f0, f1, f2, f3, f4, f5, f6])) (ops := oP7) (pc' := 15) hw hK hC ops7 rfl c2 (by decide) (by decide))
    have R4 := R3.trans (oReach.run (l := l) (n0 := n0) (q := oM7) (CT := oCT) (MT := oMT) (callf := (oCall [f0, f1, f2, f3, f4, f5, f6])) (ops := oP7) (n := 4) (st' := (21, #[.val (.int a), .val (.int y), .val (.int (0 : Int32))], [.int y, .int (own_fr a (1 : Int32))], H, 0, 0)) hw hK hC ops7 rfl)
    by_cases c5 : if_icmp.holds .ne (own_fr a (1 : Int32)) y = true
    · -- taken
      have d5 : (own_fr a (1 : Int32)).toInt ≠ y.toInt := oI_t rfl rfl c5
      have R6 := R4.trans (oReach.icmpY (CT := oCT) (MT := oMT) (callf := (oCall [f0, f1, f2, f3, f4, f5, f6])) (ops := oP7) (pc' := 28) hw hK hC ops7 rfl c5 (by decide) (by decide))
      have R7 := R6.trans (oReach.run (l := l) (n0 := n0) (q := oM7) (CT := oCT) (MT := oMT) (callf := (oCall [f0, f1, f2, f3, f4, f5, f6])) (ops := oP7) (n := 4) (st' := (34, #[.val (.int a), .val (.int y), .val (.int (0 : Int32))], [.int y, .int (own_fr a (2 : Int32))], H, 0, 0)) hw hK hC ops7 rfl)
      by_cases c8 : if_icmp.holds .ne (own_fr a (2 : Int32)) y = true
      · -- taken
        have d8 : (own_fr a (2 : Int32)).toInt ≠ y.toInt := oI_t rfl rfl c8
        have R9 := R7.trans (oReach.icmpY (CT := oCT) (MT := oMT) (callf := (oCall [f0, f1, f2, f3, f4, f5, f6])) (ops := oP7) (pc' := 41) hw hK hC ops7 rfl c8 (by decide) (by decide))
        have R10 := R9.trans (oReach.run (l := l) (n0 := n0) (q := oM7) (CT := oCT) (MT := oMT) (callf := (oCall [f0, f1, f2, f3, f4, f5, f6])) (ops := oP7) (n := 4) (st' := (47, #[.val (.int a), .val (.int y), .val (.int (0 : Int32))], [.int y, .int (own_fr a (3 : Int32))], H, 0, 0)) hw hK hC ops7 rfl)
        by_cases c11 : if_icmp.holds .ne (own_fr a (3 : Int32)) y = true
        · -- taken
          have d11 : (own_fr a (3 : Int32)).toInt ≠ y.toInt := oI_t rfl rfl c11
          have R12 := R10.trans (oReach.icmpY (CT := oCT) (MT := oMT) (callf := (oCall [f0, f1, f2, f3, f4, f5, f6])) (ops := oP7) (pc' := 55) hw hK hC ops7 rfl c11 (by decide) (by decide))
          have R13 := R12.trans (oReach.run (l := l) (n0 := n0) (q := oM7) (CT := oCT) (MT := oMT) (callf := (oCall [f0, f1, f2, f3, f4, f5, f6])) (ops := oP7) (n := 1) (st' := (56, #[.val (.int a), .val (.int y), .val (.int (0 : Int32))], [.int (0 : Int32)], H, 0, 0)) hw hK hC ops7 rfl)
          have e : (own_mem a y) = (0 : Int32) := by unfold own_mem; (repeat' split) <;> first | rfl | (exfalso; omega)
          rw [e]
          exact oMet_of_reach pn7 ops7 R13 rfl
        · -- not taken
          have d11 : ¬ ((own_fr a (3 : Int32)).toInt ≠ y.toInt) := oI_f rfl rfl c11
          have R14 := R10.trans (oReach.icmpN (CT := oCT) (MT := oMT) (callf := (oCall [f0, f1, f2, f3, f4, f5, f6])) (ops := oP7) hw hK hC ops7 rfl c11)
          have R15 := R14.trans (oReach.run (l := l) (n0 := n0) (q := oM7) (CT := oCT) (MT := oMT) (callf := (oCall [f0, f1, f2, f3, f4, f5, f6])) (ops := oP7) (n := 5) (st' := (56, #[.val (.int a), .val (.int y), .val (.int (8 : Int32))], [.int (8 : Int32)], H, 0, 0)) hw hK hC ops7 rfl)
          have e : (own_mem a y) = (8 : Int32) := by unfold own_mem; (repeat' split) <;> first | rfl | (exfalso; omega)
          rw [e]
          exact oMet_of_reach pn7 ops7 R15 rfl
      · -- not taken
        have d8 : ¬ ((own_fr a (2 : Int32)).toInt ≠ y.toInt) := oI_f rfl rfl c8
        have R16 := R7.trans (oReach.icmpN (CT := oCT) (MT := oMT) (callf := (oCall [f0, f1, f2, f3, f4, f5, f6])) (ops := oP7) hw hK hC ops7 rfl c8)
        have R17 := R16.trans (oReach.run (l := l) (n0 := n0) (q := oM7) (CT := oCT) (MT := oMT) (callf := (oCall [f0, f1, f2, f3, f4, f5, f6])) (ops := oP7) (n := 6) (st' := (43, #[.val (.int a), .val (.int y), .val (.int (4 : Int32))], [.int (3 : Int32), .int a], H, 0, 0)) hw hK hC ops7 rfl)
        have R18 := R17.trans (oReach.run (l := l) (n0 := n0) (q := oM7) (CT := oCT) (MT := oMT) (callf := (oCall [f0, f1, f2, f3, f4, f5, f6])) (ops := oP7) (n := 2) (st' := (47, #[.val (.int a), .val (.int y), .val (.int (4 : Int32))], [.int y, .int (own_fr a (3 : Int32))], H, 0, 0)) hw hK hC ops7 rfl)
        by_cases c19 : if_icmp.holds .ne (own_fr a (3 : Int32)) y = true
        · -- taken
          have d19 : (own_fr a (3 : Int32)).toInt ≠ y.toInt := oI_t rfl rfl c19
          have R20 := R18.trans (oReach.icmpY (CT := oCT) (MT := oMT) (callf := (oCall [f0, f1, f2, f3, f4, f5, f6])) (ops := oP7) (pc' := 55) hw hK hC ops7 rfl c19 (by decide) (by decide))
          have R21 := R20.trans (oReach.run (l := l) (n0 := n0) (q := oM7) (CT := oCT) (MT := oMT) (callf := (oCall [f0, f1, f2, f3, f4, f5, f6])) (ops := oP7) (n := 1) (st' := (56, #[.val (.int a), .val (.int y), .val (.int (4 : Int32))], [.int (4 : Int32)], H, 0, 0)) hw hK hC ops7 rfl)
          have e : (own_mem a y) = (4 : Int32) := by unfold own_mem; (repeat' split) <;> first | rfl | (exfalso; omega)
          rw [e]
          exact oMet_of_reach pn7 ops7 R21 rfl
        · -- not taken
          have d19 : ¬ ((own_fr a (3 : Int32)).toInt ≠ y.toInt) := oI_f rfl rfl c19
          have R22 := R18.trans (oReach.icmpN (CT := oCT) (MT := oMT) (callf := (oCall [f0, f1, f2, f3, f4, f5, f6])) (ops := oP7) hw hK hC ops7 rfl c19)
          have R23 := R22.trans (oReach.run (l := l) (n0 := n0) (q := oM7) (CT := oCT) (MT := oMT) (callf := (oCall [f0, f1, f2, f3, f4, f5, f6])) (ops := oP7) (n := 5) (st' := (56, #[.val (.int a), .val (.int y), .val (.int (12 : Int32))], [.int (12 : Int32)], H, 0, 0)) hw hK hC ops7 rfl)
          have e : (own_mem a y) = (12 : Int32) := by unfold own_mem; (repeat' split) <;> first | rfl | (exfalso; omega)
          rw [e]
          exact oMet_of_reach pn7 ops7 R23 rfl
    · -- not taken
      have d5 : ¬ ((own_fr a (1 : Int32)).toInt ≠ y.toInt) := oI_f rfl rfl c5
      have R24 := R4.trans (oReach.icmpN (CT := oCT) (MT := oMT) (callf := (oCall [f0, f1, f2, f3, f4, f5, f6])) (ops := oP7) hw hK hC ops7 rfl c5)
      have R25 := R24.trans (oReach.run (l := l) (n0 := n0) (q := oM7) (CT := oCT) (MT := oMT) (callf := (oCall [f0, f1, f2, f3, f4, f5, f6])) (ops := oP7) (n := 6) (st' := (30, #[.val (.int a), .val (.int y), .val (.int (2 : Int32))], [.int (2 : Int32), .int a], H, 0, 0)) hw hK hC ops7 rfl)
      have R26 := R25.trans (oReach.run (l := l) (n0 := n0) (q := oM7) (CT := oCT) (MT := oMT) (callf := (oCall [f0, f1, f2, f3, f4, f5, f6])) (ops := oP7) (n := 2) (st' := (34, #[.val (.int a), .val (.int y), .val (.int (2 : Int32))], [.int y, .int (own_fr a (2 : Int32))], H, 0, 0)) hw hK hC ops7 rfl)
      by_cases c27 : if_icmp.holds .ne (own_fr a (2 : Int32)) y = true
      · -- taken
        have d27 : (own_fr a (2 : Int32)).toInt ≠ y.toInt := oI_t rfl rfl c27
        have R28 := R26.trans (oReach.icmpY (CT := oCT) (MT := oMT) (callf := (oCall [f0, f1, f2, f3, f4, f5, f6])) (ops := oP7) (pc' := 41) hw hK hC ops7 rfl c27 (by decide) (by decide))
        have R29 := R28.trans (oReach.run (l := l) (n0 := n0) (q := oM7) (CT := oCT) (MT := oMT) (callf := (oCall [f0, f1, f2, f3, f4, f5, f6])) (ops := oP7) (n := 4) (st' := (47, #[.val (.int a), .val (.int y), .val (.int (2 : Int32))], [.int y, .int (own_fr a (3 : Int32))], H, 0, 0)) hw hK hC ops7 rfl)
        by_cases c30 : if_icmp.holds .ne (own_fr a (3 : Int32)) y = true
        · -- taken
          have d30 : (own_fr a (3 : Int32)).toInt ≠ y.toInt := oI_t rfl rfl c30
          have R31 := R29.trans (oReach.icmpY (CT := oCT) (MT := oMT) (callf := (oCall [f0, f1, f2, f3, f4, f5, f6])) (ops := oP7) (pc' := 55) hw hK hC ops7 rfl c30 (by decide) (by decide))
          have R32 := R31.trans (oReach.run (l := l) (n0 := n0) (q := oM7) (CT := oCT) (MT := oMT) (callf := (oCall [f0, f1, f2, f3, f4, f5, f6])) (ops := oP7) (n := 1) (st' := (56, #[.val (.int a), .val (.int y), .val (.int (2 : Int32))], [.int (2 : Int32)], H, 0, 0)) hw hK hC ops7 rfl)
          have e : (own_mem a y) = (2 : Int32) := by unfold own_mem; (repeat' split) <;> first | rfl | (exfalso; omega)
          rw [e]
          exact oMet_of_reach pn7 ops7 R32 rfl
        · -- not taken
          have d30 : ¬ ((own_fr a (3 : Int32)).toInt ≠ y.toInt) := oI_f rfl rfl c30
          have R33 := R29.trans (oReach.icmpN (CT := oCT) (MT := oMT) (callf := (oCall [f0, f1, f2, f3, f4, f5, f6])) (ops := oP7) hw hK hC ops7 rfl c30)
          have R34 := R33.trans (oReach.run (l := l) (n0 := n0) (q := oM7) (CT := oCT) (MT := oMT) (callf := (oCall [f0, f1, f2, f3, f4, f5, f6])) (ops := oP7) (n := 5) (st' := (56, #[.val (.int a), .val (.int y), .val (.int (10 : Int32))], [.int (10 : Int32)], H, 0, 0)) hw hK hC ops7 rfl)
          have e : (own_mem a y) = (10 : Int32) := by unfold own_mem; (repeat' split) <;> first | rfl | (exfalso; omega)
          rw [e]
          exact oMet_of_reach pn7 ops7 R34 rfl
      · -- not taken
        have d27 : ¬ ((own_fr a (2 : Int32)).toInt ≠ y.toInt) := oI_f rfl rfl c27
        have R35 := R26.trans (oReach.icmpN (CT := oCT) (MT := oMT) (callf := (oCall [f0, f1, f2, f3, f4, f5, f6])) (ops := oP7) hw hK hC ops7 rfl c27)
        have R36 := R35.trans (oReach.run (l := l) (n0 := n0) (q := oM7) (CT := oCT) (MT := oMT) (callf := (oCall [f0, f1, f2, f3, f4, f5, f6])) (ops := oP7) (n := 6) (st' := (43, #[.val (.int a), .val (.int y), .val (.int (6 : Int32))], [.int (3 : Int32), .int a], H, 0, 0)) hw hK hC ops7 rfl)
        have R37 := R36.trans (oReach.run (l := l) (n0 := n0) (q := oM7) (CT := oCT) (MT := oMT) (callf := (oCall [f0, f1, f2, f3, f4, f5, f6])) (ops := oP7) (n := 2) (st' := (47, #[.val (.int a), .val (.int y), .val (.int (6 : Int32))], [.int y, .int (own_fr a (3 : Int32))], H, 0, 0)) hw hK hC ops7 rfl)
        by_cases c38 : if_icmp.holds .ne (own_fr a (3 : Int32)) y = true
        · -- taken
          have d38 : (own_fr a (3 : Int32)).toInt ≠ y.toInt := oI_t rfl rfl c38
          have R39 := R37.trans (oReach.icmpY (CT := oCT) (MT := oMT) (callf := (oCall [f0, f1, f2, f3, f4, f5, f6])) (ops := oP7) (pc' := 55) hw hK hC ops7 rfl c38 (by decide) (by decide))
          have R40 := R39.trans (oReach.run (l := l) (n0 := n0) (q := oM7) (CT := oCT) (MT := oMT) (callf := (oCall [f0, f1, f2, f3, f4, f5, f6])) (ops := oP7) (n := 1) (st' := (56, #[.val (.int a), .val (.int y), .val (.int (6 : Int32))], [.int (6 : Int32)], H, 0, 0)) hw hK hC ops7 rfl)
          have e : (own_mem a y) = (6 : Int32) := by unfold own_mem; (repeat' split) <;> first | rfl | (exfalso; omega)
          rw [e]
          exact oMet_of_reach pn7 ops7 R40 rfl
        · -- not taken
          have d38 : ¬ ((own_fr a (3 : Int32)).toInt ≠ y.toInt) := oI_f rfl rfl c38
          have R41 := R37.trans (oReach.icmpN (CT := oCT) (MT := oMT) (callf := (oCall [f0, f1, f2, f3, f4, f5, f6])) (ops := oP7) hw hK hC ops7 rfl c38)
          have R42 := R41.trans (oReach.run (l := l) (n0 := n0) (q := oM7) (CT := oCT) (MT := oMT) (callf := (oCall [f0, f1, f2, f3, f4, f5, f6])) (ops := oP7) (n := 5) (st' := (56, #[.val (.int a), .val (.int y), .val (.int (14 : Int32))], [.int (14 : Int32)], H, 0, 0)) hw hK hC ops7 rfl)
          have e : (own_mem a y) = (14 : Int32) := by unfold own_mem; (repeat' split) <;> first | rfl | (exfalso; omega)
          rw [e]
          exact oMet_of_reach pn7 ops7 R42 rfl
  · -- not taken
    have d2 : ¬ ((own_fr a (0 : Int32)).toInt ≠ y.toInt) := oI_f rfl rfl c2
    have R43 := R1.trans (oReach.icmpN (CT := oCT) (MT := oMT) (callf := (oCall [f0, f1, f2, f3, f4, f5, f6])) (ops := oP7) hw hK hC ops7 rfl c2)
    have R44 := R43.trans (oReach.run (l := l) (n0 := n0) (q := oM7) (CT := oCT) (MT := oMT) (callf := (oCall [f0, f1, f2, f3, f4, f5, f6])) (ops := oP7) (n := 6) (st' := (17, #[.val (.int a), .val (.int y), .val (.int (1 : Int32))], [.int (1 : Int32), .int a], H, 0, 0)) hw hK hC ops7 rfl)
    have R45 := R44.trans (oReach.run (l := l) (n0 := n0) (q := oM7) (CT := oCT) (MT := oMT) (callf := (oCall [f0, f1, f2, f3, f4, f5, f6])) (ops := oP7) (n := 2) (st' := (21, #[.val (.int a), .val (.int y), .val (.int (1 : Int32))], [.int y, .int (own_fr a (1 : Int32))], H, 0, 0)) hw hK hC ops7 rfl)
    by_cases c46 : if_icmp.holds .ne (own_fr a (1 : Int32)) y = true
    · -- taken
      have d46 : (own_fr a (1 : Int32)).toInt ≠ y.toInt := oI_t rfl rfl c46
      have R47 := R45.trans (oReach.icmpY (CT := oCT) (MT := oMT) (callf := (oCall [f0, f1, f2, f3, f4, f5, f6])) (ops := oP7) (pc' := 28) hw hK hC ops7 rfl c46 (by decide) (by decide))
      have R48 := R47.trans (oReach.run (l := l) (n0 := n0) (q := oM7) (CT := oCT) (MT := oMT) (callf := (oCall [f0, f1, f2, f3, f4, f5, f6])) (ops := oP7) (n := 4) (st' := (34, #[.val (.int a), .val (.int y), .val (.int (1 : Int32))], [.int y, .int (own_fr a (2 : Int32))], H, 0, 0)) hw hK hC ops7 rfl)
      by_cases c49 : if_icmp.holds .ne (own_fr a (2 : Int32)) y = true
      · -- taken
        have d49 : (own_fr a (2 : Int32)).toInt ≠ y.toInt := oI_t rfl rfl c49
        have R50 := R48.trans (oReach.icmpY (CT := oCT) (MT := oMT) (callf := (oCall [f0, f1, f2, f3, f4, f5, f6])) (ops := oP7) (pc' := 41) hw hK hC ops7 rfl c49 (by decide) (by decide))
        have R51 := R50.trans (oReach.run (l := l) (n0 := n0) (q := oM7) (CT := oCT) (MT := oMT) (callf := (oCall [f0, f1, f2, f3, f4, f5, f6])) (ops := oP7) (n := 4) (st' := (47, #[.val (.int a), .val (.int y), .val (.int (1 : Int32))], [.int y, .int (own_fr a (3 : Int32))], H, 0, 0)) hw hK hC ops7 rfl)
        by_cases c52 : if_icmp.holds .ne (own_fr a (3 : Int32)) y = true
        · -- taken
          have d52 : (own_fr a (3 : Int32)).toInt ≠ y.toInt := oI_t rfl rfl c52
          have R53 := R51.trans (oReach.icmpY (CT := oCT) (MT := oMT) (callf := (oCall [f0, f1, f2, f3, f4, f5, f6])) (ops := oP7) (pc' := 55) hw hK hC ops7 rfl c52 (by decide) (by decide))
          have R54 := R53.trans (oReach.run (l := l) (n0 := n0) (q := oM7) (CT := oCT) (MT := oMT) (callf := (oCall [f0, f1, f2, f3, f4, f5, f6])) (ops := oP7) (n := 1) (st' := (56, #[.val (.int a), .val (.int y), .val (.int (1 : Int32))], [.int (1 : Int32)], H, 0, 0)) hw hK hC ops7 rfl)
          have e : (own_mem a y) = (1 : Int32) := by unfold own_mem; (repeat' split) <;> first | rfl | (exfalso; omega)
          rw [e]
          exact oMet_of_reach pn7 ops7 R54 rfl
        · -- not taken
          have d52 : ¬ ((own_fr a (3 : Int32)).toInt ≠ y.toInt) := oI_f rfl rfl c52
          have R55 := R51.trans (oReach.icmpN (CT := oCT) (MT := oMT) (callf := (oCall [f0, f1, f2, f3, f4, f5, f6])) (ops := oP7) hw hK hC ops7 rfl c52)
          have R56 := R55.trans (oReach.run (l := l) (n0 := n0) (q := oM7) (CT := oCT) (MT := oMT) (callf := (oCall [f0, f1, f2, f3, f4, f5, f6])) (ops := oP7) (n := 5) (st' := (56, #[.val (.int a), .val (.int y), .val (.int (9 : Int32))], [.int (9 : Int32)], H, 0, 0)) hw hK hC ops7 rfl)
          have e : (own_mem a y) = (9 : Int32) := by unfold own_mem; (repeat' split) <;> first | rfl | (exfalso; omega)
          rw [e]
          exact oMet_of_reach pn7 ops7 R56 rfl
      · -- not taken
        have d49 : ¬ ((own_fr a (2 : Int32)).toInt ≠ y.toInt) := oI_f rfl rfl c49
        have R57 := R48.trans (oReach.icmpN (CT := oCT) (MT := oMT) (callf := (oCall [f0, f1, f2, f3, f4, f5, f6])) (ops := oP7) hw hK hC ops7 rfl c49)
        have R58 := R57.trans (oReach.run (l := l) (n0 := n0) (q := oM7) (CT := oCT) (MT := oMT) (callf := (oCall [f0, f1, f2, f3, f4, f5, f6])) (ops := oP7) (n := 6) (st' := (43, #[.val (.int a), .val (.int y), .val (.int (5 : Int32))], [.int (3 : Int32), .int a], H, 0, 0)) hw hK hC ops7 rfl)
        have R59 := R58.trans (oReach.run (l := l) (n0 := n0) (q := oM7) (CT := oCT) (MT := oMT) (callf := (oCall [f0, f1, f2, f3, f4, f5, f6])) (ops := oP7) (n := 2) (st' := (47, #[.val (.int a), .val (.int y), .val (.int (5 : Int32))], [.int y, .int (own_fr a (3 : Int32))], H, 0, 0)) hw hK hC ops7 rfl)
        by_cases c60 : if_icmp.holds .ne (own_fr a (3 : Int32)) y = true
        · -- taken
          have d60 : (own_fr a (3 : Int32)).toInt ≠ y.toInt := oI_t rfl rfl c60
          have R61 := R59.trans (oReach.icmpY (CT := oCT) (MT := oMT) (callf := (oCall [f0, f1, f2, f3, f4, f5, f6])) (ops := oP7) (pc' := 55) hw hK hC ops7 rfl c60 (by decide) (by decide))
          have R62 := R61.trans (oReach.run (l := l) (n0 := n0) (q := oM7) (CT := oCT) (MT := oMT) (callf := (oCall [f0, f1, f2, f3, f4, f5, f6])) (ops := oP7) (n := 1) (st' := (56, #[.val (.int a), .val (.int y), .val (.int (5 : Int32))], [.int (5 : Int32)], H, 0, 0)) hw hK hC ops7 rfl)
          have e : (own_mem a y) = (5 : Int32) := by unfold own_mem; (repeat' split) <;> first | rfl | (exfalso; omega)
          rw [e]
          exact oMet_of_reach pn7 ops7 R62 rfl
        · -- not taken
          have d60 : ¬ ((own_fr a (3 : Int32)).toInt ≠ y.toInt) := oI_f rfl rfl c60
          have R63 := R59.trans (oReach.icmpN (CT := oCT) (MT := oMT) (callf := (oCall [f0, f1, f2, f3, f4, f5, f6])) (ops := oP7) hw hK hC ops7 rfl c60)
          have R64 := R63.trans (oReach.run (l := l) (n0 := n0) (q := oM7) (CT := oCT) (MT := oMT) (callf := (oCall [f0, f1, f2, f3, f4, f5, f6])) (ops := oP7) (n := 5) (st' := (56, #[.val (.int a), .val (.int y), .val (.int (13 : Int32))], [.int (13 : Int32)], H, 0, 0)) hw hK hC ops7 rfl)
          have e : (own_mem a y) = (13 : Int32) := by unfold own_mem; (repeat' split) <;> first | rfl | (exfalso; omega)
          rw [e]
          exact oMet_of_reach pn7 ops7 R64 rfl
    · -- not taken
      have d46 : ¬ ((own_fr a (1 : Int32)).toInt ≠ y.toInt) := oI_f rfl rfl c46
      have R65 := R45.trans (oReach.icmpN (CT := oCT) (MT := oMT) (callf := (oCall [f0, f1, f2, f3, f4, f5, f6])) (ops := oP7) hw hK hC ops7 rfl c46)
      have R66 := R65.trans (oReach.run (l := l) (n0 := n0) (q := oM7) (CT := oCT) (MT := oMT) (callf := (oCall [f0, f1, f2, f3, f4, f5, f6])) (ops := oP7) (n := 6) (st' := (30, #[.val (.int a), .val (.int y), .val (.int (3 : Int32))], [.int (2 : Int32), .int a], H, 0, 0)) hw hK hC ops7 rfl)
      have R67 := R66.trans (oReach.run (l := l) (n0 := n0) (q := oM7) (CT := oCT) (MT := oMT) (callf := (oCall [f0, f1, f2, f3, f4, f5, f6])) (ops := oP7) (n := 2) (st' := (34, #[.val (.int a), .val (.int y), .val (.int (3 : Int32))], [.int y, .int (own_fr a (2 : Int32))], H, 0, 0)) hw hK hC ops7 rfl)
      by_cases c68 : if_icmp.holds .ne (own_fr a (2 : Int32)) y = true
      · -- taken
        have d68 : (own_fr a (2 : Int32)).toInt ≠ y.toInt := oI_t rfl rfl c68
        have R69 := R67.trans (oReach.icmpY (CT := oCT) (MT := oMT) (callf := (oCall [f0, f1, f2, f3, f4, f5, f6])) (ops := oP7) (pc' := 41) hw hK hC ops7 rfl c68 (by decide) (by decide))
        have R70 := R69.trans (oReach.run (l := l) (n0 := n0) (q := oM7) (CT := oCT) (MT := oMT) (callf := (oCall [f0, f1, f2, f3, f4, f5, f6])) (ops := oP7) (n := 4) (st' := (47, #[.val (.int a), .val (.int y), .val (.int (3 : Int32))], [.int y, .int (own_fr a (3 : Int32))], H, 0, 0)) hw hK hC ops7 rfl)
        by_cases c71 : if_icmp.holds .ne (own_fr a (3 : Int32)) y = true
        · -- taken
          have d71 : (own_fr a (3 : Int32)).toInt ≠ y.toInt := oI_t rfl rfl c71
          have R72 := R70.trans (oReach.icmpY (CT := oCT) (MT := oMT) (callf := (oCall [f0, f1, f2, f3, f4, f5, f6])) (ops := oP7) (pc' := 55) hw hK hC ops7 rfl c71 (by decide) (by decide))
          have R73 := R72.trans (oReach.run (l := l) (n0 := n0) (q := oM7) (CT := oCT) (MT := oMT) (callf := (oCall [f0, f1, f2, f3, f4, f5, f6])) (ops := oP7) (n := 1) (st' := (56, #[.val (.int a), .val (.int y), .val (.int (3 : Int32))], [.int (3 : Int32)], H, 0, 0)) hw hK hC ops7 rfl)
          have e : (own_mem a y) = (3 : Int32) := by unfold own_mem; (repeat' split) <;> first | rfl | (exfalso; omega)
          rw [e]
          exact oMet_of_reach pn7 ops7 R73 rfl
        · -- not taken
          have d71 : ¬ ((own_fr a (3 : Int32)).toInt ≠ y.toInt) := oI_f rfl rfl c71
          have R74 := R70.trans (oReach.icmpN (CT := oCT) (MT := oMT) (callf := (oCall [f0, f1, f2, f3, f4, f5, f6])) (ops := oP7) hw hK hC ops7 rfl c71)
          have R75 := R74.trans (oReach.run (l := l) (n0 := n0) (q := oM7) (CT := oCT) (MT := oMT) (callf := (oCall [f0, f1, f2, f3, f4, f5, f6])) (ops := oP7) (n := 5) (st' := (56, #[.val (.int a), .val (.int y), .val (.int (11 : Int32))], [.int (11 : Int32)], H, 0, 0)) hw hK hC ops7 rfl)
          have e : (own_mem a y) = (11 : Int32) := by unfold own_mem; (repeat' split) <;> first | rfl | (exfalso; omega)
          rw [e]
          exact oMet_of_reach pn7 ops7 R75 rfl
      · -- not taken
        have d68 : ¬ ((own_fr a (2 : Int32)).toInt ≠ y.toInt) := oI_f rfl rfl c68
        have R76 := R67.trans (oReach.icmpN (CT := oCT) (MT := oMT) (callf := (oCall [f0, f1, f2, f3, f4, f5, f6])) (ops := oP7) hw hK hC ops7 rfl c68)
        have R77 := R76.trans (oReach.run (l := l) (n0 := n0) (q := oM7) (CT := oCT) (MT := oMT) (callf := (oCall [f0, f1, f2, f3, f4, f5, f6])) (ops := oP7) (n := 6) (st' := (43, #[.val (.int a), .val (.int y), .val (.int (7 : Int32))], [.int (3 : Int32), .int a], H, 0, 0)) hw hK hC ops7 rfl)
        have R78 := R77.trans (oReach.run (l := l) (n0 := n0) (q := oM7) (CT := oCT) (MT := oMT) (callf := (oCall [f0, f1, f2, f3, f4, f5, f6])) (ops := oP7) (n := 2) (st' := (47, #[.val (.int a), .val (.int y), .val (.int (7 : Int32))], [.int y, .int (own_fr a (3 : Int32))], H, 0, 0)) hw hK hC ops7 rfl)
        by_cases c79 : if_icmp.holds .ne (own_fr a (3 : Int32)) y = true
        · -- taken
          have d79 : (own_fr a (3 : Int32)).toInt ≠ y.toInt := oI_t rfl rfl c79
          have R80 := R78.trans (oReach.icmpY (CT := oCT) (MT := oMT) (callf := (oCall [f0, f1, f2, f3, f4, f5, f6])) (ops := oP7) (pc' := 55) hw hK hC ops7 rfl c79 (by decide) (by decide))
          have R81 := R80.trans (oReach.run (l := l) (n0 := n0) (q := oM7) (CT := oCT) (MT := oMT) (callf := (oCall [f0, f1, f2, f3, f4, f5, f6])) (ops := oP7) (n := 1) (st' := (56, #[.val (.int a), .val (.int y), .val (.int (7 : Int32))], [.int (7 : Int32)], H, 0, 0)) hw hK hC ops7 rfl)
          have e : (own_mem a y) = (7 : Int32) := by unfold own_mem; (repeat' split) <;> first | rfl | (exfalso; omega)
          rw [e]
          exact oMet_of_reach pn7 ops7 R81 rfl
        · -- not taken
          have d79 : ¬ ((own_fr a (3 : Int32)).toInt ≠ y.toInt) := oI_f rfl rfl c79
          have R82 := R78.trans (oReach.icmpN (CT := oCT) (MT := oMT) (callf := (oCall [f0, f1, f2, f3, f4, f5, f6])) (ops := oP7) hw hK hC ops7 rfl c79)
          have R83 := R82.trans (oReach.run (l := l) (n0 := n0) (q := oM7) (CT := oCT) (MT := oMT) (callf := (oCall [f0, f1, f2, f3, f4, f5, f6])) (ops := oP7) (n := 5) (st' := (56, #[.val (.int a), .val (.int y), .val (.int (15 : Int32))], [.int (15 : Int32)], H, 0, 0)) hw hK hC ops7 rfl)
          have e : (own_mem a y) = (15 : Int32) := by unfold own_mem; (repeat' split) <;> first | rfl | (exfalso; omega)
          rw [e]
          exact oMet_of_reach pn7 ops7 R83 rfl
theorem fs8 (hw : oHw a0 Z) : oFsOk l Z n0 oKT oMT [f0, f1, f2, f3, f4, f5, f6, f7] := (fs7 hw).snoc (fs := [f0, f1, f2, f3, f4, f5, f6]) (q := oM7) rfl (ok7 hw)
def own_sp (g b : Int32) : Int32 := if 0 < (own_pop (g &&& b)).toInt ∧ (own_pop (g &&& b)).toInt < (own_pop g).toInt then 1 else 0
def f8 (vs : List Value) (H : List oObj) : Option (Option Value × List oObj) := match vs with
  | [.int g, .int b] => some (some (.int (own_sp g b)), H)
  | _ => none
set_option maxRecDepth 65536 in
set_option maxHeartbeats 4000000 in
theorem ok8 (hw : oHw a0 Z) : oCallOk l Z n0 oKT oM8 f8 := by
  intro vs H r H' h
  have hK := oK_ok
  have hC := (fs8 hw : oFsOk l Z n0 oKT oMT [f0, f1, f2, f3, f4, f5, f6, f7]).call
  unfold f8 at h
  split at h
  case h_2 => cases h
  rename_i g b
  cases h
  have R1 := oReach.run (l := l) (n0 := n0) (q := oM8) (CT := oCT) (MT := oMT) (callf := (oCall [f0, f1, f2, f3, f4, f5, f6, f7])) (ops := oP8) (n := 6) (st := (0, #[.val (.int g), .val (.int b), .unset, .unset], [], H, 0, 0)) (st' := (8, #[.val (.int g), .val (.int b), .val (.int (own_pop g)), .unset], [.int (g &&& b)], H, 0, 0)) hw hK hC ops8 rfl
  have R2 := R1.trans (oReach.run (l := l) (n0 := n0) (q := oM8) (CT := oCT) (MT := oMT) (callf := (oCall [f0, f1, f2, f3, f4, f5, f6, f7])) (ops := oP8) (n := 3) (st' := (13, #[.val (.int g), .val (.int b), .val (.int (own_pop g)), .val (.int (own_pop (g &&& b)))], [.int (own_pop (g &&& b))], H, 0, 0)) hw hK hC ops8 rfl)
  by_cases c3 : ifCond.holds .le (own_pop (g &&& b)) = true
  · -- taken
    have d3 : (own_pop (g &&& b)).toInt ≤ 0 := oC_t rfl c3
    have R4 := R2.trans (oReach.ifY (CT := oCT) (MT := oMT) (callf := (oCall [f0, f1, f2, f3, f4, f5, f6, f7])) (ops := oP8) (pc' := 25) hw hK hC ops8 rfl c3 (by decide) (by decide))
    have R5 := R4.trans (oReach.run (l := l) (n0 := n0) (q := oM8) (CT := oCT) (MT := oMT) (callf := (oCall [f0, f1, f2, f3, f4, f5, f6, f7])) (ops := oP8) (n := 1) (st' := (26, #[.val (.int g), .val (.int b), .val (.int (own_pop g)), .val (.int (own_pop (g &&& b)))], [.int (0 : Int32)], H, 0, 0)) hw hK hC ops8 rfl)
    have e : (own_sp g b) = (0 : Int32) := by unfold own_sp; (repeat' split) <;> first | rfl | (exfalso; omega)
    rw [e]
    exact oMet_of_reach pn8 ops8 R5 rfl
  · -- not taken
    have d3 : ¬ ((own_pop (g &&& b)).toInt ≤ 0) := oC_f rfl c3
    have R6 := R2.trans (oReach.ifN (CT := oCT) (MT := oMT) (callf := (oCall [f0, f1, f2, f3, f4, f5, f6, f7])) (ops := oP8) hw hK hC ops8 rfl c3)
    have R7 := R6.trans (oReach.run (l := l) (n0 := n0) (q := oM8) (CT := oCT) (MT := oMT) (callf := (oCall [f0, f1, f2, f3, f4, f5, f6, f7])) (ops := oP8) (n := 2) (st' := (18, #[.val (.int g), .val (.int b), .val (.int (own_pop g)), .val (.int (own_pop (g &&& b)))], [.int (own_pop g), .int (own_pop (g &&& b))], H, 0, 0)) hw hK hC ops8 rfl)
    by_cases c8 : if_icmp.holds .ge (own_pop (g &&& b)) (own_pop g) = true
    · -- taken
      have d8 : (own_pop g).toInt ≤ (own_pop (g &&& b)).toInt := oI_t rfl rfl c8
      have R9 := R7.trans (oReach.icmpY (CT := oCT) (MT := oMT) (callf := (oCall [f0, f1, f2, f3, f4, f5, f6, f7])) (ops := oP8) (pc' := 25) hw hK hC ops8 rfl c8 (by decide) (by decide))
      have R10 := R9.trans (oReach.run (l := l) (n0 := n0) (q := oM8) (CT := oCT) (MT := oMT) (callf := (oCall [f0, f1, f2, f3, f4, f5, f6, f7])) (ops := oP8) (n := 1) (st' := (26, #[.val (.int g), .val (.int b), .val (.int (own_pop g)), .val (.int (own_pop (g &&& b)))], [.int (0 : Int32)], H, 0, 0)) hw hK hC ops8 rfl)
      have e : (own_sp g b) = (0 : Int32) := by unfold own_sp; (repeat' split) <;> first | rfl | (exfalso; omega)
      rw [e]
      exact oMet_of_reach pn8 ops8 R10 rfl
    · -- not taken
      have d8 : ¬ ((own_pop g).toInt ≤ (own_pop (g &&& b)).toInt) := oI_f rfl rfl c8
      have R11 := R7.trans (oReach.icmpN (CT := oCT) (MT := oMT) (callf := (oCall [f0, f1, f2, f3, f4, f5, f6, f7])) (ops := oP8) hw hK hC ops8 rfl c8)
      have R12 := R11.trans (oReach.run (l := l) (n0 := n0) (q := oM8) (CT := oCT) (MT := oMT) (callf := (oCall [f0, f1, f2, f3, f4, f5, f6, f7])) (ops := oP8) (n := 2) (st' := (26, #[.val (.int g), .val (.int b), .val (.int (own_pop g)), .val (.int (own_pop (g &&& b)))], [.int (1 : Int32)], H, 0, 0)) hw hK hC ops8 rfl)
      have e : (own_sp g b) = (1 : Int32) := by unfold own_sp; (repeat' split) <;> first | rfl | (exfalso; omega)
      rw [e]
      exact oMet_of_reach pn8 ops8 R12 rfl
theorem fs9 (hw : oHw a0 Z) : oFsOk l Z n0 oKT oMT [f0, f1, f2, f3, f4, f5, f6, f7, f8] := (fs8 hw).snoc (fs := [f0, f1, f2, f3, f4, f5, f6, f7]) (q := oM8) rfl (ok8 hw)
def own_low (b : Int32) : Int32 := if (b &&& (1 : Int32)).toInt = 0 then (if (b &&& (2 : Int32)).toInt = 0 then (if (b &&& (4 : Int32)).toInt = 0 then 3 else 2) else 1) else 0
def f9 (vs : List Value) (H : List oObj) : Option (Option Value × List oObj) := match vs with
  | [.int b] => some (some (.int (own_low b)), H)
  | _ => none
set_option maxRecDepth 65536 in
set_option maxHeartbeats 4000000 in
theorem ok9 (hw : oHw a0 Z) : oCallOk l Z n0 oKT oM9 f9 := by
  intro vs H r H' h
  have hK := oK_ok
  have hC := (fs9 hw : oFsOk l Z n0 oKT oMT [f0, f1, f2, f3, f4, f5, f6, f7, f8]).call
  unfold f9 at h
  split at h
  case h_2 => cases h
  rename_i b
  cases h
  have R1 := oReach.run (l := l) (n0 := n0) (q := oM9) (CT := oCT) (MT := oMT) (callf := (oCall [f0, f1, f2, f3, f4, f5, f6, f7, f8])) (ops := oP9) (n := 3) (st := (0, #[.val (.int b)], [], H, 0, 0)) (st' := (3, #[.val (.int b)], [.int (b &&& (1 : Int32))], H, 0, 0)) hw hK hC ops9 rfl
  by_cases c2 : ifCond.holds .eq (b &&& (1 : Int32)) = true
  · -- taken
    have d2 : (b &&& (1 : Int32)).toInt = 0 := oC_t rfl c2
    have R3 := R1.trans (oReach.ifY (CT := oCT) (MT := oMT) (callf := (oCall [f0, f1, f2, f3, f4, f5, f6, f7, f8])) (ops := oP9) (pc' := 8) hw hK hC ops9 rfl c2 (by decide) (by decide))
    have R4 := R3.trans (oReach.run (l := l) (n0 := n0) (q := oM9) (CT := oCT) (MT := oMT) (callf := (oCall [f0, f1, f2, f3, f4, f5, f6, f7, f8])) (ops := oP9) (n := 3) (st' := (11, #[.val (.int b)], [.int (b &&& (2 : Int32))], H, 0, 0)) hw hK hC ops9 rfl)
    by_cases c5 : ifCond.holds .eq (b &&& (2 : Int32)) = true
    · -- taken
      have d5 : (b &&& (2 : Int32)).toInt = 0 := oC_t rfl c5
      have R6 := R4.trans (oReach.ifY (CT := oCT) (MT := oMT) (callf := (oCall [f0, f1, f2, f3, f4, f5, f6, f7, f8])) (ops := oP9) (pc' := 16) hw hK hC ops9 rfl c5 (by decide) (by decide))
      have R7 := R6.trans (oReach.run (l := l) (n0 := n0) (q := oM9) (CT := oCT) (MT := oMT) (callf := (oCall [f0, f1, f2, f3, f4, f5, f6, f7, f8])) (ops := oP9) (n := 3) (st' := (19, #[.val (.int b)], [.int (b &&& (4 : Int32))], H, 0, 0)) hw hK hC ops9 rfl)
      by_cases c8 : ifCond.holds .eq (b &&& (4 : Int32)) = true
      · -- taken
        have d8 : (b &&& (4 : Int32)).toInt = 0 := oC_t rfl c8
        have R9 := R7.trans (oReach.ifY (CT := oCT) (MT := oMT) (callf := (oCall [f0, f1, f2, f3, f4, f5, f6, f7, f8])) (ops := oP9) (pc' := 24) hw hK hC ops9 rfl c8 (by decide) (by decide))
        have R10 := R9.trans (oReach.run (l := l) (n0 := n0) (q := oM9) (CT := oCT) (MT := oMT) (callf := (oCall [f0, f1, f2, f3, f4, f5, f6, f7, f8])) (ops := oP9) (n := 1) (st' := (25, #[.val (.int b)], [.int (3 : Int32)], H, 0, 0)) hw hK hC ops9 rfl)
        have e : (own_low b) = (3 : Int32) := by unfold own_low; (repeat' split) <;> first | rfl | (exfalso; omega)
        rw [e]
        exact oMet_of_reach pn9 ops9 R10 rfl
      · -- not taken
        have d8 : ¬ ((b &&& (4 : Int32)).toInt = 0) := oC_f rfl c8
        have R11 := R7.trans (oReach.ifN (CT := oCT) (MT := oMT) (callf := (oCall [f0, f1, f2, f3, f4, f5, f6, f7, f8])) (ops := oP9) hw hK hC ops9 rfl c8)
        have R12 := R11.trans (oReach.run (l := l) (n0 := n0) (q := oM9) (CT := oCT) (MT := oMT) (callf := (oCall [f0, f1, f2, f3, f4, f5, f6, f7, f8])) (ops := oP9) (n := 1) (st' := (23, #[.val (.int b)], [.int (2 : Int32)], H, 0, 0)) hw hK hC ops9 rfl)
        have e : (own_low b) = (2 : Int32) := by unfold own_low; (repeat' split) <;> first | rfl | (exfalso; omega)
        rw [e]
        exact oMet_of_reach pn9 ops9 R12 rfl
    · -- not taken
      have d5 : ¬ ((b &&& (2 : Int32)).toInt = 0) := oC_f rfl c5
      have R13 := R4.trans (oReach.ifN (CT := oCT) (MT := oMT) (callf := (oCall [f0, f1, f2, f3, f4, f5, f6, f7, f8])) (ops := oP9) hw hK hC ops9 rfl c5)
      have R14 := R13.trans (oReach.run (l := l) (n0 := n0) (q := oM9) (CT := oCT) (MT := oMT) (callf := (oCall [f0, f1, f2, f3, f4, f5, f6, f7, f8])) (ops := oP9) (n := 1) (st' := (15, #[.val (.int b)], [.int (1 : Int32)], H, 0, 0)) hw hK hC ops9 rfl)
      have e : (own_low b) = (1 : Int32) := by unfold own_low; (repeat' split) <;> first | rfl | (exfalso; omega)
      rw [e]
      exact oMet_of_reach pn9 ops9 R14 rfl
  · -- not taken
    have d2 : ¬ ((b &&& (1 : Int32)).toInt = 0) := oC_f rfl c2
    have R15 := R1.trans (oReach.ifN (CT := oCT) (MT := oMT) (callf := (oCall [f0, f1, f2, f3, f4, f5, f6, f7, f8])) (ops := oP9) hw hK hC ops9 rfl c2)
    have R16 := R15.trans (oReach.run (l := l) (n0 := n0) (q := oM9) (CT := oCT) (MT := oMT) (callf := (oCall [f0, f1, f2, f3, f4, f5, f6, f7, f8])) (ops := oP9) (n := 1) (st' := (7, #[.val (.int b)], [.int (0 : Int32)], H, 0, 0)) hw hK hC ops9 rfl)
    have e : (own_low b) = (0 : Int32) := by unfold own_low; (repeat' split) <;> first | rfl | (exfalso; omega)
    rw [e]
    exact oMet_of_reach pn9 ops9 R16 rfl
theorem fs10 (hw : oHw a0 Z) : oFsOk l Z n0 oKT oMT [f0, f1, f2, f3, f4, f5, f6, f7, f8, f9] := (fs9 hw).snoc (fs := [f0, f1, f2, f3, f4, f5, f6, f7, f8]) (q := oM9) rfl (ok9 hw)
def own_mv (g b i : Int32) : Int32 := if ((own_bit b i).toInt = 1 ∧ (own_pop (g &&& b)).toInt ≤ (own_pop g - own_pop (g &&& b)).toInt) ∨ (¬ (own_bit b i).toInt = 1 ∧ ¬ (own_pop (g &&& b)).toInt ≤ (own_pop g - own_pop (g &&& b)).toInt) then 1 else 0
def f10 (vs : List Value) (H : List oObj) : Option (Option Value × List oObj) := match vs with
  | [.int g, .int b, .int i] => some (some (.int (own_mv g b i)), H)
  | _ => none
set_option maxRecDepth 65536 in
set_option maxHeartbeats 4000000 in
theorem ok10 (hw : oHw a0 Z) : oCallOk l Z n0 oKT oM10 f10 := by
  intro vs H r H' h
  have hK := oK_ok
  have hC := (fs10 hw : oFsOk l Z n0 oKT oMT [f0, f1, f2, f3, f4, f5, f6, f7, f8, f9]).call
  unfold f10 at h
  split at h
  case h_2 => cases h
  rename_i g b i
  cases h
  have R1 := oReach.run (l := l) (n0 := n0) (q := oM10) (CT := oCT) (MT := oMT) (callf := (oCall [f0, f1, f2, f3, f4, f5, f6, f7, f8, f9])) (ops := oP10) (n := 6) (st := (0, #[.val (.int g), .val (.int b), .val (.int i), .unset, .unset, .unset], [], H, 0, 0)) (st' := (8, #[.val (.int g), .val (.int b), .val (.int i), .val (.int (own_pop g)), .unset, .unset], [.int (g &&& b)], H, 0, 0)) hw hK hC ops10 rfl
  have R2 := R1.trans (oReach.run (l := l) (n0 := n0) (q := oM10) (CT := oCT) (MT := oMT) (callf := (oCall [f0, f1, f2, f3, f4, f5, f6, f7, f8, f9])) (ops := oP10) (n := 6) (st' := (19, #[.val (.int g), .val (.int b), .val (.int i), .val (.int (own_pop g)), .val (.int (own_pop (g &&& b))), .unset], [.int (1 : Int32), .int (own_bit b i)], H, 0, 0)) hw hK hC ops10 rfl)
  by_cases c3 : if_icmp.holds .ne (own_bit b i) (1 : Int32) = true
  · -- taken
    have d3 : (own_bit b i).toInt ≠ 1 := oI_t rfl rfl c3
    have R4 := R2.trans (oReach.icmpY (CT := oCT) (MT := oMT) (callf := (oCall [f0, f1, f2, f3, f4, f5, f6, f7, f8, f9])) (ops := oP10) (pc' := 26) hw hK hC ops10 rfl c3 (by decide) (by decide))
    have R5 := R4.trans (oReach.run (l := l) (n0 := n0) (q := oM10) (CT := oCT) (MT := oMT) (callf := (oCall [f0, f1, f2, f3, f4, f5, f6, f7, f8, f9])) (ops := oP10) (n := 6) (st' := (36, #[.val (.int g), .val (.int b), .val (.int i), .val (.int (own_pop g)), .val (.int (own_pop (g &&& b))), .val (.int (0 : Int32))], [.int (own_pop (g &&& b)), .int (own_pop g), .int (own_pop (g &&& b)), .int (0 : Int32)], H, 0, 0)) hw hK hC ops10 rfl)
    have R6 := R5.trans (oReach.run (l := l) (n0 := n0) (q := oM10) (CT := oCT) (MT := oMT) (callf := (oCall [f0, f1, f2, f3, f4, f5, f6, f7, f8, f9])) (ops := oP10) (n := 1) (st' := (37, #[.val (.int g), .val (.int b), .val (.int i), .val (.int (own_pop g)), .val (.int (own_pop (g &&& b))), .val (.int (0 : Int32))], [.int ((own_pop g) - (own_pop (g &&& b))), .int (own_pop (g &&& b)), .int (0 : Int32)], H, 0, 0)) hw hK hC ops10 rfl)
    by_cases c7 : if_icmp.holds .gt (own_pop (g &&& b)) ((own_pop g) - (own_pop (g &&& b))) = true
    · -- taken
      have d7 : ((own_pop g) - (own_pop (g &&& b))).toInt < (own_pop (g &&& b)).toInt := oI_t rfl rfl c7
      have R8 := R6.trans (oReach.icmpY (CT := oCT) (MT := oMT) (callf := (oCall [f0, f1, f2, f3, f4, f5, f6, f7, f8, f9])) (ops := oP10) (pc' := 44) hw hK hC ops10 rfl c7 (by decide) (by decide))
      have R9 := R8.trans (oReach.run (l := l) (n0 := n0) (q := oM10) (CT := oCT) (MT := oMT) (callf := (oCall [f0, f1, f2, f3, f4, f5, f6, f7, f8, f9])) (ops := oP10) (n := 4) (st' := (53, #[.val (.int g), .val (.int b), .val (.int i), .val (.int (own_pop g)), .val (.int (own_pop (g &&& b))), .val (.int (0 : Int32))], [.int (1 : Int32)], H, 0, 0)) hw hK hC ops10 rfl)
      have e : (own_mv g b i) = (1 : Int32) := by unfold own_mv; (repeat' split) <;> first | rfl | (exfalso; omega)
      rw [e]
      exact oMet_of_reach pn10 ops10 R9 rfl
    · -- not taken
      have d7 : ¬ (((own_pop g) - (own_pop (g &&& b))).toInt < (own_pop (g &&& b)).toInt) := oI_f rfl rfl c7
      have R10 := R6.trans (oReach.icmpN (CT := oCT) (MT := oMT) (callf := (oCall [f0, f1, f2, f3, f4, f5, f6, f7, f8, f9])) (ops := oP10) hw hK hC ops10 rfl c7)
      have R11 := R10.trans (oReach.run (l := l) (n0 := n0) (q := oM10) (CT := oCT) (MT := oMT) (callf := (oCall [f0, f1, f2, f3, f4, f5, f6, f7, f8, f9])) (ops := oP10) (n := 4) (st' := (53, #[.val (.int g), .val (.int b), .val (.int i), .val (.int (own_pop g)), .val (.int (own_pop (g &&& b))), .val (.int (0 : Int32))], [.int (0 : Int32)], H, 0, 0)) hw hK hC ops10 rfl)
      have e : (own_mv g b i) = (0 : Int32) := by unfold own_mv; (repeat' split) <;> first | rfl | (exfalso; omega)
      rw [e]
      exact oMet_of_reach pn10 ops10 R11 rfl
  · -- not taken
    have d3 : ¬ ((own_bit b i).toInt ≠ 1) := oI_f rfl rfl c3
    have R12 := R2.trans (oReach.icmpN (CT := oCT) (MT := oMT) (callf := (oCall [f0, f1, f2, f3, f4, f5, f6, f7, f8, f9])) (ops := oP10) hw hK hC ops10 rfl c3)
    have R13 := R12.trans (oReach.run (l := l) (n0 := n0) (q := oM10) (CT := oCT) (MT := oMT) (callf := (oCall [f0, f1, f2, f3, f4, f5, f6, f7, f8, f9])) (ops := oP10) (n := 6) (st' := (34, #[.val (.int g), .val (.int b), .val (.int i), .val (.int (own_pop g)), .val (.int (own_pop (g &&& b))), .val (.int (1 : Int32))], [.int (own_pop g), .int (own_pop (g &&& b)), .int (1 : Int32)], H, 0, 0)) hw hK hC ops10 rfl)
    have R14 := R13.trans (oReach.run (l := l) (n0 := n0) (q := oM10) (CT := oCT) (MT := oMT) (callf := (oCall [f0, f1, f2, f3, f4, f5, f6, f7, f8, f9])) (ops := oP10) (n := 2) (st' := (37, #[.val (.int g), .val (.int b), .val (.int i), .val (.int (own_pop g)), .val (.int (own_pop (g &&& b))), .val (.int (1 : Int32))], [.int ((own_pop g) - (own_pop (g &&& b))), .int (own_pop (g &&& b)), .int (1 : Int32)], H, 0, 0)) hw hK hC ops10 rfl)
    by_cases c15 : if_icmp.holds .gt (own_pop (g &&& b)) ((own_pop g) - (own_pop (g &&& b))) = true
    · -- taken
      have d15 : ((own_pop g) - (own_pop (g &&& b))).toInt < (own_pop (g &&& b)).toInt := oI_t rfl rfl c15
      have R16 := R14.trans (oReach.icmpY (CT := oCT) (MT := oMT) (callf := (oCall [f0, f1, f2, f3, f4, f5, f6, f7, f8, f9])) (ops := oP10) (pc' := 44) hw hK hC ops10 rfl c15 (by decide) (by decide))
      have R17 := R16.trans (oReach.run (l := l) (n0 := n0) (q := oM10) (CT := oCT) (MT := oMT) (callf := (oCall [f0, f1, f2, f3, f4, f5, f6, f7, f8, f9])) (ops := oP10) (n := 3) (st' := (53, #[.val (.int g), .val (.int b), .val (.int i), .val (.int (own_pop g)), .val (.int (own_pop (g &&& b))), .val (.int (1 : Int32))], [.int (0 : Int32)], H, 0, 0)) hw hK hC ops10 rfl)
      have e : (own_mv g b i) = (0 : Int32) := by unfold own_mv; (repeat' split) <;> first | rfl | (exfalso; omega)
      rw [e]
      exact oMet_of_reach pn10 ops10 R17 rfl
    · -- not taken
      have d15 : ¬ (((own_pop g) - (own_pop (g &&& b))).toInt < (own_pop (g &&& b)).toInt) := oI_f rfl rfl c15
      have R18 := R14.trans (oReach.icmpN (CT := oCT) (MT := oMT) (callf := (oCall [f0, f1, f2, f3, f4, f5, f6, f7, f8, f9])) (ops := oP10) hw hK hC ops10 rfl c15)
      have R19 := R18.trans (oReach.run (l := l) (n0 := n0) (q := oM10) (CT := oCT) (MT := oMT) (callf := (oCall [f0, f1, f2, f3, f4, f5, f6, f7, f8, f9])) (ops := oP10) (n := 5) (st' := (53, #[.val (.int g), .val (.int b), .val (.int i), .val (.int (own_pop g)), .val (.int (own_pop (g &&& b))), .val (.int (1 : Int32))], [.int (1 : Int32)], H, 0, 0)) hw hK hC ops10 rfl)
      have e : (own_mv g b i) = (1 : Int32) := by unfold own_mv; (repeat' split) <;> first | rfl | (exfalso; omega)
      rw [e]
      exact oMet_of_reach pn10 ops10 R19 rfl
theorem fs11 (hw : oHw a0 Z) : oFsOk l Z n0 oKT oMT [f0, f1, f2, f3, f4, f5, f6, f7, f8, f9, f10] := (fs10 hw).snoc (fs := [f0, f1, f2, f3, f4, f5, f6, f7, f8, f9]) (q := oM10) rfl (ok10 hw)
def own_ex (a b i r t : Int32) : Int32 := if (own_sp (own_mem a (own_fr a i)) b).toInt = 0 then own_fr a i else if (own_mv (own_mem a (own_fr a i)) b i).toInt = 0 then own_fr a i else if (own_fr a i).toInt = 0 then r else t
def f11 (vs : List Value) (H : List oObj) : Option (Option Value × List oObj) := match vs with
  | [.int a, .int b, .int i, .int r, .int t] => some (some (.int (own_ex a b i r t)), H)
  | _ => none
set_option maxRecDepth 65536 in
set_option maxHeartbeats 4000000 in
theorem ok11 (hw : oHw a0 Z) : oCallOk l Z n0 oKT oM11 f11 := by
  intro vs H r H' h
  have hK := oK_ok
  have hC := (fs11 hw : oFsOk l Z n0 oKT oMT [f0, f1, f2, f3, f4, f5, f6, f7, f8, f9, f10]).call
  unfold f11 at h
  split at h
  case h_2 => cases h
  rename_i a b i r t
  cases h
  have R1 := oReach.run (l := l) (n0 := n0) (q := oM11) (CT := oCT) (MT := oMT) (callf := (oCall [f0, f1, f2, f3, f4, f5, f6, f7, f8, f9, f10])) (ops := oP11) (n := 6) (st := (0, #[.val (.int a), .val (.int b), .val (.int i), .val (.int r), .val (.int t), .unset, .unset], [], H, 0, 0)) (st' := (10, #[.val (.int a), .val (.int b), .val (.int i), .val (.int r), .val (.int t), .val (.int (own_fr a i)), .unset], [.int (own_fr a i), .int a], H, 0, 0)) hw hK hC ops11 rfl
  have R2 := R1.trans (oReach.run (l := l) (n0 := n0) (q := oM11) (CT := oCT) (MT := oMT) (callf := (oCall [f0, f1, f2, f3, f4, f5, f6, f7, f8, f9, f10])) (ops := oP11) (n := 5) (st' := (21, #[.val (.int a), .val (.int b), .val (.int i), .val (.int r), .val (.int t), .val (.int (own_fr a i)), .val (.int (own_mem a (own_fr a i)))], [.int (own_sp (own_mem a (own_fr a i)) b)], H, 0, 0)) hw hK hC ops11 rfl)
  by_cases c3 : ifCond.holds .eq (own_sp (own_mem a (own_fr a i)) b) = true
  · -- taken
    have d3 : (own_sp (own_mem a (own_fr a i)) b).toInt = 0 := oC_t rfl c3
    have R4 := R2.trans (oReach.ifY (CT := oCT) (MT := oMT) (callf := (oCall [f0, f1, f2, f3, f4, f5, f6, f7, f8, f9, f10])) (ops := oP11) (pc' := 46) hw hK hC ops11 rfl c3 (by decide) (by decide))
    have R5 := R4.trans (oReach.run (l := l) (n0 := n0) (q := oM11) (CT := oCT) (MT := oMT) (callf := (oCall [f0, f1, f2, f3, f4, f5, f6, f7, f8, f9, f10])) (ops := oP11) (n := 1) (st' := (48, #[.val (.int a), .val (.int b), .val (.int i), .val (.int r), .val (.int t), .val (.int (own_fr a i)), .val (.int (own_mem a (own_fr a i)))], [.int (own_fr a i)], H, 0, 0)) hw hK hC ops11 rfl)
    have e : (own_ex a b i r t) = own_fr a i := by unfold own_ex; (repeat' split) <;> first | rfl | (exfalso; omega)
    rw [e]
    exact oMet_of_reach pn11 ops11 R5 rfl
  · -- not taken
    have d3 : ¬ ((own_sp (own_mem a (own_fr a i)) b).toInt = 0) := oC_f rfl c3
    have R6 := R2.trans (oReach.ifN (CT := oCT) (MT := oMT) (callf := (oCall [f0, f1, f2, f3, f4, f5, f6, f7, f8, f9, f10])) (ops := oP11) hw hK hC ops11 rfl c3)
    have R7 := R6.trans (oReach.run (l := l) (n0 := n0) (q := oM11) (CT := oCT) (MT := oMT) (callf := (oCall [f0, f1, f2, f3, f4, f5, f6, f7, f8, f9, f10])) (ops := oP11) (n := 4) (st' := (31, #[.val (.int a), .val (.int b), .val (.int i), .val (.int r), .val (.int t), .val (.int (own_fr a i)), .val (.int (own_mem a (own_fr a i)))], [.int (own_mv (own_mem a (own_fr a i)) b i)], H, 0, 0)) hw hK hC ops11 rfl)
    by_cases c8 : ifCond.holds .eq (own_mv (own_mem a (own_fr a i)) b i) = true
    · -- taken
      have d8 : (own_mv (own_mem a (own_fr a i)) b i).toInt = 0 := oC_t rfl c8
      have R9 := R7.trans (oReach.ifY (CT := oCT) (MT := oMT) (callf := (oCall [f0, f1, f2, f3, f4, f5, f6, f7, f8, f9, f10])) (ops := oP11) (pc' := 46) hw hK hC ops11 rfl c8 (by decide) (by decide))
      have R10 := R9.trans (oReach.run (l := l) (n0 := n0) (q := oM11) (CT := oCT) (MT := oMT) (callf := (oCall [f0, f1, f2, f3, f4, f5, f6, f7, f8, f9, f10])) (ops := oP11) (n := 1) (st' := (48, #[.val (.int a), .val (.int b), .val (.int i), .val (.int r), .val (.int t), .val (.int (own_fr a i)), .val (.int (own_mem a (own_fr a i)))], [.int (own_fr a i)], H, 0, 0)) hw hK hC ops11 rfl)
      have e : (own_ex a b i r t) = own_fr a i := by unfold own_ex; (repeat' split) <;> first | rfl | (exfalso; omega)
      rw [e]
      exact oMet_of_reach pn11 ops11 R10 rfl
    · -- not taken
      have d8 : ¬ ((own_mv (own_mem a (own_fr a i)) b i).toInt = 0) := oC_f rfl c8
      have R11 := R7.trans (oReach.ifN (CT := oCT) (MT := oMT) (callf := (oCall [f0, f1, f2, f3, f4, f5, f6, f7, f8, f9, f10])) (ops := oP11) hw hK hC ops11 rfl c8)
      have R12 := R11.trans (oReach.run (l := l) (n0 := n0) (q := oM11) (CT := oCT) (MT := oMT) (callf := (oCall [f0, f1, f2, f3, f4, f5, f6, f7, f8, f9, f10])) (ops := oP11) (n := 1) (st' := (36, #[.val (.int a), .val (.int b), .val (.int i), .val (.int r), .val (.int t), .val (.int (own_fr a i)), .val (.int (own_mem a (own_fr a i)))], [.int (own_fr a i)], H, 0, 0)) hw hK hC ops11 rfl)
      by_cases c13 : ifCond.holds .ne (own_fr a i) = true
      · -- taken
        have d13 : (own_fr a i).toInt ≠ 0 := oC_t rfl c13
        have R14 := R12.trans (oReach.ifY (CT := oCT) (MT := oMT) (callf := (oCall [f0, f1, f2, f3, f4, f5, f6, f7, f8, f9, f10])) (ops := oP11) (pc' := 43) hw hK hC ops11 rfl c13 (by decide) (by decide))
        have R15 := R14.trans (oReach.run (l := l) (n0 := n0) (q := oM11) (CT := oCT) (MT := oMT) (callf := (oCall [f0, f1, f2, f3, f4, f5, f6, f7, f8, f9, f10])) (ops := oP11) (n := 1) (st' := (45, #[.val (.int a), .val (.int b), .val (.int i), .val (.int r), .val (.int t), .val (.int (own_fr a i)), .val (.int (own_mem a (own_fr a i)))], [.int t], H, 0, 0)) hw hK hC ops11 rfl)
        have e : (own_ex a b i r t) = t := by unfold own_ex; (repeat' split) <;> first | rfl | (exfalso; omega)
        rw [e]
        exact oMet_of_reach pn11 ops11 R15 rfl
      · -- not taken
        have d13 : ¬ ((own_fr a i).toInt ≠ 0) := oC_f rfl c13
        have R16 := R12.trans (oReach.ifN (CT := oCT) (MT := oMT) (callf := (oCall [f0, f1, f2, f3, f4, f5, f6, f7, f8, f9, f10])) (ops := oP11) hw hK hC ops11 rfl c13)
        have R17 := R16.trans (oReach.run (l := l) (n0 := n0) (q := oM11) (CT := oCT) (MT := oMT) (callf := (oCall [f0, f1, f2, f3, f4, f5, f6, f7, f8, f9, f10])) (ops := oP11) (n := 2) (st' := (45, #[.val (.int a), .val (.int b), .val (.int i), .val (.int r), .val (.int t), .val (.int (own_fr a i)), .val (.int (own_mem a (own_fr a i)))], [.int r], H, 0, 0)) hw hK hC ops11 rfl)
        have e : (own_ex a b i r t) = r := by unfold own_ex; (repeat' split) <;> first | rfl | (exfalso; omega)
        rw [e]
        exact oMet_of_reach pn11 ops11 R17 rfl
theorem fs12 (hw : oHw a0 Z) : oFsOk l Z n0 oKT oMT [f0, f1, f2, f3, f4, f5, f6, f7, f8, f9, f10, f11] := (fs11 hw).snoc (fs := [f0, f1, f2, f3, f4, f5, f6, f7, f8, f9, f10]) (q := oM11) rfl (ok11 hw)
def f12 : List Value → List oObj → Option (Option Value × List oObj) := oBodyF oKT oCT oMT (oCall [f0, f1, f2, f3, f4, f5, f6, f7, f8, f9, f10, f11]) oM12 oF12 1000
theorem ok12 (hw : oHw a0 Z) : oCallOk l Z n0 oKT oM12 f12 := oBodyF_ok oS12 hw oK_ok (fs12 hw).call pn12 ops12
theorem fs13 (hw : oHw a0 Z) : oFsOk l Z n0 oKT oMT [f0, f1, f2, f3, f4, f5, f6, f7, f8, f9, f10, f11, f12] := (fs12 hw).snoc (fs := [f0, f1, f2, f3, f4, f5, f6, f7, f8, f9, f10, f11]) (q := oM12) rfl (ok12 hw)
def f13 : List Value → List oObj → Option (Option Value × List oObj) := oBodyF oKT oCT oMT (oCall [f0, f1, f2, f3, f4, f5, f6, f7, f8, f9, f10, f11, f12]) oM13 oF13 1000
theorem ok13 (hw : oHw a0 Z) : oCallOk l Z n0 oKT oM13 f13 := oBodyF_ok oS13 hw oK_ok (fs13 hw).call pn13 ops13
theorem fs14 (hw : oHw a0 Z) : oFsOk l Z n0 oKT oMT [f0, f1, f2, f3, f4, f5, f6, f7, f8, f9, f10, f11, f12, f13] := (fs13 hw).snoc (fs := [f0, f1, f2, f3, f4, f5, f6, f7, f8, f9, f10, f11, f12]) (q := oM13) rfl (ok13 hw)
def f14 : List Value → List oObj → Option (Option Value × List oObj) := oBodyF oKT oCT oMT (oCall [f0, f1, f2, f3, f4, f5, f6, f7, f8, f9, f10, f11, f12, f13]) oM14 oF14 1000
theorem ok14 (hw : oHw a0 Z) : oCallOk l Z n0 oKT oM14 f14 := oBodyF_ok oS14 hw oK_ok (fs14 hw).call pn14 ops14
theorem fs15 (hw : oHw a0 Z) : oFsOk l Z n0 oKT oMT [f0, f1, f2, f3, f4, f5, f6, f7, f8, f9, f10, f11, f12, f13, f14] := (fs14 hw).snoc (fs := [f0, f1, f2, f3, f4, f5, f6, f7, f8, f9, f10, f11, f12, f13]) (q := oM14) rfl (ok14 hw)
def f15 : List Value → List oObj → Option (Option Value × List oObj) := oBodyF oKT oCT oMT (oCall [f0, f1, f2, f3, f4, f5, f6, f7, f8, f9, f10, f11, f12, f13, f14]) oM15 oF15 1000
theorem ok15 (hw : oHw a0 Z) : oCallOk l Z n0 oKT oM15 f15 := oBodyF_ok oS15 hw oK_ok (fs15 hw).call pn15 ops15
theorem fs16 (hw : oHw a0 Z) : oFsOk l Z n0 oKT oMT [f0, f1, f2, f3, f4, f5, f6, f7, f8, f9, f10, f11, f12, f13, f14, f15] := (fs15 hw).snoc (fs := [f0, f1, f2, f3, f4, f5, f6, f7, f8, f9, f10, f11, f12, f13, f14]) (q := oM15) rfl (ok15 hw)
def f16 : List Value → List oObj → Option (Option Value × List oObj) := oBodyF oKT oCT oMT (oCall [f0, f1, f2, f3, f4, f5, f6, f7, f8, f9, f10, f11, f12, f13, f14, f15]) oM16 oF16 1000
theorem ok16 (hw : oHw a0 Z) : oCallOk l Z n0 oKT oM16 f16 := oBodyF_ok oS16 hw oK_ok (fs16 hw).call pn16 ops16
theorem fs17 (hw : oHw a0 Z) : oFsOk l Z n0 oKT oMT [f0, f1, f2, f3, f4, f5, f6, f7, f8, f9, f10, f11, f12, f13, f14, f15, f16] := (fs16 hw).snoc (fs := [f0, f1, f2, f3, f4, f5, f6, f7, f8, f9, f10, f11, f12, f13, f14, f15]) (q := oM16) rfl (ok16 hw)
def oEqO : oObj → oObj → Bool
  | .inl (a, u), .inl (b, v) => decide (a = b) && decide (u = v)
  | .inr (.int, u), .inr (.int, v) => decide (u = v)
  | _, _ => false
theorem oEqO_eq {a b : oObj} (h : oEqO a b = true) : a = b := by
  unfold oEqO at h
  split at h
  · obtain ⟨h1, h2⟩ := Bool.and_eq_true_iff.mp h
    rw [of_decide_eq_true h1, of_decide_eq_true h2]
  · rw [of_decide_eq_true h]
  · cases h
def oEqH : List oObj → List oObj → Bool
  | [], [] => true
  | a :: s, b :: t => oEqO a b && oEqH s t
  | _, _ => false
theorem oEqH_eq : ∀ {s t : List oObj}, oEqH s t = true → s = t
  | [], [], _ => rfl
  | a :: s, b :: t, h => by
    obtain ⟨h1, h2⟩ := Bool.and_eq_true_iff.mp (show (oEqO a b && oEqH s t) = true from h)
    rw [oEqO_eq h1, oEqH_eq h2]
  | [], _ :: _, h => by simp [oEqH] at h
  | _ :: _, [], h => by simp [oEqH] at h
def oGives (r : Option (Option Value × List oObj)) (H : List oObj) : Bool := match r with
  | some (none, H1) => oEqH H1 H
  | _ => false
theorem oGives_eq {r : Option (Option Value × List oObj)} {H : List oObj} (h : oGives r H = true) : r = some (none, H) := by
  unfold oGives at h
  split at h
  · rw [oEqH_eq h]
  · cases h
def own_h0 : List oObj := [.inl (0, [.ref 1, .ref 2, .ref 3, .ref 4, .ref 5, .ref 6, .ref 7, .int (1 : Int32), .int (0 : Int32)]), .inr (.int, [(0 : Int32), (1 : Int32), (2 : Int32), (3 : Int32)]), .inr (.int, [(0 : Int32), (1 : Int32), (2 : Int32), (3 : Int32)]), .inr (.int, [(0 : Int32), (0 : Int32), (0 : Int32), (0 : Int32)]), .inr (.int, [(0 : Int32), (0 : Int32), (0 : Int32), (0 : Int32)]), .inr (.int, [(4 : Int32), (0 : Int32), (0 : Int32), (0 : Int32)]), .inr (.int, [(0 : Int32), (0 : Int32), (0 : Int32), (0 : Int32)]), .inr (.int, [(0 : Int32), (0 : Int32), (0 : Int32), (0 : Int32)])]
set_option maxRecDepth 65536 in
theorem own_c0 : f0 [.ref 0, .int (4 : Int32)] [.inl (0, [.null, .null, .null, .null, .null, .null, .null, .int (0 : Int32), .int (0 : Int32)])] = some (none, own_h0) := oGives_eq (by decide +kernel)
def own_h1_0 : List oObj := [.inl (0, [.ref 1, .ref 2, .ref 3, .ref 4, .ref 5, .ref 6, .ref 7, .int (1 : Int32), .int (0 : Int32)]), .inr (.int, [(0 : Int32), (1 : Int32), (2 : Int32), (3 : Int32)]), .inr (.int, [(0 : Int32), (1 : Int32), (2 : Int32), (3 : Int32)]), .inr (.int, [(0 : Int32), (0 : Int32), (0 : Int32), (0 : Int32)]), .inr (.int, [(0 : Int32), (0 : Int32), (0 : Int32), (0 : Int32)]), .inr (.int, [(4 : Int32), (0 : Int32), (0 : Int32), (0 : Int32)]), .inr (.int, [(0 : Int32), (0 : Int32), (0 : Int32), (0 : Int32)]), .inr (.int, [(0 : Int32), (0 : Int32), (0 : Int32), (0 : Int32)])]
def own_h2_0 : List oObj := [.inl (0, [.ref 1, .ref 2, .ref 3, .ref 4, .ref 5, .ref 6, .ref 7, .int (1 : Int32), .int (0 : Int32)]), .inr (.int, [(0 : Int32), (1 : Int32), (2 : Int32), (3 : Int32)]), .inr (.int, [(0 : Int32), (1 : Int32), (2 : Int32), (3 : Int32)]), .inr (.int, [(0 : Int32), (0 : Int32), (0 : Int32), (0 : Int32)]), .inr (.int, [(0 : Int32), (0 : Int32), (0 : Int32), (0 : Int32)]), .inr (.int, [(4 : Int32), (0 : Int32), (0 : Int32), (0 : Int32)]), .inr (.int, [(0 : Int32), (0 : Int32), (0 : Int32), (0 : Int32)]), .inr (.int, [(0 : Int32), (0 : Int32), (0 : Int32), (0 : Int32)])]
set_option maxRecDepth 65536 in
theorem own_c1_0 : f2 [.ref 0, .int (0 : Int32)] own_h0 = some (none, own_h1_0) := oGives_eq (by decide +kernel)
set_option maxRecDepth 65536 in
theorem own_c2_0 : f3 [.ref 0] own_h1_0 = some (none, own_h2_0) := oGives_eq (by decide +kernel)
set_option maxRecDepth 65536 in
set_option maxHeartbeats 4000000 in
theorem own_p0 (hw : oHw a0 Z) (b : Int32) : oReach l Z n0 oKT oMx (10, #[.val (.retAddr 0), .val (.retAddr 0), .val (.int (0 : Int32)), .val (.int b), .unset, .unset, .unset, .unset, .unset, .unset, .unset, .unset, .unset, .unset, .unset, .unset, .unset, .unset, .unset, .unset, .unset], [], [], 0, 0) (31, #[.val (.retAddr 0), .val (.retAddr 0), .val (.int (0 : Int32)), .val (.int b), .val (.ref 0), .unset, .unset, .unset, .unset, .unset, .unset, .unset, .unset, .unset, .unset, .unset, .unset, .unset, .unset, .unset, .unset], [], own_h2_0, 8, 37) := by
  have hK := oK_ok
  have hC := (fs17 hw : oFsOk l Z n0 oKT oMT [f0, f1, f2, f3, f4, f5, f6, f7, f8, f9, f10, f11, f12, f13, f14, f15, f16]).call
  have R1 := oReach.run (l := l) (n0 := n0) (q := oMx) (CT := oCT) (MT := oMT) (callf := (oCall [f0, f1, f2, f3, f4, f5, f6, f7, f8, f9, f10, f11, f12, f13, f14, f15, f16])) (ops := oPx) (n := 3) (st := (10, #[.val (.retAddr 0), .val (.retAddr 0), .val (.int (0 : Int32)), .val (.int b), .unset, .unset, .unset, .unset, .unset, .unset, .unset, .unset, .unset, .unset, .unset, .unset, .unset, .unset, .unset, .unset, .unset], [], [], 0, 0)) (st' := (15, #[.val (.retAddr 0), .val (.retAddr 0), .val (.int (0 : Int32)), .val (.int b), .unset, .unset, .unset, .unset, .unset, .unset, .unset, .unset, .unset, .unset, .unset, .unset, .unset, .unset, .unset, .unset, .unset], [.int (4 : Int32), .ref 0, .ref 0], [.inl (0, [.null, .null, .null, .null, .null, .null, .null, .int (0 : Int32), .int (0 : Int32)])], 1, 9)) hw hK hC opsx rfl
  have R2 := R1.trans (oReach.mI (CT := oCT) (MT := oMT) (ops := oPx) hw hK opsx (ok0 (l := l) (n0 := n0) hw _ _ _ _ own_c0) rfl (by decide) rfl rfl rfl rfl)
  have R3 := R2.trans (oReach.run (l := l) (n0 := n0) (q := oMx) (CT := oCT) (MT := oMT) (callf := (oCall [f0, f1, f2, f3, f4, f5, f6, f7, f8, f9, f10, f11, f12, f13, f14, f15, f16])) (ops := oPx) (n := 3) (st' := (23, #[.val (.retAddr 0), .val (.retAddr 0), .val (.int (0 : Int32)), .val (.int b), .val (.ref 0), .unset, .unset, .unset, .unset, .unset, .unset, .unset, .unset, .unset, .unset, .unset, .unset, .unset, .unset, .unset, .unset], [.int (0 : Int32), .ref 0], own_h0, 8, 37)) hw hK hC opsx rfl)
  have R4 := R3.trans (oReach.mS (CT := oCT) (MT := oMT) (ops := oPx) hw hK opsx (ok2 (l := l) (n0 := n0) hw _ _ _ _ own_c1_0) rfl (by decide) rfl rfl rfl)
  have R5 := R4.trans (oReach.run (l := l) (n0 := n0) (q := oMx) (CT := oCT) (MT := oMT) (callf := (oCall [f0, f1, f2, f3, f4, f5, f6, f7, f8, f9, f10, f11, f12, f13, f14, f15, f16])) (ops := oPx) (n := 1) (st' := (28, #[.val (.retAddr 0), .val (.retAddr 0), .val (.int (0 : Int32)), .val (.int b), .val (.ref 0), .unset, .unset, .unset, .unset, .unset, .unset, .unset, .unset, .unset, .unset, .unset, .unset, .unset, .unset, .unset, .unset], [.ref 0], own_h1_0, 8, 37)) hw hK hC opsx rfl)
  exact R5.trans (oReach.mV (CT := oCT) (MT := oMT) (ops := oPx) hw hK opsx (ok3 (l := l) (n0 := n0) hw _ _ _ _ own_c2_0) rfl rfl rfl rfl rfl rfl)
def own_h1_1 : List oObj := [.inl (0, [.ref 1, .ref 2, .ref 3, .ref 4, .ref 5, .ref 6, .ref 7, .int (1 : Int32), .int (1 : Int32)]), .inr (.int, [(0 : Int32), (1 : Int32), (2 : Int32), (3 : Int32)]), .inr (.int, [(0 : Int32), (1 : Int32), (2 : Int32), (3 : Int32)]), .inr (.int, [(0 : Int32), (0 : Int32), (0 : Int32), (0 : Int32)]), .inr (.int, [(0 : Int32), (0 : Int32), (0 : Int32), (0 : Int32)]), .inr (.int, [(4 : Int32), (0 : Int32), (0 : Int32), (0 : Int32)]), .inr (.int, [(1 : Int32), (0 : Int32), (0 : Int32), (0 : Int32)]), .inr (.int, [(0 : Int32), (0 : Int32), (0 : Int32), (0 : Int32)])]
def own_h2_1 : List oObj := [.inl (0, [.ref 1, .ref 2, .ref 3, .ref 4, .ref 5, .ref 6, .ref 7, .int (2 : Int32), .int (0 : Int32)]), .inr (.int, [(0 : Int32), (1 : Int32), (2 : Int32), (3 : Int32)]), .inr (.int, [(0 : Int32), (1 : Int32), (2 : Int32), (3 : Int32)]), .inr (.int, [(1 : Int32), (0 : Int32), (0 : Int32), (0 : Int32)]), .inr (.int, [(1 : Int32), (0 : Int32), (0 : Int32), (0 : Int32)]), .inr (.int, [(4 : Int32), (1 : Int32), (0 : Int32), (0 : Int32)]), .inr (.int, [(0 : Int32), (0 : Int32), (0 : Int32), (0 : Int32)]), .inr (.int, [(0 : Int32), (0 : Int32), (0 : Int32), (0 : Int32)])]
set_option maxRecDepth 65536 in
theorem own_c1_1 : f2 [.ref 0, .int (1 : Int32)] own_h0 = some (none, own_h1_1) := oGives_eq (by decide +kernel)
set_option maxRecDepth 65536 in
theorem own_c2_1 : f3 [.ref 0] own_h1_1 = some (none, own_h2_1) := oGives_eq (by decide +kernel)
set_option maxRecDepth 65536 in
set_option maxHeartbeats 4000000 in
theorem own_p1 (hw : oHw a0 Z) (b : Int32) : oReach l Z n0 oKT oMx (10, #[.val (.retAddr 0), .val (.retAddr 0), .val (.int (1 : Int32)), .val (.int b), .unset, .unset, .unset, .unset, .unset, .unset, .unset, .unset, .unset, .unset, .unset, .unset, .unset, .unset, .unset, .unset, .unset], [], [], 0, 0) (31, #[.val (.retAddr 0), .val (.retAddr 0), .val (.int (1 : Int32)), .val (.int b), .val (.ref 0), .unset, .unset, .unset, .unset, .unset, .unset, .unset, .unset, .unset, .unset, .unset, .unset, .unset, .unset, .unset, .unset], [], own_h2_1, 8, 37) := by
  have hK := oK_ok
  have hC := (fs17 hw : oFsOk l Z n0 oKT oMT [f0, f1, f2, f3, f4, f5, f6, f7, f8, f9, f10, f11, f12, f13, f14, f15, f16]).call
  have R1 := oReach.run (l := l) (n0 := n0) (q := oMx) (CT := oCT) (MT := oMT) (callf := (oCall [f0, f1, f2, f3, f4, f5, f6, f7, f8, f9, f10, f11, f12, f13, f14, f15, f16])) (ops := oPx) (n := 3) (st := (10, #[.val (.retAddr 0), .val (.retAddr 0), .val (.int (1 : Int32)), .val (.int b), .unset, .unset, .unset, .unset, .unset, .unset, .unset, .unset, .unset, .unset, .unset, .unset, .unset, .unset, .unset, .unset, .unset], [], [], 0, 0)) (st' := (15, #[.val (.retAddr 0), .val (.retAddr 0), .val (.int (1 : Int32)), .val (.int b), .unset, .unset, .unset, .unset, .unset, .unset, .unset, .unset, .unset, .unset, .unset, .unset, .unset, .unset, .unset, .unset, .unset], [.int (4 : Int32), .ref 0, .ref 0], [.inl (0, [.null, .null, .null, .null, .null, .null, .null, .int (0 : Int32), .int (0 : Int32)])], 1, 9)) hw hK hC opsx rfl
  have R2 := R1.trans (oReach.mI (CT := oCT) (MT := oMT) (ops := oPx) hw hK opsx (ok0 (l := l) (n0 := n0) hw _ _ _ _ own_c0) rfl (by decide) rfl rfl rfl rfl)
  have R3 := R2.trans (oReach.run (l := l) (n0 := n0) (q := oMx) (CT := oCT) (MT := oMT) (callf := (oCall [f0, f1, f2, f3, f4, f5, f6, f7, f8, f9, f10, f11, f12, f13, f14, f15, f16])) (ops := oPx) (n := 3) (st' := (23, #[.val (.retAddr 0), .val (.retAddr 0), .val (.int (1 : Int32)), .val (.int b), .val (.ref 0), .unset, .unset, .unset, .unset, .unset, .unset, .unset, .unset, .unset, .unset, .unset, .unset, .unset, .unset, .unset, .unset], [.int (1 : Int32), .ref 0], own_h0, 8, 37)) hw hK hC opsx rfl)
  have R4 := R3.trans (oReach.mS (CT := oCT) (MT := oMT) (ops := oPx) hw hK opsx (ok2 (l := l) (n0 := n0) hw _ _ _ _ own_c1_1) rfl (by decide) rfl rfl rfl)
  have R5 := R4.trans (oReach.run (l := l) (n0 := n0) (q := oMx) (CT := oCT) (MT := oMT) (callf := (oCall [f0, f1, f2, f3, f4, f5, f6, f7, f8, f9, f10, f11, f12, f13, f14, f15, f16])) (ops := oPx) (n := 1) (st' := (28, #[.val (.retAddr 0), .val (.retAddr 0), .val (.int (1 : Int32)), .val (.int b), .val (.ref 0), .unset, .unset, .unset, .unset, .unset, .unset, .unset, .unset, .unset, .unset, .unset, .unset, .unset, .unset, .unset, .unset], [.ref 0], own_h1_1, 8, 37)) hw hK hC opsx rfl)
  exact R5.trans (oReach.mV (CT := oCT) (MT := oMT) (ops := oPx) hw hK opsx (ok3 (l := l) (n0 := n0) hw _ _ _ _ own_c2_1) rfl rfl rfl rfl rfl rfl)
def own_h1_2 : List oObj := [.inl (0, [.ref 1, .ref 2, .ref 3, .ref 4, .ref 5, .ref 6, .ref 7, .int (1 : Int32), .int (1 : Int32)]), .inr (.int, [(1 : Int32), (0 : Int32), (2 : Int32), (3 : Int32)]), .inr (.int, [(1 : Int32), (0 : Int32), (2 : Int32), (3 : Int32)]), .inr (.int, [(0 : Int32), (0 : Int32), (0 : Int32), (0 : Int32)]), .inr (.int, [(0 : Int32), (0 : Int32), (0 : Int32), (0 : Int32)]), .inr (.int, [(4 : Int32), (0 : Int32), (0 : Int32), (0 : Int32)]), .inr (.int, [(1 : Int32), (0 : Int32), (0 : Int32), (0 : Int32)]), .inr (.int, [(0 : Int32), (0 : Int32), (0 : Int32), (0 : Int32)])]
def own_h2_2 : List oObj := [.inl (0, [.ref 1, .ref 2, .ref 3, .ref 4, .ref 5, .ref 6, .ref 7, .int (2 : Int32), .int (0 : Int32)]), .inr (.int, [(1 : Int32), (0 : Int32), (2 : Int32), (3 : Int32)]), .inr (.int, [(1 : Int32), (0 : Int32), (2 : Int32), (3 : Int32)]), .inr (.int, [(0 : Int32), (1 : Int32), (0 : Int32), (0 : Int32)]), .inr (.int, [(1 : Int32), (0 : Int32), (0 : Int32), (0 : Int32)]), .inr (.int, [(4 : Int32), (1 : Int32), (0 : Int32), (0 : Int32)]), .inr (.int, [(0 : Int32), (0 : Int32), (0 : Int32), (0 : Int32)]), .inr (.int, [(0 : Int32), (0 : Int32), (0 : Int32), (0 : Int32)])]
set_option maxRecDepth 65536 in
theorem own_c1_2 : f2 [.ref 0, .int (2 : Int32)] own_h0 = some (none, own_h1_2) := oGives_eq (by decide +kernel)
set_option maxRecDepth 65536 in
theorem own_c2_2 : f3 [.ref 0] own_h1_2 = some (none, own_h2_2) := oGives_eq (by decide +kernel)
set_option maxRecDepth 65536 in
set_option maxHeartbeats 4000000 in
theorem own_p2 (hw : oHw a0 Z) (b : Int32) : oReach l Z n0 oKT oMx (10, #[.val (.retAddr 0), .val (.retAddr 0), .val (.int (2 : Int32)), .val (.int b), .unset, .unset, .unset, .unset, .unset, .unset, .unset, .unset, .unset, .unset, .unset, .unset, .unset, .unset, .unset, .unset, .unset], [], [], 0, 0) (31, #[.val (.retAddr 0), .val (.retAddr 0), .val (.int (2 : Int32)), .val (.int b), .val (.ref 0), .unset, .unset, .unset, .unset, .unset, .unset, .unset, .unset, .unset, .unset, .unset, .unset, .unset, .unset, .unset, .unset], [], own_h2_2, 8, 37) := by
  have hK := oK_ok
  have hC := (fs17 hw : oFsOk l Z n0 oKT oMT [f0, f1, f2, f3, f4, f5, f6, f7, f8, f9, f10, f11, f12, f13, f14, f15, f16]).call
  have R1 := oReach.run (l := l) (n0 := n0) (q := oMx) (CT := oCT) (MT := oMT) (callf := (oCall [f0, f1, f2, f3, f4, f5, f6, f7, f8, f9, f10, f11, f12, f13, f14, f15, f16])) (ops := oPx) (n := 3) (st := (10, #[.val (.retAddr 0), .val (.retAddr 0), .val (.int (2 : Int32)), .val (.int b), .unset, .unset, .unset, .unset, .unset, .unset, .unset, .unset, .unset, .unset, .unset, .unset, .unset, .unset, .unset, .unset, .unset], [], [], 0, 0)) (st' := (15, #[.val (.retAddr 0), .val (.retAddr 0), .val (.int (2 : Int32)), .val (.int b), .unset, .unset, .unset, .unset, .unset, .unset, .unset, .unset, .unset, .unset, .unset, .unset, .unset, .unset, .unset, .unset, .unset], [.int (4 : Int32), .ref 0, .ref 0], [.inl (0, [.null, .null, .null, .null, .null, .null, .null, .int (0 : Int32), .int (0 : Int32)])], 1, 9)) hw hK hC opsx rfl
  have R2 := R1.trans (oReach.mI (CT := oCT) (MT := oMT) (ops := oPx) hw hK opsx (ok0 (l := l) (n0 := n0) hw _ _ _ _ own_c0) rfl (by decide) rfl rfl rfl rfl)
  have R3 := R2.trans (oReach.run (l := l) (n0 := n0) (q := oMx) (CT := oCT) (MT := oMT) (callf := (oCall [f0, f1, f2, f3, f4, f5, f6, f7, f8, f9, f10, f11, f12, f13, f14, f15, f16])) (ops := oPx) (n := 3) (st' := (23, #[.val (.retAddr 0), .val (.retAddr 0), .val (.int (2 : Int32)), .val (.int b), .val (.ref 0), .unset, .unset, .unset, .unset, .unset, .unset, .unset, .unset, .unset, .unset, .unset, .unset, .unset, .unset, .unset, .unset], [.int (2 : Int32), .ref 0], own_h0, 8, 37)) hw hK hC opsx rfl)
  have R4 := R3.trans (oReach.mS (CT := oCT) (MT := oMT) (ops := oPx) hw hK opsx (ok2 (l := l) (n0 := n0) hw _ _ _ _ own_c1_2) rfl (by decide) rfl rfl rfl)
  have R5 := R4.trans (oReach.run (l := l) (n0 := n0) (q := oMx) (CT := oCT) (MT := oMT) (callf := (oCall [f0, f1, f2, f3, f4, f5, f6, f7, f8, f9, f10, f11, f12, f13, f14, f15, f16])) (ops := oPx) (n := 1) (st' := (28, #[.val (.retAddr 0), .val (.retAddr 0), .val (.int (2 : Int32)), .val (.int b), .val (.ref 0), .unset, .unset, .unset, .unset, .unset, .unset, .unset, .unset, .unset, .unset, .unset, .unset, .unset, .unset, .unset, .unset], [.ref 0], own_h1_2, 8, 37)) hw hK hC opsx rfl)
  exact R5.trans (oReach.mV (CT := oCT) (MT := oMT) (ops := oPx) hw hK opsx (ok3 (l := l) (n0 := n0) hw _ _ _ _ own_c2_2) rfl rfl rfl rfl rfl rfl)
def own_h1_3 : List oObj := [.inl (0, [.ref 1, .ref 2, .ref 3, .ref 4, .ref 5, .ref 6, .ref 7, .int (1 : Int32), .int (1 : Int32)]), .inr (.int, [(0 : Int32), (1 : Int32), (2 : Int32), (3 : Int32)]), .inr (.int, [(0 : Int32), (1 : Int32), (2 : Int32), (3 : Int32)]), .inr (.int, [(0 : Int32), (0 : Int32), (0 : Int32), (0 : Int32)]), .inr (.int, [(0 : Int32), (0 : Int32), (0 : Int32), (0 : Int32)]), .inr (.int, [(4 : Int32), (0 : Int32), (0 : Int32), (0 : Int32)]), .inr (.int, [(2 : Int32), (0 : Int32), (0 : Int32), (0 : Int32)]), .inr (.int, [(0 : Int32), (0 : Int32), (0 : Int32), (0 : Int32)])]
def own_h2_3 : List oObj := [.inl (0, [.ref 1, .ref 2, .ref 3, .ref 4, .ref 5, .ref 6, .ref 7, .int (2 : Int32), .int (0 : Int32)]), .inr (.int, [(0 : Int32), (1 : Int32), (2 : Int32), (3 : Int32)]), .inr (.int, [(0 : Int32), (1 : Int32), (2 : Int32), (3 : Int32)]), .inr (.int, [(1 : Int32), (1 : Int32), (0 : Int32), (0 : Int32)]), .inr (.int, [(2 : Int32), (0 : Int32), (0 : Int32), (0 : Int32)]), .inr (.int, [(4 : Int32), (2 : Int32), (0 : Int32), (0 : Int32)]), .inr (.int, [(0 : Int32), (0 : Int32), (0 : Int32), (0 : Int32)]), .inr (.int, [(0 : Int32), (0 : Int32), (0 : Int32), (0 : Int32)])]
set_option maxRecDepth 65536 in
theorem own_c1_3 : f2 [.ref 0, .int (3 : Int32)] own_h0 = some (none, own_h1_3) := oGives_eq (by decide +kernel)
set_option maxRecDepth 65536 in
theorem own_c2_3 : f3 [.ref 0] own_h1_3 = some (none, own_h2_3) := oGives_eq (by decide +kernel)
set_option maxRecDepth 65536 in
set_option maxHeartbeats 4000000 in
theorem own_p3 (hw : oHw a0 Z) (b : Int32) : oReach l Z n0 oKT oMx (10, #[.val (.retAddr 0), .val (.retAddr 0), .val (.int (3 : Int32)), .val (.int b), .unset, .unset, .unset, .unset, .unset, .unset, .unset, .unset, .unset, .unset, .unset, .unset, .unset, .unset, .unset, .unset, .unset], [], [], 0, 0) (31, #[.val (.retAddr 0), .val (.retAddr 0), .val (.int (3 : Int32)), .val (.int b), .val (.ref 0), .unset, .unset, .unset, .unset, .unset, .unset, .unset, .unset, .unset, .unset, .unset, .unset, .unset, .unset, .unset, .unset], [], own_h2_3, 8, 37) := by
  have hK := oK_ok
  have hC := (fs17 hw : oFsOk l Z n0 oKT oMT [f0, f1, f2, f3, f4, f5, f6, f7, f8, f9, f10, f11, f12, f13, f14, f15, f16]).call
  have R1 := oReach.run (l := l) (n0 := n0) (q := oMx) (CT := oCT) (MT := oMT) (callf := (oCall [f0, f1, f2, f3, f4, f5, f6, f7, f8, f9, f10, f11, f12, f13, f14, f15, f16])) (ops := oPx) (n := 3) (st := (10, #[.val (.retAddr 0), .val (.retAddr 0), .val (.int (3 : Int32)), .val (.int b), .unset, .unset, .unset, .unset, .unset, .unset, .unset, .unset, .unset, .unset, .unset, .unset, .unset, .unset, .unset, .unset, .unset], [], [], 0, 0)) (st' := (15, #[.val (.retAddr 0), .val (.retAddr 0), .val (.int (3 : Int32)), .val (.int b), .unset, .unset, .unset, .unset, .unset, .unset, .unset, .unset, .unset, .unset, .unset, .unset, .unset, .unset, .unset, .unset, .unset], [.int (4 : Int32), .ref 0, .ref 0], [.inl (0, [.null, .null, .null, .null, .null, .null, .null, .int (0 : Int32), .int (0 : Int32)])], 1, 9)) hw hK hC opsx rfl
  have R2 := R1.trans (oReach.mI (CT := oCT) (MT := oMT) (ops := oPx) hw hK opsx (ok0 (l := l) (n0 := n0) hw _ _ _ _ own_c0) rfl (by decide) rfl rfl rfl rfl)
  have R3 := R2.trans (oReach.run (l := l) (n0 := n0) (q := oMx) (CT := oCT) (MT := oMT) (callf := (oCall [f0, f1, f2, f3, f4, f5, f6, f7, f8, f9, f10, f11, f12, f13, f14, f15, f16])) (ops := oPx) (n := 3) (st' := (23, #[.val (.retAddr 0), .val (.retAddr 0), .val (.int (3 : Int32)), .val (.int b), .val (.ref 0), .unset, .unset, .unset, .unset, .unset, .unset, .unset, .unset, .unset, .unset, .unset, .unset, .unset, .unset, .unset, .unset], [.int (3 : Int32), .ref 0], own_h0, 8, 37)) hw hK hC opsx rfl)
  have R4 := R3.trans (oReach.mS (CT := oCT) (MT := oMT) (ops := oPx) hw hK opsx (ok2 (l := l) (n0 := n0) hw _ _ _ _ own_c1_3) rfl (by decide) rfl rfl rfl)
  have R5 := R4.trans (oReach.run (l := l) (n0 := n0) (q := oMx) (CT := oCT) (MT := oMT) (callf := (oCall [f0, f1, f2, f3, f4, f5, f6, f7, f8, f9, f10, f11, f12, f13, f14, f15, f16])) (ops := oPx) (n := 1) (st' := (28, #[.val (.retAddr 0), .val (.retAddr 0), .val (.int (3 : Int32)), .val (.int b), .val (.ref 0), .unset, .unset, .unset, .unset, .unset, .unset, .unset, .unset, .unset, .unset, .unset, .unset, .unset, .unset, .unset, .unset], [.ref 0], own_h1_3, 8, 37)) hw hK hC opsx rfl)
  exact R5.trans (oReach.mV (CT := oCT) (MT := oMT) (ops := oPx) hw hK opsx (ok3 (l := l) (n0 := n0) hw _ _ _ _ own_c2_3) rfl rfl rfl rfl rfl rfl)
def own_h1_4 : List oObj := [.inl (0, [.ref 1, .ref 2, .ref 3, .ref 4, .ref 5, .ref 6, .ref 7, .int (1 : Int32), .int (1 : Int32)]), .inr (.int, [(2 : Int32), (1 : Int32), (0 : Int32), (3 : Int32)]), .inr (.int, [(2 : Int32), (1 : Int32), (0 : Int32), (3 : Int32)]), .inr (.int, [(0 : Int32), (0 : Int32), (0 : Int32), (0 : Int32)]), .inr (.int, [(0 : Int32), (0 : Int32), (0 : Int32), (0 : Int32)]), .inr (.int, [(4 : Int32), (0 : Int32), (0 : Int32), (0 : Int32)]), .inr (.int, [(1 : Int32), (0 : Int32), (0 : Int32), (0 : Int32)]), .inr (.int, [(0 : Int32), (0 : Int32), (0 : Int32), (0 : Int32)])]
def own_h2_4 : List oObj := [.inl (0, [.ref 1, .ref 2, .ref 3, .ref 4, .ref 5, .ref 6, .ref 7, .int (2 : Int32), .int (0 : Int32)]), .inr (.int, [(2 : Int32), (1 : Int32), (0 : Int32), (3 : Int32)]), .inr (.int, [(2 : Int32), (1 : Int32), (0 : Int32), (3 : Int32)]), .inr (.int, [(0 : Int32), (0 : Int32), (1 : Int32), (0 : Int32)]), .inr (.int, [(1 : Int32), (0 : Int32), (0 : Int32), (0 : Int32)]), .inr (.int, [(4 : Int32), (1 : Int32), (0 : Int32), (0 : Int32)]), .inr (.int, [(0 : Int32), (0 : Int32), (0 : Int32), (0 : Int32)]), .inr (.int, [(0 : Int32), (0 : Int32), (0 : Int32), (0 : Int32)])]
set_option maxRecDepth 65536 in
theorem own_c1_4 : f2 [.ref 0, .int (4 : Int32)] own_h0 = some (none, own_h1_4) := oGives_eq (by decide +kernel)
set_option maxRecDepth 65536 in
theorem own_c2_4 : f3 [.ref 0] own_h1_4 = some (none, own_h2_4) := oGives_eq (by decide +kernel)
set_option maxRecDepth 65536 in
set_option maxHeartbeats 4000000 in
theorem own_p4 (hw : oHw a0 Z) (b : Int32) : oReach l Z n0 oKT oMx (10, #[.val (.retAddr 0), .val (.retAddr 0), .val (.int (4 : Int32)), .val (.int b), .unset, .unset, .unset, .unset, .unset, .unset, .unset, .unset, .unset, .unset, .unset, .unset, .unset, .unset, .unset, .unset, .unset], [], [], 0, 0) (31, #[.val (.retAddr 0), .val (.retAddr 0), .val (.int (4 : Int32)), .val (.int b), .val (.ref 0), .unset, .unset, .unset, .unset, .unset, .unset, .unset, .unset, .unset, .unset, .unset, .unset, .unset, .unset, .unset, .unset], [], own_h2_4, 8, 37) := by
  have hK := oK_ok
  have hC := (fs17 hw : oFsOk l Z n0 oKT oMT [f0, f1, f2, f3, f4, f5, f6, f7, f8, f9, f10, f11, f12, f13, f14, f15, f16]).call
  have R1 := oReach.run (l := l) (n0 := n0) (q := oMx) (CT := oCT) (MT := oMT) (callf := (oCall [f0, f1, f2, f3, f4, f5, f6, f7, f8, f9, f10, f11, f12, f13, f14, f15, f16])) (ops := oPx) (n := 3) (st := (10, #[.val (.retAddr 0), .val (.retAddr 0), .val (.int (4 : Int32)), .val (.int b), .unset, .unset, .unset, .unset, .unset, .unset, .unset, .unset, .unset, .unset, .unset, .unset, .unset, .unset, .unset, .unset, .unset], [], [], 0, 0)) (st' := (15, #[.val (.retAddr 0), .val (.retAddr 0), .val (.int (4 : Int32)), .val (.int b), .unset, .unset, .unset, .unset, .unset, .unset, .unset, .unset, .unset, .unset, .unset, .unset, .unset, .unset, .unset, .unset, .unset], [.int (4 : Int32), .ref 0, .ref 0], [.inl (0, [.null, .null, .null, .null, .null, .null, .null, .int (0 : Int32), .int (0 : Int32)])], 1, 9)) hw hK hC opsx rfl
  have R2 := R1.trans (oReach.mI (CT := oCT) (MT := oMT) (ops := oPx) hw hK opsx (ok0 (l := l) (n0 := n0) hw _ _ _ _ own_c0) rfl (by decide) rfl rfl rfl rfl)
  have R3 := R2.trans (oReach.run (l := l) (n0 := n0) (q := oMx) (CT := oCT) (MT := oMT) (callf := (oCall [f0, f1, f2, f3, f4, f5, f6, f7, f8, f9, f10, f11, f12, f13, f14, f15, f16])) (ops := oPx) (n := 3) (st' := (23, #[.val (.retAddr 0), .val (.retAddr 0), .val (.int (4 : Int32)), .val (.int b), .val (.ref 0), .unset, .unset, .unset, .unset, .unset, .unset, .unset, .unset, .unset, .unset, .unset, .unset, .unset, .unset, .unset, .unset], [.int (4 : Int32), .ref 0], own_h0, 8, 37)) hw hK hC opsx rfl)
  have R4 := R3.trans (oReach.mS (CT := oCT) (MT := oMT) (ops := oPx) hw hK opsx (ok2 (l := l) (n0 := n0) hw _ _ _ _ own_c1_4) rfl (by decide) rfl rfl rfl)
  have R5 := R4.trans (oReach.run (l := l) (n0 := n0) (q := oMx) (CT := oCT) (MT := oMT) (callf := (oCall [f0, f1, f2, f3, f4, f5, f6, f7, f8, f9, f10, f11, f12, f13, f14, f15, f16])) (ops := oPx) (n := 1) (st' := (28, #[.val (.retAddr 0), .val (.retAddr 0), .val (.int (4 : Int32)), .val (.int b), .val (.ref 0), .unset, .unset, .unset, .unset, .unset, .unset, .unset, .unset, .unset, .unset, .unset, .unset, .unset, .unset, .unset, .unset], [.ref 0], own_h1_4, 8, 37)) hw hK hC opsx rfl)
  exact R5.trans (oReach.mV (CT := oCT) (MT := oMT) (ops := oPx) hw hK opsx (ok3 (l := l) (n0 := n0) hw _ _ _ _ own_c2_4) rfl rfl rfl rfl rfl rfl)
def own_h1_5 : List oObj := [.inl (0, [.ref 1, .ref 2, .ref 3, .ref 4, .ref 5, .ref 6, .ref 7, .int (1 : Int32), .int (1 : Int32)]), .inr (.int, [(0 : Int32), (2 : Int32), (1 : Int32), (3 : Int32)]), .inr (.int, [(0 : Int32), (2 : Int32), (1 : Int32), (3 : Int32)]), .inr (.int, [(0 : Int32), (0 : Int32), (0 : Int32), (0 : Int32)]), .inr (.int, [(0 : Int32), (0 : Int32), (0 : Int32), (0 : Int32)]), .inr (.int, [(4 : Int32), (0 : Int32), (0 : Int32), (0 : Int32)]), .inr (.int, [(2 : Int32), (0 : Int32), (0 : Int32), (0 : Int32)]), .inr (.int, [(0 : Int32), (0 : Int32), (0 : Int32), (0 : Int32)])]
def own_h2_5 : List oObj := [.inl (0, [.ref 1, .ref 2, .ref 3, .ref 4, .ref 5, .ref 6, .ref 7, .int (2 : Int32), .int (0 : Int32)]), .inr (.int, [(0 : Int32), (2 : Int32), (1 : Int32), (3 : Int32)]), .inr (.int, [(0 : Int32), (2 : Int32), (1 : Int32), (3 : Int32)]), .inr (.int, [(1 : Int32), (0 : Int32), (1 : Int32), (0 : Int32)]), .inr (.int, [(2 : Int32), (0 : Int32), (0 : Int32), (0 : Int32)]), .inr (.int, [(4 : Int32), (2 : Int32), (0 : Int32), (0 : Int32)]), .inr (.int, [(0 : Int32), (0 : Int32), (0 : Int32), (0 : Int32)]), .inr (.int, [(0 : Int32), (0 : Int32), (0 : Int32), (0 : Int32)])]
set_option maxRecDepth 65536 in
theorem own_c1_5 : f2 [.ref 0, .int (5 : Int32)] own_h0 = some (none, own_h1_5) := oGives_eq (by decide +kernel)
set_option maxRecDepth 65536 in
theorem own_c2_5 : f3 [.ref 0] own_h1_5 = some (none, own_h2_5) := oGives_eq (by decide +kernel)
set_option maxRecDepth 65536 in
set_option maxHeartbeats 4000000 in
theorem own_p5 (hw : oHw a0 Z) (b : Int32) : oReach l Z n0 oKT oMx (10, #[.val (.retAddr 0), .val (.retAddr 0), .val (.int (5 : Int32)), .val (.int b), .unset, .unset, .unset, .unset, .unset, .unset, .unset, .unset, .unset, .unset, .unset, .unset, .unset, .unset, .unset, .unset, .unset], [], [], 0, 0) (31, #[.val (.retAddr 0), .val (.retAddr 0), .val (.int (5 : Int32)), .val (.int b), .val (.ref 0), .unset, .unset, .unset, .unset, .unset, .unset, .unset, .unset, .unset, .unset, .unset, .unset, .unset, .unset, .unset, .unset], [], own_h2_5, 8, 37) := by
  have hK := oK_ok
  have hC := (fs17 hw : oFsOk l Z n0 oKT oMT [f0, f1, f2, f3, f4, f5, f6, f7, f8, f9, f10, f11, f12, f13, f14, f15, f16]).call
  have R1 := oReach.run (l := l) (n0 := n0) (q := oMx) (CT := oCT) (MT := oMT) (callf := (oCall [f0, f1, f2, f3, f4, f5, f6, f7, f8, f9, f10, f11, f12, f13, f14, f15, f16])) (ops := oPx) (n := 3) (st := (10, #[.val (.retAddr 0), .val (.retAddr 0), .val (.int (5 : Int32)), .val (.int b), .unset, .unset, .unset, .unset, .unset, .unset, .unset, .unset, .unset, .unset, .unset, .unset, .unset, .unset, .unset, .unset, .unset], [], [], 0, 0)) (st' := (15, #[.val (.retAddr 0), .val (.retAddr 0), .val (.int (5 : Int32)), .val (.int b), .unset, .unset, .unset, .unset, .unset, .unset, .unset, .unset, .unset, .unset, .unset, .unset, .unset, .unset, .unset, .unset, .unset], [.int (4 : Int32), .ref 0, .ref 0], [.inl (0, [.null, .null, .null, .null, .null, .null, .null, .int (0 : Int32), .int (0 : Int32)])], 1, 9)) hw hK hC opsx rfl
  have R2 := R1.trans (oReach.mI (CT := oCT) (MT := oMT) (ops := oPx) hw hK opsx (ok0 (l := l) (n0 := n0) hw _ _ _ _ own_c0) rfl (by decide) rfl rfl rfl rfl)
  have R3 := R2.trans (oReach.run (l := l) (n0 := n0) (q := oMx) (CT := oCT) (MT := oMT) (callf := (oCall [f0, f1, f2, f3, f4, f5, f6, f7, f8, f9, f10, f11, f12, f13, f14, f15, f16])) (ops := oPx) (n := 3) (st' := (23, #[.val (.retAddr 0), .val (.retAddr 0), .val (.int (5 : Int32)), .val (.int b), .val (.ref 0), .unset, .unset, .unset, .unset, .unset, .unset, .unset, .unset, .unset, .unset, .unset, .unset, .unset, .unset, .unset, .unset], [.int (5 : Int32), .ref 0], own_h0, 8, 37)) hw hK hC opsx rfl)
  have R4 := R3.trans (oReach.mS (CT := oCT) (MT := oMT) (ops := oPx) hw hK opsx (ok2 (l := l) (n0 := n0) hw _ _ _ _ own_c1_5) rfl (by decide) rfl rfl rfl)
  have R5 := R4.trans (oReach.run (l := l) (n0 := n0) (q := oMx) (CT := oCT) (MT := oMT) (callf := (oCall [f0, f1, f2, f3, f4, f5, f6, f7, f8, f9, f10, f11, f12, f13, f14, f15, f16])) (ops := oPx) (n := 1) (st' := (28, #[.val (.retAddr 0), .val (.retAddr 0), .val (.int (5 : Int32)), .val (.int b), .val (.ref 0), .unset, .unset, .unset, .unset, .unset, .unset, .unset, .unset, .unset, .unset, .unset, .unset, .unset, .unset, .unset, .unset], [.ref 0], own_h1_5, 8, 37)) hw hK hC opsx rfl)
  exact R5.trans (oReach.mV (CT := oCT) (MT := oMT) (ops := oPx) hw hK opsx (ok3 (l := l) (n0 := n0) hw _ _ _ _ own_c2_5) rfl rfl rfl rfl rfl rfl)
def own_h1_6 : List oObj := [.inl (0, [.ref 1, .ref 2, .ref 3, .ref 4, .ref 5, .ref 6, .ref 7, .int (1 : Int32), .int (1 : Int32)]), .inr (.int, [(1 : Int32), (2 : Int32), (0 : Int32), (3 : Int32)]), .inr (.int, [(2 : Int32), (0 : Int32), (1 : Int32), (3 : Int32)]), .inr (.int, [(0 : Int32), (0 : Int32), (0 : Int32), (0 : Int32)]), .inr (.int, [(0 : Int32), (0 : Int32), (0 : Int32), (0 : Int32)]), .inr (.int, [(4 : Int32), (0 : Int32), (0 : Int32), (0 : Int32)]), .inr (.int, [(2 : Int32), (0 : Int32), (0 : Int32), (0 : Int32)]), .inr (.int, [(0 : Int32), (0 : Int32), (0 : Int32), (0 : Int32)])]
def own_h2_6 : List oObj := [.inl (0, [.ref 1, .ref 2, .ref 3, .ref 4, .ref 5, .ref 6, .ref 7, .int (2 : Int32), .int (0 : Int32)]), .inr (.int, [(1 : Int32), (2 : Int32), (0 : Int32), (3 : Int32)]), .inr (.int, [(2 : Int32), (0 : Int32), (1 : Int32), (3 : Int32)]), .inr (.int, [(0 : Int32), (1 : Int32), (1 : Int32), (0 : Int32)]), .inr (.int, [(2 : Int32), (0 : Int32), (0 : Int32), (0 : Int32)]), .inr (.int, [(4 : Int32), (2 : Int32), (0 : Int32), (0 : Int32)]), .inr (.int, [(0 : Int32), (0 : Int32), (0 : Int32), (0 : Int32)]), .inr (.int, [(0 : Int32), (0 : Int32), (0 : Int32), (0 : Int32)])]
set_option maxRecDepth 65536 in
theorem own_c1_6 : f2 [.ref 0, .int (6 : Int32)] own_h0 = some (none, own_h1_6) := oGives_eq (by decide +kernel)
set_option maxRecDepth 65536 in
theorem own_c2_6 : f3 [.ref 0] own_h1_6 = some (none, own_h2_6) := oGives_eq (by decide +kernel)
set_option maxRecDepth 65536 in
set_option maxHeartbeats 4000000 in
theorem own_p6 (hw : oHw a0 Z) (b : Int32) : oReach l Z n0 oKT oMx (10, #[.val (.retAddr 0), .val (.retAddr 0), .val (.int (6 : Int32)), .val (.int b), .unset, .unset, .unset, .unset, .unset, .unset, .unset, .unset, .unset, .unset, .unset, .unset, .unset, .unset, .unset, .unset, .unset], [], [], 0, 0) (31, #[.val (.retAddr 0), .val (.retAddr 0), .val (.int (6 : Int32)), .val (.int b), .val (.ref 0), .unset, .unset, .unset, .unset, .unset, .unset, .unset, .unset, .unset, .unset, .unset, .unset, .unset, .unset, .unset, .unset], [], own_h2_6, 8, 37) := by
  have hK := oK_ok
  have hC := (fs17 hw : oFsOk l Z n0 oKT oMT [f0, f1, f2, f3, f4, f5, f6, f7, f8, f9, f10, f11, f12, f13, f14, f15, f16]).call
  have R1 := oReach.run (l := l) (n0 := n0) (q := oMx) (CT := oCT) (MT := oMT) (callf := (oCall [f0, f1, f2, f3, f4, f5, f6, f7, f8, f9, f10, f11, f12, f13, f14, f15, f16])) (ops := oPx) (n := 3) (st := (10, #[.val (.retAddr 0), .val (.retAddr 0), .val (.int (6 : Int32)), .val (.int b), .unset, .unset, .unset, .unset, .unset, .unset, .unset, .unset, .unset, .unset, .unset, .unset, .unset, .unset, .unset, .unset, .unset], [], [], 0, 0)) (st' := (15, #[.val (.retAddr 0), .val (.retAddr 0), .val (.int (6 : Int32)), .val (.int b), .unset, .unset, .unset, .unset, .unset, .unset, .unset, .unset, .unset, .unset, .unset, .unset, .unset, .unset, .unset, .unset, .unset], [.int (4 : Int32), .ref 0, .ref 0], [.inl (0, [.null, .null, .null, .null, .null, .null, .null, .int (0 : Int32), .int (0 : Int32)])], 1, 9)) hw hK hC opsx rfl
  have R2 := R1.trans (oReach.mI (CT := oCT) (MT := oMT) (ops := oPx) hw hK opsx (ok0 (l := l) (n0 := n0) hw _ _ _ _ own_c0) rfl (by decide) rfl rfl rfl rfl)
  have R3 := R2.trans (oReach.run (l := l) (n0 := n0) (q := oMx) (CT := oCT) (MT := oMT) (callf := (oCall [f0, f1, f2, f3, f4, f5, f6, f7, f8, f9, f10, f11, f12, f13, f14, f15, f16])) (ops := oPx) (n := 3) (st' := (23, #[.val (.retAddr 0), .val (.retAddr 0), .val (.int (6 : Int32)), .val (.int b), .val (.ref 0), .unset, .unset, .unset, .unset, .unset, .unset, .unset, .unset, .unset, .unset, .unset, .unset, .unset, .unset, .unset, .unset], [.int (6 : Int32), .ref 0], own_h0, 8, 37)) hw hK hC opsx rfl)
  have R4 := R3.trans (oReach.mS (CT := oCT) (MT := oMT) (ops := oPx) hw hK opsx (ok2 (l := l) (n0 := n0) hw _ _ _ _ own_c1_6) rfl (by decide) rfl rfl rfl)
  have R5 := R4.trans (oReach.run (l := l) (n0 := n0) (q := oMx) (CT := oCT) (MT := oMT) (callf := (oCall [f0, f1, f2, f3, f4, f5, f6, f7, f8, f9, f10, f11, f12, f13, f14, f15, f16])) (ops := oPx) (n := 1) (st' := (28, #[.val (.retAddr 0), .val (.retAddr 0), .val (.int (6 : Int32)), .val (.int b), .val (.ref 0), .unset, .unset, .unset, .unset, .unset, .unset, .unset, .unset, .unset, .unset, .unset, .unset, .unset, .unset, .unset, .unset], [.ref 0], own_h1_6, 8, 37)) hw hK hC opsx rfl)
  exact R5.trans (oReach.mV (CT := oCT) (MT := oMT) (ops := oPx) hw hK opsx (ok3 (l := l) (n0 := n0) hw _ _ _ _ own_c2_6) rfl rfl rfl rfl rfl rfl)
def own_h1_7 : List oObj := [.inl (0, [.ref 1, .ref 2, .ref 3, .ref 4, .ref 5, .ref 6, .ref 7, .int (1 : Int32), .int (1 : Int32)]), .inr (.int, [(0 : Int32), (1 : Int32), (2 : Int32), (3 : Int32)]), .inr (.int, [(0 : Int32), (1 : Int32), (2 : Int32), (3 : Int32)]), .inr (.int, [(0 : Int32), (0 : Int32), (0 : Int32), (0 : Int32)]), .inr (.int, [(0 : Int32), (0 : Int32), (0 : Int32), (0 : Int32)]), .inr (.int, [(4 : Int32), (0 : Int32), (0 : Int32), (0 : Int32)]), .inr (.int, [(3 : Int32), (0 : Int32), (0 : Int32), (0 : Int32)]), .inr (.int, [(0 : Int32), (0 : Int32), (0 : Int32), (0 : Int32)])]
def own_h2_7 : List oObj := [.inl (0, [.ref 1, .ref 2, .ref 3, .ref 4, .ref 5, .ref 6, .ref 7, .int (2 : Int32), .int (0 : Int32)]), .inr (.int, [(0 : Int32), (1 : Int32), (2 : Int32), (3 : Int32)]), .inr (.int, [(0 : Int32), (1 : Int32), (2 : Int32), (3 : Int32)]), .inr (.int, [(0 : Int32), (0 : Int32), (0 : Int32), (1 : Int32)]), .inr (.int, [(0 : Int32), (3 : Int32), (0 : Int32), (0 : Int32)]), .inr (.int, [(3 : Int32), (4 : Int32), (0 : Int32), (0 : Int32)]), .inr (.int, [(0 : Int32), (0 : Int32), (0 : Int32), (0 : Int32)]), .inr (.int, [(0 : Int32), (0 : Int32), (0 : Int32), (0 : Int32)])]
set_option maxRecDepth 65536 in
theorem own_c1_7 : f2 [.ref 0, .int (7 : Int32)] own_h0 = some (none, own_h1_7) := oGives_eq (by decide +kernel)
set_option maxRecDepth 65536 in
theorem own_c2_7 : f3 [.ref 0] own_h1_7 = some (none, own_h2_7) := oGives_eq (by decide +kernel)
set_option maxRecDepth 65536 in
set_option maxHeartbeats 4000000 in
theorem own_p7 (hw : oHw a0 Z) (b : Int32) : oReach l Z n0 oKT oMx (10, #[.val (.retAddr 0), .val (.retAddr 0), .val (.int (7 : Int32)), .val (.int b), .unset, .unset, .unset, .unset, .unset, .unset, .unset, .unset, .unset, .unset, .unset, .unset, .unset, .unset, .unset, .unset, .unset], [], [], 0, 0) (31, #[.val (.retAddr 0), .val (.retAddr 0), .val (.int (7 : Int32)), .val (.int b), .val (.ref 0), .unset, .unset, .unset, .unset, .unset, .unset, .unset, .unset, .unset, .unset, .unset, .unset, .unset, .unset, .unset, .unset], [], own_h2_7, 8, 37) := by
  have hK := oK_ok
  have hC := (fs17 hw : oFsOk l Z n0 oKT oMT [f0, f1, f2, f3, f4, f5, f6, f7, f8, f9, f10, f11, f12, f13, f14, f15, f16]).call
  have R1 := oReach.run (l := l) (n0 := n0) (q := oMx) (CT := oCT) (MT := oMT) (callf := (oCall [f0, f1, f2, f3, f4, f5, f6, f7, f8, f9, f10, f11, f12, f13, f14, f15, f16])) (ops := oPx) (n := 3) (st := (10, #[.val (.retAddr 0), .val (.retAddr 0), .val (.int (7 : Int32)), .val (.int b), .unset, .unset, .unset, .unset, .unset, .unset, .unset, .unset, .unset, .unset, .unset, .unset, .unset, .unset, .unset, .unset, .unset], [], [], 0, 0)) (st' := (15, #[.val (.retAddr 0), .val (.retAddr 0), .val (.int (7 : Int32)), .val (.int b), .unset, .unset, .unset, .unset, .unset, .unset, .unset, .unset, .unset, .unset, .unset, .unset, .unset, .unset, .unset, .unset, .unset], [.int (4 : Int32), .ref 0, .ref 0], [.inl (0, [.null, .null, .null, .null, .null, .null, .null, .int (0 : Int32), .int (0 : Int32)])], 1, 9)) hw hK hC opsx rfl
  have R2 := R1.trans (oReach.mI (CT := oCT) (MT := oMT) (ops := oPx) hw hK opsx (ok0 (l := l) (n0 := n0) hw _ _ _ _ own_c0) rfl (by decide) rfl rfl rfl rfl)
  have R3 := R2.trans (oReach.run (l := l) (n0 := n0) (q := oMx) (CT := oCT) (MT := oMT) (callf := (oCall [f0, f1, f2, f3, f4, f5, f6, f7, f8, f9, f10, f11, f12, f13, f14, f15, f16])) (ops := oPx) (n := 3) (st' := (23, #[.val (.retAddr 0), .val (.retAddr 0), .val (.int (7 : Int32)), .val (.int b), .val (.ref 0), .unset, .unset, .unset, .unset, .unset, .unset, .unset, .unset, .unset, .unset, .unset, .unset, .unset, .unset, .unset, .unset], [.int (7 : Int32), .ref 0], own_h0, 8, 37)) hw hK hC opsx rfl)
  have R4 := R3.trans (oReach.mS (CT := oCT) (MT := oMT) (ops := oPx) hw hK opsx (ok2 (l := l) (n0 := n0) hw _ _ _ _ own_c1_7) rfl (by decide) rfl rfl rfl)
  have R5 := R4.trans (oReach.run (l := l) (n0 := n0) (q := oMx) (CT := oCT) (MT := oMT) (callf := (oCall [f0, f1, f2, f3, f4, f5, f6, f7, f8, f9, f10, f11, f12, f13, f14, f15, f16])) (ops := oPx) (n := 1) (st' := (28, #[.val (.retAddr 0), .val (.retAddr 0), .val (.int (7 : Int32)), .val (.int b), .val (.ref 0), .unset, .unset, .unset, .unset, .unset, .unset, .unset, .unset, .unset, .unset, .unset, .unset, .unset, .unset, .unset, .unset], [.ref 0], own_h1_7, 8, 37)) hw hK hC opsx rfl)
  exact R5.trans (oReach.mV (CT := oCT) (MT := oMT) (ops := oPx) hw hK opsx (ok3 (l := l) (n0 := n0) hw _ _ _ _ own_c2_7) rfl rfl rfl rfl rfl rfl)
def own_h1_8 : List oObj := [.inl (0, [.ref 1, .ref 2, .ref 3, .ref 4, .ref 5, .ref 6, .ref 7, .int (1 : Int32), .int (1 : Int32)]), .inr (.int, [(3 : Int32), (1 : Int32), (2 : Int32), (0 : Int32)]), .inr (.int, [(3 : Int32), (1 : Int32), (2 : Int32), (0 : Int32)]), .inr (.int, [(0 : Int32), (0 : Int32), (0 : Int32), (0 : Int32)]), .inr (.int, [(0 : Int32), (0 : Int32), (0 : Int32), (0 : Int32)]), .inr (.int, [(4 : Int32), (0 : Int32), (0 : Int32), (0 : Int32)]), .inr (.int, [(1 : Int32), (0 : Int32), (0 : Int32), (0 : Int32)]), .inr (.int, [(0 : Int32), (0 : Int32), (0 : Int32), (0 : Int32)])]
def own_h2_8 : List oObj := [.inl (0, [.ref 1, .ref 2, .ref 3, .ref 4, .ref 5, .ref 6, .ref 7, .int (2 : Int32), .int (0 : Int32)]), .inr (.int, [(3 : Int32), (1 : Int32), (2 : Int32), (0 : Int32)]), .inr (.int, [(3 : Int32), (1 : Int32), (2 : Int32), (0 : Int32)]), .inr (.int, [(0 : Int32), (0 : Int32), (0 : Int32), (1 : Int32)]), .inr (.int, [(1 : Int32), (0 : Int32), (0 : Int32), (0 : Int32)]), .inr (.int, [(4 : Int32), (1 : Int32), (0 : Int32), (0 : Int32)]), .inr (.int, [(0 : Int32), (0 : Int32), (0 : Int32), (0 : Int32)]), .inr (.int, [(0 : Int32), (0 : Int32), (0 : Int32), (0 : Int32)])]
set_option maxRecDepth 65536 in
theorem own_c1_8 : f2 [.ref 0, .int (8 : Int32)] own_h0 = some (none, own_h1_8) := oGives_eq (by decide +kernel)
set_option maxRecDepth 65536 in
theorem own_c2_8 : f3 [.ref 0] own_h1_8 = some (none, own_h2_8) := oGives_eq (by decide +kernel)
set_option maxRecDepth 65536 in
set_option maxHeartbeats 4000000 in
theorem own_p8 (hw : oHw a0 Z) (b : Int32) : oReach l Z n0 oKT oMx (10, #[.val (.retAddr 0), .val (.retAddr 0), .val (.int (8 : Int32)), .val (.int b), .unset, .unset, .unset, .unset, .unset, .unset, .unset, .unset, .unset, .unset, .unset, .unset, .unset, .unset, .unset, .unset, .unset], [], [], 0, 0) (31, #[.val (.retAddr 0), .val (.retAddr 0), .val (.int (8 : Int32)), .val (.int b), .val (.ref 0), .unset, .unset, .unset, .unset, .unset, .unset, .unset, .unset, .unset, .unset, .unset, .unset, .unset, .unset, .unset, .unset], [], own_h2_8, 8, 37) := by
  have hK := oK_ok
  have hC := (fs17 hw : oFsOk l Z n0 oKT oMT [f0, f1, f2, f3, f4, f5, f6, f7, f8, f9, f10, f11, f12, f13, f14, f15, f16]).call
  have R1 := oReach.run (l := l) (n0 := n0) (q := oMx) (CT := oCT) (MT := oMT) (callf := (oCall [f0, f1, f2, f3, f4, f5, f6, f7, f8, f9, f10, f11, f12, f13, f14, f15, f16])) (ops := oPx) (n := 3) (st := (10, #[.val (.retAddr 0), .val (.retAddr 0), .val (.int (8 : Int32)), .val (.int b), .unset, .unset, .unset, .unset, .unset, .unset, .unset, .unset, .unset, .unset, .unset, .unset, .unset, .unset, .unset, .unset, .unset], [], [], 0, 0)) (st' := (15, #[.val (.retAddr 0), .val (.retAddr 0), .val (.int (8 : Int32)), .val (.int b), .unset, .unset, .unset, .unset, .unset, .unset, .unset, .unset, .unset, .unset, .unset, .unset, .unset, .unset, .unset, .unset, .unset], [.int (4 : Int32), .ref 0, .ref 0], [.inl (0, [.null, .null, .null, .null, .null, .null, .null, .int (0 : Int32), .int (0 : Int32)])], 1, 9)) hw hK hC opsx rfl
  have R2 := R1.trans (oReach.mI (CT := oCT) (MT := oMT) (ops := oPx) hw hK opsx (ok0 (l := l) (n0 := n0) hw _ _ _ _ own_c0) rfl (by decide) rfl rfl rfl rfl)
  have R3 := R2.trans (oReach.run (l := l) (n0 := n0) (q := oMx) (CT := oCT) (MT := oMT) (callf := (oCall [f0, f1, f2, f3, f4, f5, f6, f7, f8, f9, f10, f11, f12, f13, f14, f15, f16])) (ops := oPx) (n := 3) (st' := (23, #[.val (.retAddr 0), .val (.retAddr 0), .val (.int (8 : Int32)), .val (.int b), .val (.ref 0), .unset, .unset, .unset, .unset, .unset, .unset, .unset, .unset, .unset, .unset, .unset, .unset, .unset, .unset, .unset, .unset], [.int (8 : Int32), .ref 0], own_h0, 8, 37)) hw hK hC opsx rfl)
  have R4 := R3.trans (oReach.mS (CT := oCT) (MT := oMT) (ops := oPx) hw hK opsx (ok2 (l := l) (n0 := n0) hw _ _ _ _ own_c1_8) rfl (by decide) rfl rfl rfl)
  have R5 := R4.trans (oReach.run (l := l) (n0 := n0) (q := oMx) (CT := oCT) (MT := oMT) (callf := (oCall [f0, f1, f2, f3, f4, f5, f6, f7, f8, f9, f10, f11, f12, f13, f14, f15, f16])) (ops := oPx) (n := 1) (st' := (28, #[.val (.retAddr 0), .val (.retAddr 0), .val (.int (8 : Int32)), .val (.int b), .val (.ref 0), .unset, .unset, .unset, .unset, .unset, .unset, .unset, .unset, .unset, .unset, .unset, .unset, .unset, .unset, .unset, .unset], [.ref 0], own_h1_8, 8, 37)) hw hK hC opsx rfl)
  exact R5.trans (oReach.mV (CT := oCT) (MT := oMT) (ops := oPx) hw hK opsx (ok3 (l := l) (n0 := n0) hw _ _ _ _ own_c2_8) rfl rfl rfl rfl rfl rfl)
def own_h1_9 : List oObj := [.inl (0, [.ref 1, .ref 2, .ref 3, .ref 4, .ref 5, .ref 6, .ref 7, .int (1 : Int32), .int (1 : Int32)]), .inr (.int, [(0 : Int32), (3 : Int32), (2 : Int32), (1 : Int32)]), .inr (.int, [(0 : Int32), (3 : Int32), (2 : Int32), (1 : Int32)]), .inr (.int, [(0 : Int32), (0 : Int32), (0 : Int32), (0 : Int32)]), .inr (.int, [(0 : Int32), (0 : Int32), (0 : Int32), (0 : Int32)]), .inr (.int, [(4 : Int32), (0 : Int32), (0 : Int32), (0 : Int32)]), .inr (.int, [(2 : Int32), (0 : Int32), (0 : Int32), (0 : Int32)]), .inr (.int, [(0 : Int32), (0 : Int32), (0 : Int32), (0 : Int32)])]
def own_h2_9 : List oObj := [.inl (0, [.ref 1, .ref 2, .ref 3, .ref 4, .ref 5, .ref 6, .ref 7, .int (2 : Int32), .int (0 : Int32)]), .inr (.int, [(0 : Int32), (3 : Int32), (2 : Int32), (1 : Int32)]), .inr (.int, [(0 : Int32), (3 : Int32), (2 : Int32), (1 : Int32)]), .inr (.int, [(1 : Int32), (0 : Int32), (0 : Int32), (1 : Int32)]), .inr (.int, [(2 : Int32), (0 : Int32), (0 : Int32), (0 : Int32)]), .inr (.int, [(4 : Int32), (2 : Int32), (0 : Int32), (0 : Int32)]), .inr (.int, [(0 : Int32), (0 : Int32), (0 : Int32), (0 : Int32)]), .inr (.int, [(0 : Int32), (0 : Int32), (0 : Int32), (0 : Int32)])]
set_option maxRecDepth 65536 in
theorem own_c1_9 : f2 [.ref 0, .int (9 : Int32)] own_h0 = some (none, own_h1_9) := oGives_eq (by decide +kernel)
set_option maxRecDepth 65536 in
theorem own_c2_9 : f3 [.ref 0] own_h1_9 = some (none, own_h2_9) := oGives_eq (by decide +kernel)
set_option maxRecDepth 65536 in
set_option maxHeartbeats 4000000 in
theorem own_p9 (hw : oHw a0 Z) (b : Int32) : oReach l Z n0 oKT oMx (10, #[.val (.retAddr 0), .val (.retAddr 0), .val (.int (9 : Int32)), .val (.int b), .unset, .unset, .unset, .unset, .unset, .unset, .unset, .unset, .unset, .unset, .unset, .unset, .unset, .unset, .unset, .unset, .unset], [], [], 0, 0) (31, #[.val (.retAddr 0), .val (.retAddr 0), .val (.int (9 : Int32)), .val (.int b), .val (.ref 0), .unset, .unset, .unset, .unset, .unset, .unset, .unset, .unset, .unset, .unset, .unset, .unset, .unset, .unset, .unset, .unset], [], own_h2_9, 8, 37) := by
  have hK := oK_ok
  have hC := (fs17 hw : oFsOk l Z n0 oKT oMT [f0, f1, f2, f3, f4, f5, f6, f7, f8, f9, f10, f11, f12, f13, f14, f15, f16]).call
  have R1 := oReach.run (l := l) (n0 := n0) (q := oMx) (CT := oCT) (MT := oMT) (callf := (oCall [f0, f1, f2, f3, f4, f5, f6, f7, f8, f9, f10, f11, f12, f13, f14, f15, f16])) (ops := oPx) (n := 3) (st := (10, #[.val (.retAddr 0), .val (.retAddr 0), .val (.int (9 : Int32)), .val (.int b), .unset, .unset, .unset, .unset, .unset, .unset, .unset, .unset, .unset, .unset, .unset, .unset, .unset, .unset, .unset, .unset, .unset], [], [], 0, 0)) (st' := (15, #[.val (.retAddr 0), .val (.retAddr 0), .val (.int (9 : Int32)), .val (.int b), .unset, .unset, .unset, .unset, .unset, .unset, .unset, .unset, .unset, .unset, .unset, .unset, .unset, .unset, .unset, .unset, .unset], [.int (4 : Int32), .ref 0, .ref 0], [.inl (0, [.null, .null, .null, .null, .null, .null, .null, .int (0 : Int32), .int (0 : Int32)])], 1, 9)) hw hK hC opsx rfl
  have R2 := R1.trans (oReach.mI (CT := oCT) (MT := oMT) (ops := oPx) hw hK opsx (ok0 (l := l) (n0 := n0) hw _ _ _ _ own_c0) rfl (by decide) rfl rfl rfl rfl)
  have R3 := R2.trans (oReach.run (l := l) (n0 := n0) (q := oMx) (CT := oCT) (MT := oMT) (callf := (oCall [f0, f1, f2, f3, f4, f5, f6, f7, f8, f9, f10, f11, f12, f13, f14, f15, f16])) (ops := oPx) (n := 3) (st' := (23, #[.val (.retAddr 0), .val (.retAddr 0), .val (.int (9 : Int32)), .val (.int b), .val (.ref 0), .unset, .unset, .unset, .unset, .unset, .unset, .unset, .unset, .unset, .unset, .unset, .unset, .unset, .unset, .unset, .unset], [.int (9 : Int32), .ref 0], own_h0, 8, 37)) hw hK hC opsx rfl)
  have R4 := R3.trans (oReach.mS (CT := oCT) (MT := oMT) (ops := oPx) hw hK opsx (ok2 (l := l) (n0 := n0) hw _ _ _ _ own_c1_9) rfl (by decide) rfl rfl rfl)
  have R5 := R4.trans (oReach.run (l := l) (n0 := n0) (q := oMx) (CT := oCT) (MT := oMT) (callf := (oCall [f0, f1, f2, f3, f4, f5, f6, f7, f8, f9, f10, f11, f12, f13, f14, f15, f16])) (ops := oPx) (n := 1) (st' := (28, #[.val (.retAddr 0), .val (.retAddr 0), .val (.int (9 : Int32)), .val (.int b), .val (.ref 0), .unset, .unset, .unset, .unset, .unset, .unset, .unset, .unset, .unset, .unset, .unset, .unset, .unset, .unset, .unset, .unset], [.ref 0], own_h1_9, 8, 37)) hw hK hC opsx rfl)
  exact R5.trans (oReach.mV (CT := oCT) (MT := oMT) (ops := oPx) hw hK opsx (ok3 (l := l) (n0 := n0) hw _ _ _ _ own_c2_9) rfl rfl rfl rfl rfl rfl)
def own_h1_10 : List oObj := [.inl (0, [.ref 1, .ref 2, .ref 3, .ref 4, .ref 5, .ref 6, .ref 7, .int (1 : Int32), .int (1 : Int32)]), .inr (.int, [(1 : Int32), (3 : Int32), (2 : Int32), (0 : Int32)]), .inr (.int, [(3 : Int32), (0 : Int32), (2 : Int32), (1 : Int32)]), .inr (.int, [(0 : Int32), (0 : Int32), (0 : Int32), (0 : Int32)]), .inr (.int, [(0 : Int32), (0 : Int32), (0 : Int32), (0 : Int32)]), .inr (.int, [(4 : Int32), (0 : Int32), (0 : Int32), (0 : Int32)]), .inr (.int, [(2 : Int32), (0 : Int32), (0 : Int32), (0 : Int32)]), .inr (.int, [(0 : Int32), (0 : Int32), (0 : Int32), (0 : Int32)])]
def own_h2_10 : List oObj := [.inl (0, [.ref 1, .ref 2, .ref 3, .ref 4, .ref 5, .ref 6, .ref 7, .int (2 : Int32), .int (0 : Int32)]), .inr (.int, [(1 : Int32), (3 : Int32), (2 : Int32), (0 : Int32)]), .inr (.int, [(3 : Int32), (0 : Int32), (2 : Int32), (1 : Int32)]), .inr (.int, [(0 : Int32), (1 : Int32), (0 : Int32), (1 : Int32)]), .inr (.int, [(2 : Int32), (0 : Int32), (0 : Int32), (0 : Int32)]), .inr (.int, [(4 : Int32), (2 : Int32), (0 : Int32), (0 : Int32)]), .inr (.int, [(0 : Int32), (0 : Int32), (0 : Int32), (0 : Int32)]), .inr (.int, [(0 : Int32), (0 : Int32), (0 : Int32), (0 : Int32)])]
set_option maxRecDepth 65536 in
theorem own_c1_10 : f2 [.ref 0, .int (10 : Int32)] own_h0 = some (none, own_h1_10) := oGives_eq (by decide +kernel)
set_option maxRecDepth 65536 in
theorem own_c2_10 : f3 [.ref 0] own_h1_10 = some (none, own_h2_10) := oGives_eq (by decide +kernel)
set_option maxRecDepth 65536 in
set_option maxHeartbeats 4000000 in
theorem own_p10 (hw : oHw a0 Z) (b : Int32) : oReach l Z n0 oKT oMx (10, #[.val (.retAddr 0), .val (.retAddr 0), .val (.int (10 : Int32)), .val (.int b), .unset, .unset, .unset, .unset, .unset, .unset, .unset, .unset, .unset, .unset, .unset, .unset, .unset, .unset, .unset, .unset, .unset], [], [], 0, 0) (31, #[.val (.retAddr 0), .val (.retAddr 0), .val (.int (10 : Int32)), .val (.int b), .val (.ref 0), .unset, .unset, .unset, .unset, .unset, .unset, .unset, .unset, .unset, .unset, .unset, .unset, .unset, .unset, .unset, .unset], [], own_h2_10, 8, 37) := by
  have hK := oK_ok
  have hC := (fs17 hw : oFsOk l Z n0 oKT oMT [f0, f1, f2, f3, f4, f5, f6, f7, f8, f9, f10, f11, f12, f13, f14, f15, f16]).call
  have R1 := oReach.run (l := l) (n0 := n0) (q := oMx) (CT := oCT) (MT := oMT) (callf := (oCall [f0, f1, f2, f3, f4, f5, f6, f7, f8, f9, f10, f11, f12, f13, f14, f15, f16])) (ops := oPx) (n := 3) (st := (10, #[.val (.retAddr 0), .val (.retAddr 0), .val (.int (10 : Int32)), .val (.int b), .unset, .unset, .unset, .unset, .unset, .unset, .unset, .unset, .unset, .unset, .unset, .unset, .unset, .unset, .unset, .unset, .unset], [], [], 0, 0)) (st' := (15, #[.val (.retAddr 0), .val (.retAddr 0), .val (.int (10 : Int32)), .val (.int b), .unset, .unset, .unset, .unset, .unset, .unset, .unset, .unset, .unset, .unset, .unset, .unset, .unset, .unset, .unset, .unset, .unset], [.int (4 : Int32), .ref 0, .ref 0], [.inl (0, [.null, .null, .null, .null, .null, .null, .null, .int (0 : Int32), .int (0 : Int32)])], 1, 9)) hw hK hC opsx rfl
  have R2 := R1.trans (oReach.mI (CT := oCT) (MT := oMT) (ops := oPx) hw hK opsx (ok0 (l := l) (n0 := n0) hw _ _ _ _ own_c0) rfl (by decide) rfl rfl rfl rfl)
  have R3 := R2.trans (oReach.run (l := l) (n0 := n0) (q := oMx) (CT := oCT) (MT := oMT) (callf := (oCall [f0, f1, f2, f3, f4, f5, f6, f7, f8, f9, f10, f11, f12, f13, f14, f15, f16])) (ops := oPx) (n := 3) (st' := (23, #[.val (.retAddr 0), .val (.retAddr 0), .val (.int (10 : Int32)), .val (.int b), .val (.ref 0), .unset, .unset, .unset, .unset, .unset, .unset, .unset, .unset, .unset, .unset, .unset, .unset, .unset, .unset, .unset, .unset], [.int (10 : Int32), .ref 0], own_h0, 8, 37)) hw hK hC opsx rfl)
  have R4 := R3.trans (oReach.mS (CT := oCT) (MT := oMT) (ops := oPx) hw hK opsx (ok2 (l := l) (n0 := n0) hw _ _ _ _ own_c1_10) rfl (by decide) rfl rfl rfl)
  have R5 := R4.trans (oReach.run (l := l) (n0 := n0) (q := oMx) (CT := oCT) (MT := oMT) (callf := (oCall [f0, f1, f2, f3, f4, f5, f6, f7, f8, f9, f10, f11, f12, f13, f14, f15, f16])) (ops := oPx) (n := 1) (st' := (28, #[.val (.retAddr 0), .val (.retAddr 0), .val (.int (10 : Int32)), .val (.int b), .val (.ref 0), .unset, .unset, .unset, .unset, .unset, .unset, .unset, .unset, .unset, .unset, .unset, .unset, .unset, .unset, .unset, .unset], [.ref 0], own_h1_10, 8, 37)) hw hK hC opsx rfl)
  exact R5.trans (oReach.mV (CT := oCT) (MT := oMT) (ops := oPx) hw hK opsx (ok3 (l := l) (n0 := n0) hw _ _ _ _ own_c2_10) rfl rfl rfl rfl rfl rfl)
def own_h1_11 : List oObj := [.inl (0, [.ref 1, .ref 2, .ref 3, .ref 4, .ref 5, .ref 6, .ref 7, .int (1 : Int32), .int (1 : Int32)]), .inr (.int, [(0 : Int32), (1 : Int32), (3 : Int32), (2 : Int32)]), .inr (.int, [(0 : Int32), (1 : Int32), (3 : Int32), (2 : Int32)]), .inr (.int, [(0 : Int32), (0 : Int32), (0 : Int32), (0 : Int32)]), .inr (.int, [(0 : Int32), (0 : Int32), (0 : Int32), (0 : Int32)]), .inr (.int, [(4 : Int32), (0 : Int32), (0 : Int32), (0 : Int32)]), .inr (.int, [(3 : Int32), (0 : Int32), (0 : Int32), (0 : Int32)]), .inr (.int, [(0 : Int32), (0 : Int32), (0 : Int32), (0 : Int32)])]
def own_h2_11 : List oObj := [.inl (0, [.ref 1, .ref 2, .ref 3, .ref 4, .ref 5, .ref 6, .ref 7, .int (2 : Int32), .int (0 : Int32)]), .inr (.int, [(0 : Int32), (1 : Int32), (3 : Int32), (2 : Int32)]), .inr (.int, [(0 : Int32), (1 : Int32), (3 : Int32), (2 : Int32)]), .inr (.int, [(0 : Int32), (0 : Int32), (1 : Int32), (0 : Int32)]), .inr (.int, [(0 : Int32), (3 : Int32), (0 : Int32), (0 : Int32)]), .inr (.int, [(3 : Int32), (4 : Int32), (0 : Int32), (0 : Int32)]), .inr (.int, [(0 : Int32), (0 : Int32), (0 : Int32), (0 : Int32)]), .inr (.int, [(0 : Int32), (0 : Int32), (0 : Int32), (0 : Int32)])]
set_option maxRecDepth 65536 in
theorem own_c1_11 : f2 [.ref 0, .int (11 : Int32)] own_h0 = some (none, own_h1_11) := oGives_eq (by decide +kernel)
set_option maxRecDepth 65536 in
theorem own_c2_11 : f3 [.ref 0] own_h1_11 = some (none, own_h2_11) := oGives_eq (by decide +kernel)
set_option maxRecDepth 65536 in
set_option maxHeartbeats 4000000 in
theorem own_p11 (hw : oHw a0 Z) (b : Int32) : oReach l Z n0 oKT oMx (10, #[.val (.retAddr 0), .val (.retAddr 0), .val (.int (11 : Int32)), .val (.int b), .unset, .unset, .unset, .unset, .unset, .unset, .unset, .unset, .unset, .unset, .unset, .unset, .unset, .unset, .unset, .unset, .unset], [], [], 0, 0) (31, #[.val (.retAddr 0), .val (.retAddr 0), .val (.int (11 : Int32)), .val (.int b), .val (.ref 0), .unset, .unset, .unset, .unset, .unset, .unset, .unset, .unset, .unset, .unset, .unset, .unset, .unset, .unset, .unset, .unset], [], own_h2_11, 8, 37) := by
  have hK := oK_ok
  have hC := (fs17 hw : oFsOk l Z n0 oKT oMT [f0, f1, f2, f3, f4, f5, f6, f7, f8, f9, f10, f11, f12, f13, f14, f15, f16]).call
  have R1 := oReach.run (l := l) (n0 := n0) (q := oMx) (CT := oCT) (MT := oMT) (callf := (oCall [f0, f1, f2, f3, f4, f5, f6, f7, f8, f9, f10, f11, f12, f13, f14, f15, f16])) (ops := oPx) (n := 3) (st := (10, #[.val (.retAddr 0), .val (.retAddr 0), .val (.int (11 : Int32)), .val (.int b), .unset, .unset, .unset, .unset, .unset, .unset, .unset, .unset, .unset, .unset, .unset, .unset, .unset, .unset, .unset, .unset, .unset], [], [], 0, 0)) (st' := (15, #[.val (.retAddr 0), .val (.retAddr 0), .val (.int (11 : Int32)), .val (.int b), .unset, .unset, .unset, .unset, .unset, .unset, .unset, .unset, .unset, .unset, .unset, .unset, .unset, .unset, .unset, .unset, .unset], [.int (4 : Int32), .ref 0, .ref 0], [.inl (0, [.null, .null, .null, .null, .null, .null, .null, .int (0 : Int32), .int (0 : Int32)])], 1, 9)) hw hK hC opsx rfl
  have R2 := R1.trans (oReach.mI (CT := oCT) (MT := oMT) (ops := oPx) hw hK opsx (ok0 (l := l) (n0 := n0) hw _ _ _ _ own_c0) rfl (by decide) rfl rfl rfl rfl)
  have R3 := R2.trans (oReach.run (l := l) (n0 := n0) (q := oMx) (CT := oCT) (MT := oMT) (callf := (oCall [f0, f1, f2, f3, f4, f5, f6, f7, f8, f9, f10, f11, f12, f13, f14, f15, f16])) (ops := oPx) (n := 3) (st' := (23, #[.val (.retAddr 0), .val (.retAddr 0), .val (.int (11 : Int32)), .val (.int b), .val (.ref 0), .unset, .unset, .unset, .unset, .unset, .unset, .unset, .unset, .unset, .unset, .unset, .unset, .unset, .unset, .unset, .unset], [.int (11 : Int32), .ref 0], own_h0, 8, 37)) hw hK hC opsx rfl)
  have R4 := R3.trans (oReach.mS (CT := oCT) (MT := oMT) (ops := oPx) hw hK opsx (ok2 (l := l) (n0 := n0) hw _ _ _ _ own_c1_11) rfl (by decide) rfl rfl rfl)
  have R5 := R4.trans (oReach.run (l := l) (n0 := n0) (q := oMx) (CT := oCT) (MT := oMT) (callf := (oCall [f0, f1, f2, f3, f4, f5, f6, f7, f8, f9, f10, f11, f12, f13, f14, f15, f16])) (ops := oPx) (n := 1) (st' := (28, #[.val (.retAddr 0), .val (.retAddr 0), .val (.int (11 : Int32)), .val (.int b), .val (.ref 0), .unset, .unset, .unset, .unset, .unset, .unset, .unset, .unset, .unset, .unset, .unset, .unset, .unset, .unset, .unset, .unset], [.ref 0], own_h1_11, 8, 37)) hw hK hC opsx rfl)
  exact R5.trans (oReach.mV (CT := oCT) (MT := oMT) (ops := oPx) hw hK opsx (ok3 (l := l) (n0 := n0) hw _ _ _ _ own_c2_11) rfl rfl rfl rfl rfl rfl)
def own_h1_12 : List oObj := [.inl (0, [.ref 1, .ref 2, .ref 3, .ref 4, .ref 5, .ref 6, .ref 7, .int (1 : Int32), .int (1 : Int32)]), .inr (.int, [(2 : Int32), (3 : Int32), (0 : Int32), (1 : Int32)]), .inr (.int, [(2 : Int32), (3 : Int32), (0 : Int32), (1 : Int32)]), .inr (.int, [(0 : Int32), (0 : Int32), (0 : Int32), (0 : Int32)]), .inr (.int, [(0 : Int32), (0 : Int32), (0 : Int32), (0 : Int32)]), .inr (.int, [(4 : Int32), (0 : Int32), (0 : Int32), (0 : Int32)]), .inr (.int, [(2 : Int32), (0 : Int32), (0 : Int32), (0 : Int32)]), .inr (.int, [(0 : Int32), (0 : Int32), (0 : Int32), (0 : Int32)])]
def own_h2_12 : List oObj := [.inl (0, [.ref 1, .ref 2, .ref 3, .ref 4, .ref 5, .ref 6, .ref 7, .int (2 : Int32), .int (0 : Int32)]), .inr (.int, [(2 : Int32), (3 : Int32), (0 : Int32), (1 : Int32)]), .inr (.int, [(2 : Int32), (3 : Int32), (0 : Int32), (1 : Int32)]), .inr (.int, [(0 : Int32), (0 : Int32), (1 : Int32), (1 : Int32)]), .inr (.int, [(2 : Int32), (0 : Int32), (0 : Int32), (0 : Int32)]), .inr (.int, [(4 : Int32), (2 : Int32), (0 : Int32), (0 : Int32)]), .inr (.int, [(0 : Int32), (0 : Int32), (0 : Int32), (0 : Int32)]), .inr (.int, [(0 : Int32), (0 : Int32), (0 : Int32), (0 : Int32)])]
set_option maxRecDepth 65536 in
theorem own_c1_12 : f2 [.ref 0, .int (12 : Int32)] own_h0 = some (none, own_h1_12) := oGives_eq (by decide +kernel)
set_option maxRecDepth 65536 in
theorem own_c2_12 : f3 [.ref 0] own_h1_12 = some (none, own_h2_12) := oGives_eq (by decide +kernel)
set_option maxRecDepth 65536 in
set_option maxHeartbeats 4000000 in
theorem own_p12 (hw : oHw a0 Z) (b : Int32) : oReach l Z n0 oKT oMx (10, #[.val (.retAddr 0), .val (.retAddr 0), .val (.int (12 : Int32)), .val (.int b), .unset, .unset, .unset, .unset, .unset, .unset, .unset, .unset, .unset, .unset, .unset, .unset, .unset, .unset, .unset, .unset, .unset], [], [], 0, 0) (31, #[.val (.retAddr 0), .val (.retAddr 0), .val (.int (12 : Int32)), .val (.int b), .val (.ref 0), .unset, .unset, .unset, .unset, .unset, .unset, .unset, .unset, .unset, .unset, .unset, .unset, .unset, .unset, .unset, .unset], [], own_h2_12, 8, 37) := by
  have hK := oK_ok
  have hC := (fs17 hw : oFsOk l Z n0 oKT oMT [f0, f1, f2, f3, f4, f5, f6, f7, f8, f9, f10, f11, f12, f13, f14, f15, f16]).call
  have R1 := oReach.run (l := l) (n0 := n0) (q := oMx) (CT := oCT) (MT := oMT) (callf := (oCall [f0, f1, f2, f3, f4, f5, f6, f7, f8, f9, f10, f11, f12, f13, f14, f15, f16])) (ops := oPx) (n := 3) (st := (10, #[.val (.retAddr 0), .val (.retAddr 0), .val (.int (12 : Int32)), .val (.int b), .unset, .unset, .unset, .unset, .unset, .unset, .unset, .unset, .unset, .unset, .unset, .unset, .unset, .unset, .unset, .unset, .unset], [], [], 0, 0)) (st' := (15, #[.val (.retAddr 0), .val (.retAddr 0), .val (.int (12 : Int32)), .val (.int b), .unset, .unset, .unset, .unset, .unset, .unset, .unset, .unset, .unset, .unset, .unset, .unset, .unset, .unset, .unset, .unset, .unset], [.int (4 : Int32), .ref 0, .ref 0], [.inl (0, [.null, .null, .null, .null, .null, .null, .null, .int (0 : Int32), .int (0 : Int32)])], 1, 9)) hw hK hC opsx rfl
  have R2 := R1.trans (oReach.mI (CT := oCT) (MT := oMT) (ops := oPx) hw hK opsx (ok0 (l := l) (n0 := n0) hw _ _ _ _ own_c0) rfl (by decide) rfl rfl rfl rfl)
  have R3 := R2.trans (oReach.run (l := l) (n0 := n0) (q := oMx) (CT := oCT) (MT := oMT) (callf := (oCall [f0, f1, f2, f3, f4, f5, f6, f7, f8, f9, f10, f11, f12, f13, f14, f15, f16])) (ops := oPx) (n := 3) (st' := (23, #[.val (.retAddr 0), .val (.retAddr 0), .val (.int (12 : Int32)), .val (.int b), .val (.ref 0), .unset, .unset, .unset, .unset, .unset, .unset, .unset, .unset, .unset, .unset, .unset, .unset, .unset, .unset, .unset, .unset], [.int (12 : Int32), .ref 0], own_h0, 8, 37)) hw hK hC opsx rfl)
  have R4 := R3.trans (oReach.mS (CT := oCT) (MT := oMT) (ops := oPx) hw hK opsx (ok2 (l := l) (n0 := n0) hw _ _ _ _ own_c1_12) rfl (by decide) rfl rfl rfl)
  have R5 := R4.trans (oReach.run (l := l) (n0 := n0) (q := oMx) (CT := oCT) (MT := oMT) (callf := (oCall [f0, f1, f2, f3, f4, f5, f6, f7, f8, f9, f10, f11, f12, f13, f14, f15, f16])) (ops := oPx) (n := 1) (st' := (28, #[.val (.retAddr 0), .val (.retAddr 0), .val (.int (12 : Int32)), .val (.int b), .val (.ref 0), .unset, .unset, .unset, .unset, .unset, .unset, .unset, .unset, .unset, .unset, .unset, .unset, .unset, .unset, .unset, .unset], [.ref 0], own_h1_12, 8, 37)) hw hK hC opsx rfl)
  exact R5.trans (oReach.mV (CT := oCT) (MT := oMT) (ops := oPx) hw hK opsx (ok3 (l := l) (n0 := n0) hw _ _ _ _ own_c2_12) rfl rfl rfl rfl rfl rfl)
def own_h1_13 : List oObj := [.inl (0, [.ref 1, .ref 2, .ref 3, .ref 4, .ref 5, .ref 6, .ref 7, .int (1 : Int32), .int (1 : Int32)]), .inr (.int, [(0 : Int32), (2 : Int32), (3 : Int32), (1 : Int32)]), .inr (.int, [(0 : Int32), (3 : Int32), (1 : Int32), (2 : Int32)]), .inr (.int, [(0 : Int32), (0 : Int32), (0 : Int32), (0 : Int32)]), .inr (.int, [(0 : Int32), (0 : Int32), (0 : Int32), (0 : Int32)]), .inr (.int, [(4 : Int32), (0 : Int32), (0 : Int32), (0 : Int32)]), .inr (.int, [(3 : Int32), (0 : Int32), (0 : Int32), (0 : Int32)]), .inr (.int, [(0 : Int32), (0 : Int32), (0 : Int32), (0 : Int32)])]
def own_h2_13 : List oObj := [.inl (0, [.ref 1, .ref 2, .ref 3, .ref 4, .ref 5, .ref 6, .ref 7, .int (2 : Int32), .int (0 : Int32)]), .inr (.int, [(0 : Int32), (2 : Int32), (3 : Int32), (1 : Int32)]), .inr (.int, [(0 : Int32), (3 : Int32), (1 : Int32), (2 : Int32)]), .inr (.int, [(0 : Int32), (1 : Int32), (0 : Int32), (0 : Int32)]), .inr (.int, [(0 : Int32), (3 : Int32), (0 : Int32), (0 : Int32)]), .inr (.int, [(3 : Int32), (4 : Int32), (0 : Int32), (0 : Int32)]), .inr (.int, [(0 : Int32), (0 : Int32), (0 : Int32), (0 : Int32)]), .inr (.int, [(0 : Int32), (0 : Int32), (0 : Int32), (0 : Int32)])]
set_option maxRecDepth 65536 in
theorem own_c1_13 : f2 [.ref 0, .int (13 : Int32)] own_h0 = some (none, own_h1_13) := oGives_eq (by decide +kernel)
set_option maxRecDepth 65536 in
theorem own_c2_13 : f3 [.ref 0] own_h1_13 = some (none, own_h2_13) := oGives_eq (by decide +kernel)
set_option maxRecDepth 65536 in
set_option maxHeartbeats 4000000 in
theorem own_p13 (hw : oHw a0 Z) (b : Int32) : oReach l Z n0 oKT oMx (10, #[.val (.retAddr 0), .val (.retAddr 0), .val (.int (13 : Int32)), .val (.int b), .unset, .unset, .unset, .unset, .unset, .unset, .unset, .unset, .unset, .unset, .unset, .unset, .unset, .unset, .unset, .unset, .unset], [], [], 0, 0) (31, #[.val (.retAddr 0), .val (.retAddr 0), .val (.int (13 : Int32)), .val (.int b), .val (.ref 0), .unset, .unset, .unset, .unset, .unset, .unset, .unset, .unset, .unset, .unset, .unset, .unset, .unset, .unset, .unset, .unset], [], own_h2_13, 8, 37) := by
  have hK := oK_ok
  have hC := (fs17 hw : oFsOk l Z n0 oKT oMT [f0, f1, f2, f3, f4, f5, f6, f7, f8, f9, f10, f11, f12, f13, f14, f15, f16]).call
  have R1 := oReach.run (l := l) (n0 := n0) (q := oMx) (CT := oCT) (MT := oMT) (callf := (oCall [f0, f1, f2, f3, f4, f5, f6, f7, f8, f9, f10, f11, f12, f13, f14, f15, f16])) (ops := oPx) (n := 3) (st := (10, #[.val (.retAddr 0), .val (.retAddr 0), .val (.int (13 : Int32)), .val (.int b), .unset, .unset, .unset, .unset, .unset, .unset, .unset, .unset, .unset, .unset, .unset, .unset, .unset, .unset, .unset, .unset, .unset], [], [], 0, 0)) (st' := (15, #[.val (.retAddr 0), .val (.retAddr 0), .val (.int (13 : Int32)), .val (.int b), .unset, .unset, .unset, .unset, .unset, .unset, .unset, .unset, .unset, .unset, .unset, .unset, .unset, .unset, .unset, .unset, .unset], [.int (4 : Int32), .ref 0, .ref 0], [.inl (0, [.null, .null, .null, .null, .null, .null, .null, .int (0 : Int32), .int (0 : Int32)])], 1, 9)) hw hK hC opsx rfl
  have R2 := R1.trans (oReach.mI (CT := oCT) (MT := oMT) (ops := oPx) hw hK opsx (ok0 (l := l) (n0 := n0) hw _ _ _ _ own_c0) rfl (by decide) rfl rfl rfl rfl)
  have R3 := R2.trans (oReach.run (l := l) (n0 := n0) (q := oMx) (CT := oCT) (MT := oMT) (callf := (oCall [f0, f1, f2, f3, f4, f5, f6, f7, f8, f9, f10, f11, f12, f13, f14, f15, f16])) (ops := oPx) (n := 3) (st' := (23, #[.val (.retAddr 0), .val (.retAddr 0), .val (.int (13 : Int32)), .val (.int b), .val (.ref 0), .unset, .unset, .unset, .unset, .unset, .unset, .unset, .unset, .unset, .unset, .unset, .unset, .unset, .unset, .unset, .unset], [.int (13 : Int32), .ref 0], own_h0, 8, 37)) hw hK hC opsx rfl)
  have R4 := R3.trans (oReach.mS (CT := oCT) (MT := oMT) (ops := oPx) hw hK opsx (ok2 (l := l) (n0 := n0) hw _ _ _ _ own_c1_13) rfl (by decide) rfl rfl rfl)
  have R5 := R4.trans (oReach.run (l := l) (n0 := n0) (q := oMx) (CT := oCT) (MT := oMT) (callf := (oCall [f0, f1, f2, f3, f4, f5, f6, f7, f8, f9, f10, f11, f12, f13, f14, f15, f16])) (ops := oPx) (n := 1) (st' := (28, #[.val (.retAddr 0), .val (.retAddr 0), .val (.int (13 : Int32)), .val (.int b), .val (.ref 0), .unset, .unset, .unset, .unset, .unset, .unset, .unset, .unset, .unset, .unset, .unset, .unset, .unset, .unset, .unset, .unset], [.ref 0], own_h1_13, 8, 37)) hw hK hC opsx rfl)
  exact R5.trans (oReach.mV (CT := oCT) (MT := oMT) (ops := oPx) hw hK opsx (ok3 (l := l) (n0 := n0) hw _ _ _ _ own_c2_13) rfl rfl rfl rfl rfl rfl)
def own_h1_14 : List oObj := [.inl (0, [.ref 1, .ref 2, .ref 3, .ref 4, .ref 5, .ref 6, .ref 7, .int (1 : Int32), .int (1 : Int32)]), .inr (.int, [(1 : Int32), (2 : Int32), (3 : Int32), (0 : Int32)]), .inr (.int, [(3 : Int32), (0 : Int32), (1 : Int32), (2 : Int32)]), .inr (.int, [(0 : Int32), (0 : Int32), (0 : Int32), (0 : Int32)]), .inr (.int, [(0 : Int32), (0 : Int32), (0 : Int32), (0 : Int32)]), .inr (.int, [(4 : Int32), (0 : Int32), (0 : Int32), (0 : Int32)]), .inr (.int, [(3 : Int32), (0 : Int32), (0 : Int32), (0 : Int32)]), .inr (.int, [(0 : Int32), (0 : Int32), (0 : Int32), (0 : Int32)])]
def own_h2_14 : List oObj := [.inl (0, [.ref 1, .ref 2, .ref 3, .ref 4, .ref 5, .ref 6, .ref 7, .int (2 : Int32), .int (0 : Int32)]), .inr (.int, [(1 : Int32), (2 : Int32), (3 : Int32), (0 : Int32)]), .inr (.int, [(3 : Int32), (0 : Int32), (1 : Int32), (2 : Int32)]), .inr (.int, [(1 : Int32), (0 : Int32), (0 : Int32), (0 : Int32)]), .inr (.int, [(0 : Int32), (3 : Int32), (0 : Int32), (0 : Int32)]), .inr (.int, [(3 : Int32), (4 : Int32), (0 : Int32), (0 : Int32)]), .inr (.int, [(0 : Int32), (0 : Int32), (0 : Int32), (0 : Int32)]), .inr (.int, [(0 : Int32), (0 : Int32), (0 : Int32), (0 : Int32)])]
set_option maxRecDepth 65536 in
theorem own_c1_14 : f2 [.ref 0, .int (14 : Int32)] own_h0 = some (none, own_h1_14) := oGives_eq (by decide +kernel)
set_option maxRecDepth 65536 in
theorem own_c2_14 : f3 [.ref 0] own_h1_14 = some (none, own_h2_14) := oGives_eq (by decide +kernel)
set_option maxRecDepth 65536 in
set_option maxHeartbeats 4000000 in
theorem own_p14 (hw : oHw a0 Z) (b : Int32) : oReach l Z n0 oKT oMx (10, #[.val (.retAddr 0), .val (.retAddr 0), .val (.int (14 : Int32)), .val (.int b), .unset, .unset, .unset, .unset, .unset, .unset, .unset, .unset, .unset, .unset, .unset, .unset, .unset, .unset, .unset, .unset, .unset], [], [], 0, 0) (31, #[.val (.retAddr 0), .val (.retAddr 0), .val (.int (14 : Int32)), .val (.int b), .val (.ref 0), .unset, .unset, .unset, .unset, .unset, .unset, .unset, .unset, .unset, .unset, .unset, .unset, .unset, .unset, .unset, .unset], [], own_h2_14, 8, 37) := by
  have hK := oK_ok
  have hC := (fs17 hw : oFsOk l Z n0 oKT oMT [f0, f1, f2, f3, f4, f5, f6, f7, f8, f9, f10, f11, f12, f13, f14, f15, f16]).call
  have R1 := oReach.run (l := l) (n0 := n0) (q := oMx) (CT := oCT) (MT := oMT) (callf := (oCall [f0, f1, f2, f3, f4, f5, f6, f7, f8, f9, f10, f11, f12, f13, f14, f15, f16])) (ops := oPx) (n := 3) (st := (10, #[.val (.retAddr 0), .val (.retAddr 0), .val (.int (14 : Int32)), .val (.int b), .unset, .unset, .unset, .unset, .unset, .unset, .unset, .unset, .unset, .unset, .unset, .unset, .unset, .unset, .unset, .unset, .unset], [], [], 0, 0)) (st' := (15, #[.val (.retAddr 0), .val (.retAddr 0), .val (.int (14 : Int32)), .val (.int b), .unset, .unset, .unset, .unset, .unset, .unset, .unset, .unset, .unset, .unset, .unset, .unset, .unset, .unset, .unset, .unset, .unset], [.int (4 : Int32), .ref 0, .ref 0], [.inl (0, [.null, .null, .null, .null, .null, .null, .null, .int (0 : Int32), .int (0 : Int32)])], 1, 9)) hw hK hC opsx rfl
  have R2 := R1.trans (oReach.mI (CT := oCT) (MT := oMT) (ops := oPx) hw hK opsx (ok0 (l := l) (n0 := n0) hw _ _ _ _ own_c0) rfl (by decide) rfl rfl rfl rfl)
  have R3 := R2.trans (oReach.run (l := l) (n0 := n0) (q := oMx) (CT := oCT) (MT := oMT) (callf := (oCall [f0, f1, f2, f3, f4, f5, f6, f7, f8, f9, f10, f11, f12, f13, f14, f15, f16])) (ops := oPx) (n := 3) (st' := (23, #[.val (.retAddr 0), .val (.retAddr 0), .val (.int (14 : Int32)), .val (.int b), .val (.ref 0), .unset, .unset, .unset, .unset, .unset, .unset, .unset, .unset, .unset, .unset, .unset, .unset, .unset, .unset, .unset, .unset], [.int (14 : Int32), .ref 0], own_h0, 8, 37)) hw hK hC opsx rfl)
  have R4 := R3.trans (oReach.mS (CT := oCT) (MT := oMT) (ops := oPx) hw hK opsx (ok2 (l := l) (n0 := n0) hw _ _ _ _ own_c1_14) rfl (by decide) rfl rfl rfl)
  have R5 := R4.trans (oReach.run (l := l) (n0 := n0) (q := oMx) (CT := oCT) (MT := oMT) (callf := (oCall [f0, f1, f2, f3, f4, f5, f6, f7, f8, f9, f10, f11, f12, f13, f14, f15, f16])) (ops := oPx) (n := 1) (st' := (28, #[.val (.retAddr 0), .val (.retAddr 0), .val (.int (14 : Int32)), .val (.int b), .val (.ref 0), .unset, .unset, .unset, .unset, .unset, .unset, .unset, .unset, .unset, .unset, .unset, .unset, .unset, .unset, .unset, .unset], [.ref 0], own_h1_14, 8, 37)) hw hK hC opsx rfl)
  exact R5.trans (oReach.mV (CT := oCT) (MT := oMT) (ops := oPx) hw hK opsx (ok3 (l := l) (n0 := n0) hw _ _ _ _ own_c2_14) rfl rfl rfl rfl rfl rfl)
def own_h1_15 : List oObj := [.inl (0, [.ref 1, .ref 2, .ref 3, .ref 4, .ref 5, .ref 6, .ref 7, .int (1 : Int32), .int (1 : Int32)]), .inr (.int, [(0 : Int32), (1 : Int32), (2 : Int32), (3 : Int32)]), .inr (.int, [(0 : Int32), (1 : Int32), (2 : Int32), (3 : Int32)]), .inr (.int, [(0 : Int32), (0 : Int32), (0 : Int32), (0 : Int32)]), .inr (.int, [(0 : Int32), (0 : Int32), (0 : Int32), (0 : Int32)]), .inr (.int, [(4 : Int32), (0 : Int32), (0 : Int32), (0 : Int32)]), .inr (.int, [(4 : Int32), (0 : Int32), (0 : Int32), (0 : Int32)]), .inr (.int, [(0 : Int32), (0 : Int32), (0 : Int32), (0 : Int32)])]
def own_h2_15 : List oObj := [.inl (0, [.ref 1, .ref 2, .ref 3, .ref 4, .ref 5, .ref 6, .ref 7, .int (1 : Int32), .int (0 : Int32)]), .inr (.int, [(0 : Int32), (1 : Int32), (2 : Int32), (3 : Int32)]), .inr (.int, [(0 : Int32), (1 : Int32), (2 : Int32), (3 : Int32)]), .inr (.int, [(0 : Int32), (0 : Int32), (0 : Int32), (0 : Int32)]), .inr (.int, [(0 : Int32), (0 : Int32), (0 : Int32), (0 : Int32)]), .inr (.int, [(4 : Int32), (0 : Int32), (0 : Int32), (0 : Int32)]), .inr (.int, [(0 : Int32), (0 : Int32), (0 : Int32), (0 : Int32)]), .inr (.int, [(0 : Int32), (0 : Int32), (0 : Int32), (0 : Int32)])]
set_option maxRecDepth 65536 in
theorem own_c1_15 : f2 [.ref 0, .int (15 : Int32)] own_h0 = some (none, own_h1_15) := oGives_eq (by decide +kernel)
set_option maxRecDepth 65536 in
theorem own_c2_15 : f3 [.ref 0] own_h1_15 = some (none, own_h2_15) := oGives_eq (by decide +kernel)
set_option maxRecDepth 65536 in
set_option maxHeartbeats 4000000 in
theorem own_p15 (hw : oHw a0 Z) (b : Int32) : oReach l Z n0 oKT oMx (10, #[.val (.retAddr 0), .val (.retAddr 0), .val (.int (15 : Int32)), .val (.int b), .unset, .unset, .unset, .unset, .unset, .unset, .unset, .unset, .unset, .unset, .unset, .unset, .unset, .unset, .unset, .unset, .unset], [], [], 0, 0) (31, #[.val (.retAddr 0), .val (.retAddr 0), .val (.int (15 : Int32)), .val (.int b), .val (.ref 0), .unset, .unset, .unset, .unset, .unset, .unset, .unset, .unset, .unset, .unset, .unset, .unset, .unset, .unset, .unset, .unset], [], own_h2_15, 8, 37) := by
  have hK := oK_ok
  have hC := (fs17 hw : oFsOk l Z n0 oKT oMT [f0, f1, f2, f3, f4, f5, f6, f7, f8, f9, f10, f11, f12, f13, f14, f15, f16]).call
  have R1 := oReach.run (l := l) (n0 := n0) (q := oMx) (CT := oCT) (MT := oMT) (callf := (oCall [f0, f1, f2, f3, f4, f5, f6, f7, f8, f9, f10, f11, f12, f13, f14, f15, f16])) (ops := oPx) (n := 3) (st := (10, #[.val (.retAddr 0), .val (.retAddr 0), .val (.int (15 : Int32)), .val (.int b), .unset, .unset, .unset, .unset, .unset, .unset, .unset, .unset, .unset, .unset, .unset, .unset, .unset, .unset, .unset, .unset, .unset], [], [], 0, 0)) (st' := (15, #[.val (.retAddr 0), .val (.retAddr 0), .val (.int (15 : Int32)), .val (.int b), .unset, .unset, .unset, .unset, .unset, .unset, .unset, .unset, .unset, .unset, .unset, .unset, .unset, .unset, .unset, .unset, .unset], [.int (4 : Int32), .ref 0, .ref 0], [.inl (0, [.null, .null, .null, .null, .null, .null, .null, .int (0 : Int32), .int (0 : Int32)])], 1, 9)) hw hK hC opsx rfl
  have R2 := R1.trans (oReach.mI (CT := oCT) (MT := oMT) (ops := oPx) hw hK opsx (ok0 (l := l) (n0 := n0) hw _ _ _ _ own_c0) rfl (by decide) rfl rfl rfl rfl)
  have R3 := R2.trans (oReach.run (l := l) (n0 := n0) (q := oMx) (CT := oCT) (MT := oMT) (callf := (oCall [f0, f1, f2, f3, f4, f5, f6, f7, f8, f9, f10, f11, f12, f13, f14, f15, f16])) (ops := oPx) (n := 3) (st' := (23, #[.val (.retAddr 0), .val (.retAddr 0), .val (.int (15 : Int32)), .val (.int b), .val (.ref 0), .unset, .unset, .unset, .unset, .unset, .unset, .unset, .unset, .unset, .unset, .unset, .unset, .unset, .unset, .unset, .unset], [.int (15 : Int32), .ref 0], own_h0, 8, 37)) hw hK hC opsx rfl)
  have R4 := R3.trans (oReach.mS (CT := oCT) (MT := oMT) (ops := oPx) hw hK opsx (ok2 (l := l) (n0 := n0) hw _ _ _ _ own_c1_15) rfl (by decide) rfl rfl rfl)
  have R5 := R4.trans (oReach.run (l := l) (n0 := n0) (q := oMx) (CT := oCT) (MT := oMT) (callf := (oCall [f0, f1, f2, f3, f4, f5, f6, f7, f8, f9, f10, f11, f12, f13, f14, f15, f16])) (ops := oPx) (n := 1) (st' := (28, #[.val (.retAddr 0), .val (.retAddr 0), .val (.int (15 : Int32)), .val (.int b), .val (.ref 0), .unset, .unset, .unset, .unset, .unset, .unset, .unset, .unset, .unset, .unset, .unset, .unset, .unset, .unset, .unset, .unset], [.ref 0], own_h1_15, 8, 37)) hw hK hC opsx rfl)
  exact R5.trans (oReach.mV (CT := oCT) (MT := oMT) (ops := oPx) hw hK opsx (ok3 (l := l) (n0 := n0) hw _ _ _ _ own_c2_15) rfl rfl rfl rfl rfl rfl)
set_option maxRecDepth 65536 in
theorem k0_0 : oResF oMx oFx (oRunF oKT oCT oMT (oCall [f0, f1, f2, f3, f4, f5, f6, f7, f8, f9, f10, f11, f12, f13, f14, f15, f16]) oMx.2.2.2.2.1 oMx.2.2.1 oFx 4000 (31, #[.val (.retAddr 0), .val (.retAddr 0), .val (.int (0 : Int32)), .val (.int (0 : Int32)), .val (.ref 0), .unset, .unset, .unset, .unset, .unset, .unset, .unset, .unset, .unset, .unset, .unset, .unset, .unset, .unset, .unset, .unset], [], own_h2_0, 8, 37)) = true := by decide +kernel
set_option maxRecDepth 65536 in
theorem k0_1 : oResF oMx oFx (oRunF oKT oCT oMT (oCall [f0, f1, f2, f3, f4, f5, f6, f7, f8, f9, f10, f11, f12, f13, f14, f15, f16]) oMx.2.2.2.2.1 oMx.2.2.1 oFx 4000 (31, #[.val (.retAddr 0), .val (.retAddr 0), .val (.int (0 : Int32)), .val (.int (1 : Int32)), .val (.ref 0), .unset, .unset, .unset, .unset, .unset, .unset, .unset, .unset, .unset, .unset, .unset, .unset, .unset, .unset, .unset, .unset], [], own_h2_0, 8, 37)) = true := by decide +kernel
set_option maxRecDepth 65536 in
theorem k0_2 : oResF oMx oFx (oRunF oKT oCT oMT (oCall [f0, f1, f2, f3, f4, f5, f6, f7, f8, f9, f10, f11, f12, f13, f14, f15, f16]) oMx.2.2.2.2.1 oMx.2.2.1 oFx 4000 (31, #[.val (.retAddr 0), .val (.retAddr 0), .val (.int (0 : Int32)), .val (.int (2 : Int32)), .val (.ref 0), .unset, .unset, .unset, .unset, .unset, .unset, .unset, .unset, .unset, .unset, .unset, .unset, .unset, .unset, .unset, .unset], [], own_h2_0, 8, 37)) = true := by decide +kernel
set_option maxRecDepth 65536 in
theorem k0_3 : oResF oMx oFx (oRunF oKT oCT oMT (oCall [f0, f1, f2, f3, f4, f5, f6, f7, f8, f9, f10, f11, f12, f13, f14, f15, f16]) oMx.2.2.2.2.1 oMx.2.2.1 oFx 4000 (31, #[.val (.retAddr 0), .val (.retAddr 0), .val (.int (0 : Int32)), .val (.int (3 : Int32)), .val (.ref 0), .unset, .unset, .unset, .unset, .unset, .unset, .unset, .unset, .unset, .unset, .unset, .unset, .unset, .unset, .unset, .unset], [], own_h2_0, 8, 37)) = true := by decide +kernel
set_option maxRecDepth 65536 in
theorem k0_4 : oResF oMx oFx (oRunF oKT oCT oMT (oCall [f0, f1, f2, f3, f4, f5, f6, f7, f8, f9, f10, f11, f12, f13, f14, f15, f16]) oMx.2.2.2.2.1 oMx.2.2.1 oFx 4000 (31, #[.val (.retAddr 0), .val (.retAddr 0), .val (.int (0 : Int32)), .val (.int (4 : Int32)), .val (.ref 0), .unset, .unset, .unset, .unset, .unset, .unset, .unset, .unset, .unset, .unset, .unset, .unset, .unset, .unset, .unset, .unset], [], own_h2_0, 8, 37)) = true := by decide +kernel
set_option maxRecDepth 65536 in
theorem k0_5 : oResF oMx oFx (oRunF oKT oCT oMT (oCall [f0, f1, f2, f3, f4, f5, f6, f7, f8, f9, f10, f11, f12, f13, f14, f15, f16]) oMx.2.2.2.2.1 oMx.2.2.1 oFx 4000 (31, #[.val (.retAddr 0), .val (.retAddr 0), .val (.int (0 : Int32)), .val (.int (5 : Int32)), .val (.ref 0), .unset, .unset, .unset, .unset, .unset, .unset, .unset, .unset, .unset, .unset, .unset, .unset, .unset, .unset, .unset, .unset], [], own_h2_0, 8, 37)) = true := by decide +kernel
set_option maxRecDepth 65536 in
theorem k0_6 : oResF oMx oFx (oRunF oKT oCT oMT (oCall [f0, f1, f2, f3, f4, f5, f6, f7, f8, f9, f10, f11, f12, f13, f14, f15, f16]) oMx.2.2.2.2.1 oMx.2.2.1 oFx 4000 (31, #[.val (.retAddr 0), .val (.retAddr 0), .val (.int (0 : Int32)), .val (.int (6 : Int32)), .val (.ref 0), .unset, .unset, .unset, .unset, .unset, .unset, .unset, .unset, .unset, .unset, .unset, .unset, .unset, .unset, .unset, .unset], [], own_h2_0, 8, 37)) = true := by decide +kernel
set_option maxRecDepth 65536 in
theorem k0_7 : oResF oMx oFx (oRunF oKT oCT oMT (oCall [f0, f1, f2, f3, f4, f5, f6, f7, f8, f9, f10, f11, f12, f13, f14, f15, f16]) oMx.2.2.2.2.1 oMx.2.2.1 oFx 4000 (31, #[.val (.retAddr 0), .val (.retAddr 0), .val (.int (0 : Int32)), .val (.int (7 : Int32)), .val (.ref 0), .unset, .unset, .unset, .unset, .unset, .unset, .unset, .unset, .unset, .unset, .unset, .unset, .unset, .unset, .unset, .unset], [], own_h2_0, 8, 37)) = true := by decide +kernel
set_option maxRecDepth 65536 in
theorem k0_8 : oResF oMx oFx (oRunF oKT oCT oMT (oCall [f0, f1, f2, f3, f4, f5, f6, f7, f8, f9, f10, f11, f12, f13, f14, f15, f16]) oMx.2.2.2.2.1 oMx.2.2.1 oFx 4000 (31, #[.val (.retAddr 0), .val (.retAddr 0), .val (.int (0 : Int32)), .val (.int (8 : Int32)), .val (.ref 0), .unset, .unset, .unset, .unset, .unset, .unset, .unset, .unset, .unset, .unset, .unset, .unset, .unset, .unset, .unset, .unset], [], own_h2_0, 8, 37)) = true := by decide +kernel
set_option maxRecDepth 65536 in
theorem k0_9 : oResF oMx oFx (oRunF oKT oCT oMT (oCall [f0, f1, f2, f3, f4, f5, f6, f7, f8, f9, f10, f11, f12, f13, f14, f15, f16]) oMx.2.2.2.2.1 oMx.2.2.1 oFx 4000 (31, #[.val (.retAddr 0), .val (.retAddr 0), .val (.int (0 : Int32)), .val (.int (9 : Int32)), .val (.ref 0), .unset, .unset, .unset, .unset, .unset, .unset, .unset, .unset, .unset, .unset, .unset, .unset, .unset, .unset, .unset, .unset], [], own_h2_0, 8, 37)) = true := by decide +kernel
set_option maxRecDepth 65536 in
theorem k0_10 : oResF oMx oFx (oRunF oKT oCT oMT (oCall [f0, f1, f2, f3, f4, f5, f6, f7, f8, f9, f10, f11, f12, f13, f14, f15, f16]) oMx.2.2.2.2.1 oMx.2.2.1 oFx 4000 (31, #[.val (.retAddr 0), .val (.retAddr 0), .val (.int (0 : Int32)), .val (.int (10 : Int32)), .val (.ref 0), .unset, .unset, .unset, .unset, .unset, .unset, .unset, .unset, .unset, .unset, .unset, .unset, .unset, .unset, .unset, .unset], [], own_h2_0, 8, 37)) = true := by decide +kernel
set_option maxRecDepth 65536 in
theorem k0_11 : oResF oMx oFx (oRunF oKT oCT oMT (oCall [f0, f1, f2, f3, f4, f5, f6, f7, f8, f9, f10, f11, f12, f13, f14, f15, f16]) oMx.2.2.2.2.1 oMx.2.2.1 oFx 4000 (31, #[.val (.retAddr 0), .val (.retAddr 0), .val (.int (0 : Int32)), .val (.int (11 : Int32)), .val (.ref 0), .unset, .unset, .unset, .unset, .unset, .unset, .unset, .unset, .unset, .unset, .unset, .unset, .unset, .unset, .unset, .unset], [], own_h2_0, 8, 37)) = true := by decide +kernel
set_option maxRecDepth 65536 in
theorem k0_12 : oResF oMx oFx (oRunF oKT oCT oMT (oCall [f0, f1, f2, f3, f4, f5, f6, f7, f8, f9, f10, f11, f12, f13, f14, f15, f16]) oMx.2.2.2.2.1 oMx.2.2.1 oFx 4000 (31, #[.val (.retAddr 0), .val (.retAddr 0), .val (.int (0 : Int32)), .val (.int (12 : Int32)), .val (.ref 0), .unset, .unset, .unset, .unset, .unset, .unset, .unset, .unset, .unset, .unset, .unset, .unset, .unset, .unset, .unset, .unset], [], own_h2_0, 8, 37)) = true := by decide +kernel
set_option maxRecDepth 65536 in
theorem k0_13 : oResF oMx oFx (oRunF oKT oCT oMT (oCall [f0, f1, f2, f3, f4, f5, f6, f7, f8, f9, f10, f11, f12, f13, f14, f15, f16]) oMx.2.2.2.2.1 oMx.2.2.1 oFx 4000 (31, #[.val (.retAddr 0), .val (.retAddr 0), .val (.int (0 : Int32)), .val (.int (13 : Int32)), .val (.ref 0), .unset, .unset, .unset, .unset, .unset, .unset, .unset, .unset, .unset, .unset, .unset, .unset, .unset, .unset, .unset, .unset], [], own_h2_0, 8, 37)) = true := by decide +kernel
set_option maxRecDepth 65536 in
theorem k0_14 : oResF oMx oFx (oRunF oKT oCT oMT (oCall [f0, f1, f2, f3, f4, f5, f6, f7, f8, f9, f10, f11, f12, f13, f14, f15, f16]) oMx.2.2.2.2.1 oMx.2.2.1 oFx 4000 (31, #[.val (.retAddr 0), .val (.retAddr 0), .val (.int (0 : Int32)), .val (.int (14 : Int32)), .val (.ref 0), .unset, .unset, .unset, .unset, .unset, .unset, .unset, .unset, .unset, .unset, .unset, .unset, .unset, .unset, .unset, .unset], [], own_h2_0, 8, 37)) = true := by decide +kernel
set_option maxRecDepth 65536 in
theorem k0_15 : oResF oMx oFx (oRunF oKT oCT oMT (oCall [f0, f1, f2, f3, f4, f5, f6, f7, f8, f9, f10, f11, f12, f13, f14, f15, f16]) oMx.2.2.2.2.1 oMx.2.2.1 oFx 4000 (31, #[.val (.retAddr 0), .val (.retAddr 0), .val (.int (0 : Int32)), .val (.int (15 : Int32)), .val (.ref 0), .unset, .unset, .unset, .unset, .unset, .unset, .unset, .unset, .unset, .unset, .unset, .unset, .unset, .unset, .unset, .unset], [], own_h2_0, 8, 37)) = true := by decide +kernel
set_option maxRecDepth 65536 in
theorem k1_0 : oResF oMx oFx (oRunF oKT oCT oMT (oCall [f0, f1, f2, f3, f4, f5, f6, f7, f8, f9, f10, f11, f12, f13, f14, f15, f16]) oMx.2.2.2.2.1 oMx.2.2.1 oFx 4000 (31, #[.val (.retAddr 0), .val (.retAddr 0), .val (.int (1 : Int32)), .val (.int (0 : Int32)), .val (.ref 0), .unset, .unset, .unset, .unset, .unset, .unset, .unset, .unset, .unset, .unset, .unset, .unset, .unset, .unset, .unset, .unset], [], own_h2_1, 8, 37)) = true := by decide +kernel
set_option maxRecDepth 65536 in
theorem k1_1 : oResF oMx oFx (oRunF oKT oCT oMT (oCall [f0, f1, f2, f3, f4, f5, f6, f7, f8, f9, f10, f11, f12, f13, f14, f15, f16]) oMx.2.2.2.2.1 oMx.2.2.1 oFx 4000 (31, #[.val (.retAddr 0), .val (.retAddr 0), .val (.int (1 : Int32)), .val (.int (1 : Int32)), .val (.ref 0), .unset, .unset, .unset, .unset, .unset, .unset, .unset, .unset, .unset, .unset, .unset, .unset, .unset, .unset, .unset, .unset], [], own_h2_1, 8, 37)) = true := by decide +kernel
set_option maxRecDepth 65536 in
theorem k1_2 : oResF oMx oFx (oRunF oKT oCT oMT (oCall [f0, f1, f2, f3, f4, f5, f6, f7, f8, f9, f10, f11, f12, f13, f14, f15, f16]) oMx.2.2.2.2.1 oMx.2.2.1 oFx 4000 (31, #[.val (.retAddr 0), .val (.retAddr 0), .val (.int (1 : Int32)), .val (.int (2 : Int32)), .val (.ref 0), .unset, .unset, .unset, .unset, .unset, .unset, .unset, .unset, .unset, .unset, .unset, .unset, .unset, .unset, .unset, .unset], [], own_h2_1, 8, 37)) = true := by decide +kernel
set_option maxRecDepth 65536 in
theorem k1_3 : oResF oMx oFx (oRunF oKT oCT oMT (oCall [f0, f1, f2, f3, f4, f5, f6, f7, f8, f9, f10, f11, f12, f13, f14, f15, f16]) oMx.2.2.2.2.1 oMx.2.2.1 oFx 4000 (31, #[.val (.retAddr 0), .val (.retAddr 0), .val (.int (1 : Int32)), .val (.int (3 : Int32)), .val (.ref 0), .unset, .unset, .unset, .unset, .unset, .unset, .unset, .unset, .unset, .unset, .unset, .unset, .unset, .unset, .unset, .unset], [], own_h2_1, 8, 37)) = true := by decide +kernel
set_option maxRecDepth 65536 in
theorem k1_4 : oResF oMx oFx (oRunF oKT oCT oMT (oCall [f0, f1, f2, f3, f4, f5, f6, f7, f8, f9, f10, f11, f12, f13, f14, f15, f16]) oMx.2.2.2.2.1 oMx.2.2.1 oFx 4000 (31, #[.val (.retAddr 0), .val (.retAddr 0), .val (.int (1 : Int32)), .val (.int (4 : Int32)), .val (.ref 0), .unset, .unset, .unset, .unset, .unset, .unset, .unset, .unset, .unset, .unset, .unset, .unset, .unset, .unset, .unset, .unset], [], own_h2_1, 8, 37)) = true := by decide +kernel
set_option maxRecDepth 65536 in
theorem k1_5 : oResF oMx oFx (oRunF oKT oCT oMT (oCall [f0, f1, f2, f3, f4, f5, f6, f7, f8, f9, f10, f11, f12, f13, f14, f15, f16]) oMx.2.2.2.2.1 oMx.2.2.1 oFx 4000 (31, #[.val (.retAddr 0), .val (.retAddr 0), .val (.int (1 : Int32)), .val (.int (5 : Int32)), .val (.ref 0), .unset, .unset, .unset, .unset, .unset, .unset, .unset, .unset, .unset, .unset, .unset, .unset, .unset, .unset, .unset, .unset], [], own_h2_1, 8, 37)) = true := by decide +kernel
set_option maxRecDepth 65536 in
theorem k1_6 : oResF oMx oFx (oRunF oKT oCT oMT (oCall [f0, f1, f2, f3, f4, f5, f6, f7, f8, f9, f10, f11, f12, f13, f14, f15, f16]) oMx.2.2.2.2.1 oMx.2.2.1 oFx 4000 (31, #[.val (.retAddr 0), .val (.retAddr 0), .val (.int (1 : Int32)), .val (.int (6 : Int32)), .val (.ref 0), .unset, .unset, .unset, .unset, .unset, .unset, .unset, .unset, .unset, .unset, .unset, .unset, .unset, .unset, .unset, .unset], [], own_h2_1, 8, 37)) = true := by decide +kernel
set_option maxRecDepth 65536 in
theorem k1_7 : oResF oMx oFx (oRunF oKT oCT oMT (oCall [f0, f1, f2, f3, f4, f5, f6, f7, f8, f9, f10, f11, f12, f13, f14, f15, f16]) oMx.2.2.2.2.1 oMx.2.2.1 oFx 4000 (31, #[.val (.retAddr 0), .val (.retAddr 0), .val (.int (1 : Int32)), .val (.int (7 : Int32)), .val (.ref 0), .unset, .unset, .unset, .unset, .unset, .unset, .unset, .unset, .unset, .unset, .unset, .unset, .unset, .unset, .unset, .unset], [], own_h2_1, 8, 37)) = true := by decide +kernel
set_option maxRecDepth 65536 in
theorem k1_8 : oResF oMx oFx (oRunF oKT oCT oMT (oCall [f0, f1, f2, f3, f4, f5, f6, f7, f8, f9, f10, f11, f12, f13, f14, f15, f16]) oMx.2.2.2.2.1 oMx.2.2.1 oFx 4000 (31, #[.val (.retAddr 0), .val (.retAddr 0), .val (.int (1 : Int32)), .val (.int (8 : Int32)), .val (.ref 0), .unset, .unset, .unset, .unset, .unset, .unset, .unset, .unset, .unset, .unset, .unset, .unset, .unset, .unset, .unset, .unset], [], own_h2_1, 8, 37)) = true := by decide +kernel
set_option maxRecDepth 65536 in
theorem k1_9 : oResF oMx oFx (oRunF oKT oCT oMT (oCall [f0, f1, f2, f3, f4, f5, f6, f7, f8, f9, f10, f11, f12, f13, f14, f15, f16]) oMx.2.2.2.2.1 oMx.2.2.1 oFx 4000 (31, #[.val (.retAddr 0), .val (.retAddr 0), .val (.int (1 : Int32)), .val (.int (9 : Int32)), .val (.ref 0), .unset, .unset, .unset, .unset, .unset, .unset, .unset, .unset, .unset, .unset, .unset, .unset, .unset, .unset, .unset, .unset], [], own_h2_1, 8, 37)) = true := by decide +kernel
set_option maxRecDepth 65536 in
theorem k1_10 : oResF oMx oFx (oRunF oKT oCT oMT (oCall [f0, f1, f2, f3, f4, f5, f6, f7, f8, f9, f10, f11, f12, f13, f14, f15, f16]) oMx.2.2.2.2.1 oMx.2.2.1 oFx 4000 (31, #[.val (.retAddr 0), .val (.retAddr 0), .val (.int (1 : Int32)), .val (.int (10 : Int32)), .val (.ref 0), .unset, .unset, .unset, .unset, .unset, .unset, .unset, .unset, .unset, .unset, .unset, .unset, .unset, .unset, .unset, .unset], [], own_h2_1, 8, 37)) = true := by decide +kernel
set_option maxRecDepth 65536 in
theorem k1_11 : oResF oMx oFx (oRunF oKT oCT oMT (oCall [f0, f1, f2, f3, f4, f5, f6, f7, f8, f9, f10, f11, f12, f13, f14, f15, f16]) oMx.2.2.2.2.1 oMx.2.2.1 oFx 4000 (31, #[.val (.retAddr 0), .val (.retAddr 0), .val (.int (1 : Int32)), .val (.int (11 : Int32)), .val (.ref 0), .unset, .unset, .unset, .unset, .unset, .unset, .unset, .unset, .unset, .unset, .unset, .unset, .unset, .unset, .unset, .unset], [], own_h2_1, 8, 37)) = true := by decide +kernel
set_option maxRecDepth 65536 in
theorem k1_12 : oResF oMx oFx (oRunF oKT oCT oMT (oCall [f0, f1, f2, f3, f4, f5, f6, f7, f8, f9, f10, f11, f12, f13, f14, f15, f16]) oMx.2.2.2.2.1 oMx.2.2.1 oFx 4000 (31, #[.val (.retAddr 0), .val (.retAddr 0), .val (.int (1 : Int32)), .val (.int (12 : Int32)), .val (.ref 0), .unset, .unset, .unset, .unset, .unset, .unset, .unset, .unset, .unset, .unset, .unset, .unset, .unset, .unset, .unset, .unset], [], own_h2_1, 8, 37)) = true := by decide +kernel
set_option maxRecDepth 65536 in
theorem k1_13 : oResF oMx oFx (oRunF oKT oCT oMT (oCall [f0, f1, f2, f3, f4, f5, f6, f7, f8, f9, f10, f11, f12, f13, f14, f15, f16]) oMx.2.2.2.2.1 oMx.2.2.1 oFx 4000 (31, #[.val (.retAddr 0), .val (.retAddr 0), .val (.int (1 : Int32)), .val (.int (13 : Int32)), .val (.ref 0), .unset, .unset, .unset, .unset, .unset, .unset, .unset, .unset, .unset, .unset, .unset, .unset, .unset, .unset, .unset, .unset], [], own_h2_1, 8, 37)) = true := by decide +kernel
set_option maxRecDepth 65536 in
theorem k1_14 : oResF oMx oFx (oRunF oKT oCT oMT (oCall [f0, f1, f2, f3, f4, f5, f6, f7, f8, f9, f10, f11, f12, f13, f14, f15, f16]) oMx.2.2.2.2.1 oMx.2.2.1 oFx 4000 (31, #[.val (.retAddr 0), .val (.retAddr 0), .val (.int (1 : Int32)), .val (.int (14 : Int32)), .val (.ref 0), .unset, .unset, .unset, .unset, .unset, .unset, .unset, .unset, .unset, .unset, .unset, .unset, .unset, .unset, .unset, .unset], [], own_h2_1, 8, 37)) = true := by decide +kernel
set_option maxRecDepth 65536 in
theorem k1_15 : oResF oMx oFx (oRunF oKT oCT oMT (oCall [f0, f1, f2, f3, f4, f5, f6, f7, f8, f9, f10, f11, f12, f13, f14, f15, f16]) oMx.2.2.2.2.1 oMx.2.2.1 oFx 4000 (31, #[.val (.retAddr 0), .val (.retAddr 0), .val (.int (1 : Int32)), .val (.int (15 : Int32)), .val (.ref 0), .unset, .unset, .unset, .unset, .unset, .unset, .unset, .unset, .unset, .unset, .unset, .unset, .unset, .unset, .unset, .unset], [], own_h2_1, 8, 37)) = true := by decide +kernel
set_option maxRecDepth 65536 in
theorem k2_0 : oResF oMx oFx (oRunF oKT oCT oMT (oCall [f0, f1, f2, f3, f4, f5, f6, f7, f8, f9, f10, f11, f12, f13, f14, f15, f16]) oMx.2.2.2.2.1 oMx.2.2.1 oFx 4000 (31, #[.val (.retAddr 0), .val (.retAddr 0), .val (.int (2 : Int32)), .val (.int (0 : Int32)), .val (.ref 0), .unset, .unset, .unset, .unset, .unset, .unset, .unset, .unset, .unset, .unset, .unset, .unset, .unset, .unset, .unset, .unset], [], own_h2_2, 8, 37)) = true := by decide +kernel
set_option maxRecDepth 65536 in
theorem k2_1 : oResF oMx oFx (oRunF oKT oCT oMT (oCall [f0, f1, f2, f3, f4, f5, f6, f7, f8, f9, f10, f11, f12, f13, f14, f15, f16]) oMx.2.2.2.2.1 oMx.2.2.1 oFx 4000 (31, #[.val (.retAddr 0), .val (.retAddr 0), .val (.int (2 : Int32)), .val (.int (1 : Int32)), .val (.ref 0), .unset, .unset, .unset, .unset, .unset, .unset, .unset, .unset, .unset, .unset, .unset, .unset, .unset, .unset, .unset, .unset], [], own_h2_2, 8, 37)) = true := by decide +kernel
set_option maxRecDepth 65536 in
theorem k2_2 : oResF oMx oFx (oRunF oKT oCT oMT (oCall [f0, f1, f2, f3, f4, f5, f6, f7, f8, f9, f10, f11, f12, f13, f14, f15, f16]) oMx.2.2.2.2.1 oMx.2.2.1 oFx 4000 (31, #[.val (.retAddr 0), .val (.retAddr 0), .val (.int (2 : Int32)), .val (.int (2 : Int32)), .val (.ref 0), .unset, .unset, .unset, .unset, .unset, .unset, .unset, .unset, .unset, .unset, .unset, .unset, .unset, .unset, .unset, .unset], [], own_h2_2, 8, 37)) = true := by decide +kernel
set_option maxRecDepth 65536 in
theorem k2_3 : oResF oMx oFx (oRunF oKT oCT oMT (oCall [f0, f1, f2, f3, f4, f5, f6, f7, f8, f9, f10, f11, f12, f13, f14, f15, f16]) oMx.2.2.2.2.1 oMx.2.2.1 oFx 4000 (31, #[.val (.retAddr 0), .val (.retAddr 0), .val (.int (2 : Int32)), .val (.int (3 : Int32)), .val (.ref 0), .unset, .unset, .unset, .unset, .unset, .unset, .unset, .unset, .unset, .unset, .unset, .unset, .unset, .unset, .unset, .unset], [], own_h2_2, 8, 37)) = true := by decide +kernel
set_option maxRecDepth 65536 in
theorem k2_4 : oResF oMx oFx (oRunF oKT oCT oMT (oCall [f0, f1, f2, f3, f4, f5, f6, f7, f8, f9, f10, f11, f12, f13, f14, f15, f16]) oMx.2.2.2.2.1 oMx.2.2.1 oFx 4000 (31, #[.val (.retAddr 0), .val (.retAddr 0), .val (.int (2 : Int32)), .val (.int (4 : Int32)), .val (.ref 0), .unset, .unset, .unset, .unset, .unset, .unset, .unset, .unset, .unset, .unset, .unset, .unset, .unset, .unset, .unset, .unset], [], own_h2_2, 8, 37)) = true := by decide +kernel
set_option maxRecDepth 65536 in
theorem k2_5 : oResF oMx oFx (oRunF oKT oCT oMT (oCall [f0, f1, f2, f3, f4, f5, f6, f7, f8, f9, f10, f11, f12, f13, f14, f15, f16]) oMx.2.2.2.2.1 oMx.2.2.1 oFx 4000 (31, #[.val (.retAddr 0), .val (.retAddr 0), .val (.int (2 : Int32)), .val (.int (5 : Int32)), .val (.ref 0), .unset, .unset, .unset, .unset, .unset, .unset, .unset, .unset, .unset, .unset, .unset, .unset, .unset, .unset, .unset, .unset], [], own_h2_2, 8, 37)) = true := by decide +kernel
set_option maxRecDepth 65536 in
theorem k2_6 : oResF oMx oFx (oRunF oKT oCT oMT (oCall [f0, f1, f2, f3, f4, f5, f6, f7, f8, f9, f10, f11, f12, f13, f14, f15, f16]) oMx.2.2.2.2.1 oMx.2.2.1 oFx 4000 (31, #[.val (.retAddr 0), .val (.retAddr 0), .val (.int (2 : Int32)), .val (.int (6 : Int32)), .val (.ref 0), .unset, .unset, .unset, .unset, .unset, .unset, .unset, .unset, .unset, .unset, .unset, .unset, .unset, .unset, .unset, .unset], [], own_h2_2, 8, 37)) = true := by decide +kernel
set_option maxRecDepth 65536 in
theorem k2_7 : oResF oMx oFx (oRunF oKT oCT oMT (oCall [f0, f1, f2, f3, f4, f5, f6, f7, f8, f9, f10, f11, f12, f13, f14, f15, f16]) oMx.2.2.2.2.1 oMx.2.2.1 oFx 4000 (31, #[.val (.retAddr 0), .val (.retAddr 0), .val (.int (2 : Int32)), .val (.int (7 : Int32)), .val (.ref 0), .unset, .unset, .unset, .unset, .unset, .unset, .unset, .unset, .unset, .unset, .unset, .unset, .unset, .unset, .unset, .unset], [], own_h2_2, 8, 37)) = true := by decide +kernel
set_option maxRecDepth 65536 in
theorem k2_8 : oResF oMx oFx (oRunF oKT oCT oMT (oCall [f0, f1, f2, f3, f4, f5, f6, f7, f8, f9, f10, f11, f12, f13, f14, f15, f16]) oMx.2.2.2.2.1 oMx.2.2.1 oFx 4000 (31, #[.val (.retAddr 0), .val (.retAddr 0), .val (.int (2 : Int32)), .val (.int (8 : Int32)), .val (.ref 0), .unset, .unset, .unset, .unset, .unset, .unset, .unset, .unset, .unset, .unset, .unset, .unset, .unset, .unset, .unset, .unset], [], own_h2_2, 8, 37)) = true := by decide +kernel
set_option maxRecDepth 65536 in
theorem k2_9 : oResF oMx oFx (oRunF oKT oCT oMT (oCall [f0, f1, f2, f3, f4, f5, f6, f7, f8, f9, f10, f11, f12, f13, f14, f15, f16]) oMx.2.2.2.2.1 oMx.2.2.1 oFx 4000 (31, #[.val (.retAddr 0), .val (.retAddr 0), .val (.int (2 : Int32)), .val (.int (9 : Int32)), .val (.ref 0), .unset, .unset, .unset, .unset, .unset, .unset, .unset, .unset, .unset, .unset, .unset, .unset, .unset, .unset, .unset, .unset], [], own_h2_2, 8, 37)) = true := by decide +kernel
set_option maxRecDepth 65536 in
theorem k2_10 : oResF oMx oFx (oRunF oKT oCT oMT (oCall [f0, f1, f2, f3, f4, f5, f6, f7, f8, f9, f10, f11, f12, f13, f14, f15, f16]) oMx.2.2.2.2.1 oMx.2.2.1 oFx 4000 (31, #[.val (.retAddr 0), .val (.retAddr 0), .val (.int (2 : Int32)), .val (.int (10 : Int32)), .val (.ref 0), .unset, .unset, .unset, .unset, .unset, .unset, .unset, .unset, .unset, .unset, .unset, .unset, .unset, .unset, .unset, .unset], [], own_h2_2, 8, 37)) = true := by decide +kernel
set_option maxRecDepth 65536 in
theorem k2_11 : oResF oMx oFx (oRunF oKT oCT oMT (oCall [f0, f1, f2, f3, f4, f5, f6, f7, f8, f9, f10, f11, f12, f13, f14, f15, f16]) oMx.2.2.2.2.1 oMx.2.2.1 oFx 4000 (31, #[.val (.retAddr 0), .val (.retAddr 0), .val (.int (2 : Int32)), .val (.int (11 : Int32)), .val (.ref 0), .unset, .unset, .unset, .unset, .unset, .unset, .unset, .unset, .unset, .unset, .unset, .unset, .unset, .unset, .unset, .unset], [], own_h2_2, 8, 37)) = true := by decide +kernel
set_option maxRecDepth 65536 in
theorem k2_12 : oResF oMx oFx (oRunF oKT oCT oMT (oCall [f0, f1, f2, f3, f4, f5, f6, f7, f8, f9, f10, f11, f12, f13, f14, f15, f16]) oMx.2.2.2.2.1 oMx.2.2.1 oFx 4000 (31, #[.val (.retAddr 0), .val (.retAddr 0), .val (.int (2 : Int32)), .val (.int (12 : Int32)), .val (.ref 0), .unset, .unset, .unset, .unset, .unset, .unset, .unset, .unset, .unset, .unset, .unset, .unset, .unset, .unset, .unset, .unset], [], own_h2_2, 8, 37)) = true := by decide +kernel
set_option maxRecDepth 65536 in
theorem k2_13 : oResF oMx oFx (oRunF oKT oCT oMT (oCall [f0, f1, f2, f3, f4, f5, f6, f7, f8, f9, f10, f11, f12, f13, f14, f15, f16]) oMx.2.2.2.2.1 oMx.2.2.1 oFx 4000 (31, #[.val (.retAddr 0), .val (.retAddr 0), .val (.int (2 : Int32)), .val (.int (13 : Int32)), .val (.ref 0), .unset, .unset, .unset, .unset, .unset, .unset, .unset, .unset, .unset, .unset, .unset, .unset, .unset, .unset, .unset, .unset], [], own_h2_2, 8, 37)) = true := by decide +kernel
set_option maxRecDepth 65536 in
theorem k2_14 : oResF oMx oFx (oRunF oKT oCT oMT (oCall [f0, f1, f2, f3, f4, f5, f6, f7, f8, f9, f10, f11, f12, f13, f14, f15, f16]) oMx.2.2.2.2.1 oMx.2.2.1 oFx 4000 (31, #[.val (.retAddr 0), .val (.retAddr 0), .val (.int (2 : Int32)), .val (.int (14 : Int32)), .val (.ref 0), .unset, .unset, .unset, .unset, .unset, .unset, .unset, .unset, .unset, .unset, .unset, .unset, .unset, .unset, .unset, .unset], [], own_h2_2, 8, 37)) = true := by decide +kernel
set_option maxRecDepth 65536 in
theorem k2_15 : oResF oMx oFx (oRunF oKT oCT oMT (oCall [f0, f1, f2, f3, f4, f5, f6, f7, f8, f9, f10, f11, f12, f13, f14, f15, f16]) oMx.2.2.2.2.1 oMx.2.2.1 oFx 4000 (31, #[.val (.retAddr 0), .val (.retAddr 0), .val (.int (2 : Int32)), .val (.int (15 : Int32)), .val (.ref 0), .unset, .unset, .unset, .unset, .unset, .unset, .unset, .unset, .unset, .unset, .unset, .unset, .unset, .unset, .unset, .unset], [], own_h2_2, 8, 37)) = true := by decide +kernel
set_option maxRecDepth 65536 in
theorem k3_0 : oResF oMx oFx (oRunF oKT oCT oMT (oCall [f0, f1, f2, f3, f4, f5, f6, f7, f8, f9, f10, f11, f12, f13, f14, f15, f16]) oMx.2.2.2.2.1 oMx.2.2.1 oFx 4000 (31, #[.val (.retAddr 0), .val (.retAddr 0), .val (.int (3 : Int32)), .val (.int (0 : Int32)), .val (.ref 0), .unset, .unset, .unset, .unset, .unset, .unset, .unset, .unset, .unset, .unset, .unset, .unset, .unset, .unset, .unset, .unset], [], own_h2_3, 8, 37)) = true := by decide +kernel
set_option maxRecDepth 65536 in
theorem k3_1 : oResF oMx oFx (oRunF oKT oCT oMT (oCall [f0, f1, f2, f3, f4, f5, f6, f7, f8, f9, f10, f11, f12, f13, f14, f15, f16]) oMx.2.2.2.2.1 oMx.2.2.1 oFx 4000 (31, #[.val (.retAddr 0), .val (.retAddr 0), .val (.int (3 : Int32)), .val (.int (1 : Int32)), .val (.ref 0), .unset, .unset, .unset, .unset, .unset, .unset, .unset, .unset, .unset, .unset, .unset, .unset, .unset, .unset, .unset, .unset], [], own_h2_3, 8, 37)) = true := by decide +kernel
set_option maxRecDepth 65536 in
theorem k3_2 : oResF oMx oFx (oRunF oKT oCT oMT (oCall [f0, f1, f2, f3, f4, f5, f6, f7, f8, f9, f10, f11, f12, f13, f14, f15, f16]) oMx.2.2.2.2.1 oMx.2.2.1 oFx 4000 (31, #[.val (.retAddr 0), .val (.retAddr 0), .val (.int (3 : Int32)), .val (.int (2 : Int32)), .val (.ref 0), .unset, .unset, .unset, .unset, .unset, .unset, .unset, .unset, .unset, .unset, .unset, .unset, .unset, .unset, .unset, .unset], [], own_h2_3, 8, 37)) = true := by decide +kernel
set_option maxRecDepth 65536 in
theorem k3_3 : oResF oMx oFx (oRunF oKT oCT oMT (oCall [f0, f1, f2, f3, f4, f5, f6, f7, f8, f9, f10, f11, f12, f13, f14, f15, f16]) oMx.2.2.2.2.1 oMx.2.2.1 oFx 4000 (31, #[.val (.retAddr 0), .val (.retAddr 0), .val (.int (3 : Int32)), .val (.int (3 : Int32)), .val (.ref 0), .unset, .unset, .unset, .unset, .unset, .unset, .unset, .unset, .unset, .unset, .unset, .unset, .unset, .unset, .unset, .unset], [], own_h2_3, 8, 37)) = true := by decide +kernel
set_option maxRecDepth 65536 in
theorem k3_4 : oResF oMx oFx (oRunF oKT oCT oMT (oCall [f0, f1, f2, f3, f4, f5, f6, f7, f8, f9, f10, f11, f12, f13, f14, f15, f16]) oMx.2.2.2.2.1 oMx.2.2.1 oFx 4000 (31, #[.val (.retAddr 0), .val (.retAddr 0), .val (.int (3 : Int32)), .val (.int (4 : Int32)), .val (.ref 0), .unset, .unset, .unset, .unset, .unset, .unset, .unset, .unset, .unset, .unset, .unset, .unset, .unset, .unset, .unset, .unset], [], own_h2_3, 8, 37)) = true := by decide +kernel
set_option maxRecDepth 65536 in
theorem k3_5 : oResF oMx oFx (oRunF oKT oCT oMT (oCall [f0, f1, f2, f3, f4, f5, f6, f7, f8, f9, f10, f11, f12, f13, f14, f15, f16]) oMx.2.2.2.2.1 oMx.2.2.1 oFx 4000 (31, #[.val (.retAddr 0), .val (.retAddr 0), .val (.int (3 : Int32)), .val (.int (5 : Int32)), .val (.ref 0), .unset, .unset, .unset, .unset, .unset, .unset, .unset, .unset, .unset, .unset, .unset, .unset, .unset, .unset, .unset, .unset], [], own_h2_3, 8, 37)) = true := by decide +kernel
set_option maxRecDepth 65536 in
theorem k3_6 : oResF oMx oFx (oRunF oKT oCT oMT (oCall [f0, f1, f2, f3, f4, f5, f6, f7, f8, f9, f10, f11, f12, f13, f14, f15, f16]) oMx.2.2.2.2.1 oMx.2.2.1 oFx 4000 (31, #[.val (.retAddr 0), .val (.retAddr 0), .val (.int (3 : Int32)), .val (.int (6 : Int32)), .val (.ref 0), .unset, .unset, .unset, .unset, .unset, .unset, .unset, .unset, .unset, .unset, .unset, .unset, .unset, .unset, .unset, .unset], [], own_h2_3, 8, 37)) = true := by decide +kernel
set_option maxRecDepth 65536 in
theorem k3_7 : oResF oMx oFx (oRunF oKT oCT oMT (oCall [f0, f1, f2, f3, f4, f5, f6, f7, f8, f9, f10, f11, f12, f13, f14, f15, f16]) oMx.2.2.2.2.1 oMx.2.2.1 oFx 4000 (31, #[.val (.retAddr 0), .val (.retAddr 0), .val (.int (3 : Int32)), .val (.int (7 : Int32)), .val (.ref 0), .unset, .unset, .unset, .unset, .unset, .unset, .unset, .unset, .unset, .unset, .unset, .unset, .unset, .unset, .unset, .unset], [], own_h2_3, 8, 37)) = true := by decide +kernel
set_option maxRecDepth 65536 in
theorem k3_8 : oResF oMx oFx (oRunF oKT oCT oMT (oCall [f0, f1, f2, f3, f4, f5, f6, f7, f8, f9, f10, f11, f12, f13, f14, f15, f16]) oMx.2.2.2.2.1 oMx.2.2.1 oFx 4000 (31, #[.val (.retAddr 0), .val (.retAddr 0), .val (.int (3 : Int32)), .val (.int (8 : Int32)), .val (.ref 0), .unset, .unset, .unset, .unset, .unset, .unset, .unset, .unset, .unset, .unset, .unset, .unset, .unset, .unset, .unset, .unset], [], own_h2_3, 8, 37)) = true := by decide +kernel
set_option maxRecDepth 65536 in
theorem k3_9 : oResF oMx oFx (oRunF oKT oCT oMT (oCall [f0, f1, f2, f3, f4, f5, f6, f7, f8, f9, f10, f11, f12, f13, f14, f15, f16]) oMx.2.2.2.2.1 oMx.2.2.1 oFx 4000 (31, #[.val (.retAddr 0), .val (.retAddr 0), .val (.int (3 : Int32)), .val (.int (9 : Int32)), .val (.ref 0), .unset, .unset, .unset, .unset, .unset, .unset, .unset, .unset, .unset, .unset, .unset, .unset, .unset, .unset, .unset, .unset], [], own_h2_3, 8, 37)) = true := by decide +kernel
set_option maxRecDepth 65536 in
theorem k3_10 : oResF oMx oFx (oRunF oKT oCT oMT (oCall [f0, f1, f2, f3, f4, f5, f6, f7, f8, f9, f10, f11, f12, f13, f14, f15, f16]) oMx.2.2.2.2.1 oMx.2.2.1 oFx 4000 (31, #[.val (.retAddr 0), .val (.retAddr 0), .val (.int (3 : Int32)), .val (.int (10 : Int32)), .val (.ref 0), .unset, .unset, .unset, .unset, .unset, .unset, .unset, .unset, .unset, .unset, .unset, .unset, .unset, .unset, .unset, .unset], [], own_h2_3, 8, 37)) = true := by decide +kernel
set_option maxRecDepth 65536 in
theorem k3_11 : oResF oMx oFx (oRunF oKT oCT oMT (oCall [f0, f1, f2, f3, f4, f5, f6, f7, f8, f9, f10, f11, f12, f13, f14, f15, f16]) oMx.2.2.2.2.1 oMx.2.2.1 oFx 4000 (31, #[.val (.retAddr 0), .val (.retAddr 0), .val (.int (3 : Int32)), .val (.int (11 : Int32)), .val (.ref 0), .unset, .unset, .unset, .unset, .unset, .unset, .unset, .unset, .unset, .unset, .unset, .unset, .unset, .unset, .unset, .unset], [], own_h2_3, 8, 37)) = true := by decide +kernel
set_option maxRecDepth 65536 in
theorem k3_12 : oResF oMx oFx (oRunF oKT oCT oMT (oCall [f0, f1, f2, f3, f4, f5, f6, f7, f8, f9, f10, f11, f12, f13, f14, f15, f16]) oMx.2.2.2.2.1 oMx.2.2.1 oFx 4000 (31, #[.val (.retAddr 0), .val (.retAddr 0), .val (.int (3 : Int32)), .val (.int (12 : Int32)), .val (.ref 0), .unset, .unset, .unset, .unset, .unset, .unset, .unset, .unset, .unset, .unset, .unset, .unset, .unset, .unset, .unset, .unset], [], own_h2_3, 8, 37)) = true := by decide +kernel
set_option maxRecDepth 65536 in
theorem k3_13 : oResF oMx oFx (oRunF oKT oCT oMT (oCall [f0, f1, f2, f3, f4, f5, f6, f7, f8, f9, f10, f11, f12, f13, f14, f15, f16]) oMx.2.2.2.2.1 oMx.2.2.1 oFx 4000 (31, #[.val (.retAddr 0), .val (.retAddr 0), .val (.int (3 : Int32)), .val (.int (13 : Int32)), .val (.ref 0), .unset, .unset, .unset, .unset, .unset, .unset, .unset, .unset, .unset, .unset, .unset, .unset, .unset, .unset, .unset, .unset], [], own_h2_3, 8, 37)) = true := by decide +kernel
set_option maxRecDepth 65536 in
theorem k3_14 : oResF oMx oFx (oRunF oKT oCT oMT (oCall [f0, f1, f2, f3, f4, f5, f6, f7, f8, f9, f10, f11, f12, f13, f14, f15, f16]) oMx.2.2.2.2.1 oMx.2.2.1 oFx 4000 (31, #[.val (.retAddr 0), .val (.retAddr 0), .val (.int (3 : Int32)), .val (.int (14 : Int32)), .val (.ref 0), .unset, .unset, .unset, .unset, .unset, .unset, .unset, .unset, .unset, .unset, .unset, .unset, .unset, .unset, .unset, .unset], [], own_h2_3, 8, 37)) = true := by decide +kernel
set_option maxRecDepth 65536 in
theorem k3_15 : oResF oMx oFx (oRunF oKT oCT oMT (oCall [f0, f1, f2, f3, f4, f5, f6, f7, f8, f9, f10, f11, f12, f13, f14, f15, f16]) oMx.2.2.2.2.1 oMx.2.2.1 oFx 4000 (31, #[.val (.retAddr 0), .val (.retAddr 0), .val (.int (3 : Int32)), .val (.int (15 : Int32)), .val (.ref 0), .unset, .unset, .unset, .unset, .unset, .unset, .unset, .unset, .unset, .unset, .unset, .unset, .unset, .unset, .unset, .unset], [], own_h2_3, 8, 37)) = true := by decide +kernel
set_option maxRecDepth 65536 in
theorem k4_0 : oResF oMx oFx (oRunF oKT oCT oMT (oCall [f0, f1, f2, f3, f4, f5, f6, f7, f8, f9, f10, f11, f12, f13, f14, f15, f16]) oMx.2.2.2.2.1 oMx.2.2.1 oFx 4000 (31, #[.val (.retAddr 0), .val (.retAddr 0), .val (.int (4 : Int32)), .val (.int (0 : Int32)), .val (.ref 0), .unset, .unset, .unset, .unset, .unset, .unset, .unset, .unset, .unset, .unset, .unset, .unset, .unset, .unset, .unset, .unset], [], own_h2_4, 8, 37)) = true := by decide +kernel
set_option maxRecDepth 65536 in
theorem k4_1 : oResF oMx oFx (oRunF oKT oCT oMT (oCall [f0, f1, f2, f3, f4, f5, f6, f7, f8, f9, f10, f11, f12, f13, f14, f15, f16]) oMx.2.2.2.2.1 oMx.2.2.1 oFx 4000 (31, #[.val (.retAddr 0), .val (.retAddr 0), .val (.int (4 : Int32)), .val (.int (1 : Int32)), .val (.ref 0), .unset, .unset, .unset, .unset, .unset, .unset, .unset, .unset, .unset, .unset, .unset, .unset, .unset, .unset, .unset, .unset], [], own_h2_4, 8, 37)) = true := by decide +kernel
set_option maxRecDepth 65536 in
theorem k4_2 : oResF oMx oFx (oRunF oKT oCT oMT (oCall [f0, f1, f2, f3, f4, f5, f6, f7, f8, f9, f10, f11, f12, f13, f14, f15, f16]) oMx.2.2.2.2.1 oMx.2.2.1 oFx 4000 (31, #[.val (.retAddr 0), .val (.retAddr 0), .val (.int (4 : Int32)), .val (.int (2 : Int32)), .val (.ref 0), .unset, .unset, .unset, .unset, .unset, .unset, .unset, .unset, .unset, .unset, .unset, .unset, .unset, .unset, .unset, .unset], [], own_h2_4, 8, 37)) = true := by decide +kernel
set_option maxRecDepth 65536 in
theorem k4_3 : oResF oMx oFx (oRunF oKT oCT oMT (oCall [f0, f1, f2, f3, f4, f5, f6, f7, f8, f9, f10, f11, f12, f13, f14, f15, f16]) oMx.2.2.2.2.1 oMx.2.2.1 oFx 4000 (31, #[.val (.retAddr 0), .val (.retAddr 0), .val (.int (4 : Int32)), .val (.int (3 : Int32)), .val (.ref 0), .unset, .unset, .unset, .unset, .unset, .unset, .unset, .unset, .unset, .unset, .unset, .unset, .unset, .unset, .unset, .unset], [], own_h2_4, 8, 37)) = true := by decide +kernel
set_option maxRecDepth 65536 in
theorem k4_4 : oResF oMx oFx (oRunF oKT oCT oMT (oCall [f0, f1, f2, f3, f4, f5, f6, f7, f8, f9, f10, f11, f12, f13, f14, f15, f16]) oMx.2.2.2.2.1 oMx.2.2.1 oFx 4000 (31, #[.val (.retAddr 0), .val (.retAddr 0), .val (.int (4 : Int32)), .val (.int (4 : Int32)), .val (.ref 0), .unset, .unset, .unset, .unset, .unset, .unset, .unset, .unset, .unset, .unset, .unset, .unset, .unset, .unset, .unset, .unset], [], own_h2_4, 8, 37)) = true := by decide +kernel
set_option maxRecDepth 65536 in
theorem k4_5 : oResF oMx oFx (oRunF oKT oCT oMT (oCall [f0, f1, f2, f3, f4, f5, f6, f7, f8, f9, f10, f11, f12, f13, f14, f15, f16]) oMx.2.2.2.2.1 oMx.2.2.1 oFx 4000 (31, #[.val (.retAddr 0), .val (.retAddr 0), .val (.int (4 : Int32)), .val (.int (5 : Int32)), .val (.ref 0), .unset, .unset, .unset, .unset, .unset, .unset, .unset, .unset, .unset, .unset, .unset, .unset, .unset, .unset, .unset, .unset], [], own_h2_4, 8, 37)) = true := by decide +kernel
set_option maxRecDepth 65536 in
theorem k4_6 : oResF oMx oFx (oRunF oKT oCT oMT (oCall [f0, f1, f2, f3, f4, f5, f6, f7, f8, f9, f10, f11, f12, f13, f14, f15, f16]) oMx.2.2.2.2.1 oMx.2.2.1 oFx 4000 (31, #[.val (.retAddr 0), .val (.retAddr 0), .val (.int (4 : Int32)), .val (.int (6 : Int32)), .val (.ref 0), .unset, .unset, .unset, .unset, .unset, .unset, .unset, .unset, .unset, .unset, .unset, .unset, .unset, .unset, .unset, .unset], [], own_h2_4, 8, 37)) = true := by decide +kernel
set_option maxRecDepth 65536 in
theorem k4_7 : oResF oMx oFx (oRunF oKT oCT oMT (oCall [f0, f1, f2, f3, f4, f5, f6, f7, f8, f9, f10, f11, f12, f13, f14, f15, f16]) oMx.2.2.2.2.1 oMx.2.2.1 oFx 4000 (31, #[.val (.retAddr 0), .val (.retAddr 0), .val (.int (4 : Int32)), .val (.int (7 : Int32)), .val (.ref 0), .unset, .unset, .unset, .unset, .unset, .unset, .unset, .unset, .unset, .unset, .unset, .unset, .unset, .unset, .unset, .unset], [], own_h2_4, 8, 37)) = true := by decide +kernel
set_option maxRecDepth 65536 in
theorem k4_8 : oResF oMx oFx (oRunF oKT oCT oMT (oCall [f0, f1, f2, f3, f4, f5, f6, f7, f8, f9, f10, f11, f12, f13, f14, f15, f16]) oMx.2.2.2.2.1 oMx.2.2.1 oFx 4000 (31, #[.val (.retAddr 0), .val (.retAddr 0), .val (.int (4 : Int32)), .val (.int (8 : Int32)), .val (.ref 0), .unset, .unset, .unset, .unset, .unset, .unset, .unset, .unset, .unset, .unset, .unset, .unset, .unset, .unset, .unset, .unset], [], own_h2_4, 8, 37)) = true := by decide +kernel
set_option maxRecDepth 65536 in
theorem k4_9 : oResF oMx oFx (oRunF oKT oCT oMT (oCall [f0, f1, f2, f3, f4, f5, f6, f7, f8, f9, f10, f11, f12, f13, f14, f15, f16]) oMx.2.2.2.2.1 oMx.2.2.1 oFx 4000 (31, #[.val (.retAddr 0), .val (.retAddr 0), .val (.int (4 : Int32)), .val (.int (9 : Int32)), .val (.ref 0), .unset, .unset, .unset, .unset, .unset, .unset, .unset, .unset, .unset, .unset, .unset, .unset, .unset, .unset, .unset, .unset], [], own_h2_4, 8, 37)) = true := by decide +kernel
set_option maxRecDepth 65536 in
theorem k4_10 : oResF oMx oFx (oRunF oKT oCT oMT (oCall [f0, f1, f2, f3, f4, f5, f6, f7, f8, f9, f10, f11, f12, f13, f14, f15, f16]) oMx.2.2.2.2.1 oMx.2.2.1 oFx 4000 (31, #[.val (.retAddr 0), .val (.retAddr 0), .val (.int (4 : Int32)), .val (.int (10 : Int32)), .val (.ref 0), .unset, .unset, .unset, .unset, .unset, .unset, .unset, .unset, .unset, .unset, .unset, .unset, .unset, .unset, .unset, .unset], [], own_h2_4, 8, 37)) = true := by decide +kernel
set_option maxRecDepth 65536 in
theorem k4_11 : oResF oMx oFx (oRunF oKT oCT oMT (oCall [f0, f1, f2, f3, f4, f5, f6, f7, f8, f9, f10, f11, f12, f13, f14, f15, f16]) oMx.2.2.2.2.1 oMx.2.2.1 oFx 4000 (31, #[.val (.retAddr 0), .val (.retAddr 0), .val (.int (4 : Int32)), .val (.int (11 : Int32)), .val (.ref 0), .unset, .unset, .unset, .unset, .unset, .unset, .unset, .unset, .unset, .unset, .unset, .unset, .unset, .unset, .unset, .unset], [], own_h2_4, 8, 37)) = true := by decide +kernel
set_option maxRecDepth 65536 in
theorem k4_12 : oResF oMx oFx (oRunF oKT oCT oMT (oCall [f0, f1, f2, f3, f4, f5, f6, f7, f8, f9, f10, f11, f12, f13, f14, f15, f16]) oMx.2.2.2.2.1 oMx.2.2.1 oFx 4000 (31, #[.val (.retAddr 0), .val (.retAddr 0), .val (.int (4 : Int32)), .val (.int (12 : Int32)), .val (.ref 0), .unset, .unset, .unset, .unset, .unset, .unset, .unset, .unset, .unset, .unset, .unset, .unset, .unset, .unset, .unset, .unset], [], own_h2_4, 8, 37)) = true := by decide +kernel
set_option maxRecDepth 65536 in
theorem k4_13 : oResF oMx oFx (oRunF oKT oCT oMT (oCall [f0, f1, f2, f3, f4, f5, f6, f7, f8, f9, f10, f11, f12, f13, f14, f15, f16]) oMx.2.2.2.2.1 oMx.2.2.1 oFx 4000 (31, #[.val (.retAddr 0), .val (.retAddr 0), .val (.int (4 : Int32)), .val (.int (13 : Int32)), .val (.ref 0), .unset, .unset, .unset, .unset, .unset, .unset, .unset, .unset, .unset, .unset, .unset, .unset, .unset, .unset, .unset, .unset], [], own_h2_4, 8, 37)) = true := by decide +kernel
set_option maxRecDepth 65536 in
theorem k4_14 : oResF oMx oFx (oRunF oKT oCT oMT (oCall [f0, f1, f2, f3, f4, f5, f6, f7, f8, f9, f10, f11, f12, f13, f14, f15, f16]) oMx.2.2.2.2.1 oMx.2.2.1 oFx 4000 (31, #[.val (.retAddr 0), .val (.retAddr 0), .val (.int (4 : Int32)), .val (.int (14 : Int32)), .val (.ref 0), .unset, .unset, .unset, .unset, .unset, .unset, .unset, .unset, .unset, .unset, .unset, .unset, .unset, .unset, .unset, .unset], [], own_h2_4, 8, 37)) = true := by decide +kernel
set_option maxRecDepth 65536 in
theorem k4_15 : oResF oMx oFx (oRunF oKT oCT oMT (oCall [f0, f1, f2, f3, f4, f5, f6, f7, f8, f9, f10, f11, f12, f13, f14, f15, f16]) oMx.2.2.2.2.1 oMx.2.2.1 oFx 4000 (31, #[.val (.retAddr 0), .val (.retAddr 0), .val (.int (4 : Int32)), .val (.int (15 : Int32)), .val (.ref 0), .unset, .unset, .unset, .unset, .unset, .unset, .unset, .unset, .unset, .unset, .unset, .unset, .unset, .unset, .unset, .unset], [], own_h2_4, 8, 37)) = true := by decide +kernel
set_option maxRecDepth 65536 in
theorem k5_0 : oResF oMx oFx (oRunF oKT oCT oMT (oCall [f0, f1, f2, f3, f4, f5, f6, f7, f8, f9, f10, f11, f12, f13, f14, f15, f16]) oMx.2.2.2.2.1 oMx.2.2.1 oFx 4000 (31, #[.val (.retAddr 0), .val (.retAddr 0), .val (.int (5 : Int32)), .val (.int (0 : Int32)), .val (.ref 0), .unset, .unset, .unset, .unset, .unset, .unset, .unset, .unset, .unset, .unset, .unset, .unset, .unset, .unset, .unset, .unset], [], own_h2_5, 8, 37)) = true := by decide +kernel
set_option maxRecDepth 65536 in
theorem k5_1 : oResF oMx oFx (oRunF oKT oCT oMT (oCall [f0, f1, f2, f3, f4, f5, f6, f7, f8, f9, f10, f11, f12, f13, f14, f15, f16]) oMx.2.2.2.2.1 oMx.2.2.1 oFx 4000 (31, #[.val (.retAddr 0), .val (.retAddr 0), .val (.int (5 : Int32)), .val (.int (1 : Int32)), .val (.ref 0), .unset, .unset, .unset, .unset, .unset, .unset, .unset, .unset, .unset, .unset, .unset, .unset, .unset, .unset, .unset, .unset], [], own_h2_5, 8, 37)) = true := by decide +kernel
set_option maxRecDepth 65536 in
theorem k5_2 : oResF oMx oFx (oRunF oKT oCT oMT (oCall [f0, f1, f2, f3, f4, f5, f6, f7, f8, f9, f10, f11, f12, f13, f14, f15, f16]) oMx.2.2.2.2.1 oMx.2.2.1 oFx 4000 (31, #[.val (.retAddr 0), .val (.retAddr 0), .val (.int (5 : Int32)), .val (.int (2 : Int32)), .val (.ref 0), .unset, .unset, .unset, .unset, .unset, .unset, .unset, .unset, .unset, .unset, .unset, .unset, .unset, .unset, .unset, .unset], [], own_h2_5, 8, 37)) = true := by decide +kernel
set_option maxRecDepth 65536 in
theorem k5_3 : oResF oMx oFx (oRunF oKT oCT oMT (oCall [f0, f1, f2, f3, f4, f5, f6, f7, f8, f9, f10, f11, f12, f13, f14, f15, f16]) oMx.2.2.2.2.1 oMx.2.2.1 oFx 4000 (31, #[.val (.retAddr 0), .val (.retAddr 0), .val (.int (5 : Int32)), .val (.int (3 : Int32)), .val (.ref 0), .unset, .unset, .unset, .unset, .unset, .unset, .unset, .unset, .unset, .unset, .unset, .unset, .unset, .unset, .unset, .unset], [], own_h2_5, 8, 37)) = true := by decide +kernel
set_option maxRecDepth 65536 in
theorem k5_4 : oResF oMx oFx (oRunF oKT oCT oMT (oCall [f0, f1, f2, f3, f4, f5, f6, f7, f8, f9, f10, f11, f12, f13, f14, f15, f16]) oMx.2.2.2.2.1 oMx.2.2.1 oFx 4000 (31, #[.val (.retAddr 0), .val (.retAddr 0), .val (.int (5 : Int32)), .val (.int (4 : Int32)), .val (.ref 0), .unset, .unset, .unset, .unset, .unset, .unset, .unset, .unset, .unset, .unset, .unset, .unset, .unset, .unset, .unset, .unset], [], own_h2_5, 8, 37)) = true := by decide +kernel
set_option maxRecDepth 65536 in
theorem k5_5 : oResF oMx oFx (oRunF oKT oCT oMT (oCall [f0, f1, f2, f3, f4, f5, f6, f7, f8, f9, f10, f11, f12, f13, f14, f15, f16]) oMx.2.2.2.2.1 oMx.2.2.1 oFx 4000 (31, #[.val (.retAddr 0), .val (.retAddr 0), .val (.int (5 : Int32)), .val (.int (5 : Int32)), .val (.ref 0), .unset, .unset, .unset, .unset, .unset, .unset, .unset, .unset, .unset, .unset, .unset, .unset, .unset, .unset, .unset, .unset], [], own_h2_5, 8, 37)) = true := by decide +kernel
set_option maxRecDepth 65536 in
theorem k5_6 : oResF oMx oFx (oRunF oKT oCT oMT (oCall [f0, f1, f2, f3, f4, f5, f6, f7, f8, f9, f10, f11, f12, f13, f14, f15, f16]) oMx.2.2.2.2.1 oMx.2.2.1 oFx 4000 (31, #[.val (.retAddr 0), .val (.retAddr 0), .val (.int (5 : Int32)), .val (.int (6 : Int32)), .val (.ref 0), .unset, .unset, .unset, .unset, .unset, .unset, .unset, .unset, .unset, .unset, .unset, .unset, .unset, .unset, .unset, .unset], [], own_h2_5, 8, 37)) = true := by decide +kernel
set_option maxRecDepth 65536 in
theorem k5_7 : oResF oMx oFx (oRunF oKT oCT oMT (oCall [f0, f1, f2, f3, f4, f5, f6, f7, f8, f9, f10, f11, f12, f13, f14, f15, f16]) oMx.2.2.2.2.1 oMx.2.2.1 oFx 4000 (31, #[.val (.retAddr 0), .val (.retAddr 0), .val (.int (5 : Int32)), .val (.int (7 : Int32)), .val (.ref 0), .unset, .unset, .unset, .unset, .unset, .unset, .unset, .unset, .unset, .unset, .unset, .unset, .unset, .unset, .unset, .unset], [], own_h2_5, 8, 37)) = true := by decide +kernel
set_option maxRecDepth 65536 in
theorem k5_8 : oResF oMx oFx (oRunF oKT oCT oMT (oCall [f0, f1, f2, f3, f4, f5, f6, f7, f8, f9, f10, f11, f12, f13, f14, f15, f16]) oMx.2.2.2.2.1 oMx.2.2.1 oFx 4000 (31, #[.val (.retAddr 0), .val (.retAddr 0), .val (.int (5 : Int32)), .val (.int (8 : Int32)), .val (.ref 0), .unset, .unset, .unset, .unset, .unset, .unset, .unset, .unset, .unset, .unset, .unset, .unset, .unset, .unset, .unset, .unset], [], own_h2_5, 8, 37)) = true := by decide +kernel
set_option maxRecDepth 65536 in
theorem k5_9 : oResF oMx oFx (oRunF oKT oCT oMT (oCall [f0, f1, f2, f3, f4, f5, f6, f7, f8, f9, f10, f11, f12, f13, f14, f15, f16]) oMx.2.2.2.2.1 oMx.2.2.1 oFx 4000 (31, #[.val (.retAddr 0), .val (.retAddr 0), .val (.int (5 : Int32)), .val (.int (9 : Int32)), .val (.ref 0), .unset, .unset, .unset, .unset, .unset, .unset, .unset, .unset, .unset, .unset, .unset, .unset, .unset, .unset, .unset, .unset], [], own_h2_5, 8, 37)) = true := by decide +kernel
set_option maxRecDepth 65536 in
theorem k5_10 : oResF oMx oFx (oRunF oKT oCT oMT (oCall [f0, f1, f2, f3, f4, f5, f6, f7, f8, f9, f10, f11, f12, f13, f14, f15, f16]) oMx.2.2.2.2.1 oMx.2.2.1 oFx 4000 (31, #[.val (.retAddr 0), .val (.retAddr 0), .val (.int (5 : Int32)), .val (.int (10 : Int32)), .val (.ref 0), .unset, .unset, .unset, .unset, .unset, .unset, .unset, .unset, .unset, .unset, .unset, .unset, .unset, .unset, .unset, .unset], [], own_h2_5, 8, 37)) = true := by decide +kernel
set_option maxRecDepth 65536 in
theorem k5_11 : oResF oMx oFx (oRunF oKT oCT oMT (oCall [f0, f1, f2, f3, f4, f5, f6, f7, f8, f9, f10, f11, f12, f13, f14, f15, f16]) oMx.2.2.2.2.1 oMx.2.2.1 oFx 4000 (31, #[.val (.retAddr 0), .val (.retAddr 0), .val (.int (5 : Int32)), .val (.int (11 : Int32)), .val (.ref 0), .unset, .unset, .unset, .unset, .unset, .unset, .unset, .unset, .unset, .unset, .unset, .unset, .unset, .unset, .unset, .unset], [], own_h2_5, 8, 37)) = true := by decide +kernel
set_option maxRecDepth 65536 in
theorem k5_12 : oResF oMx oFx (oRunF oKT oCT oMT (oCall [f0, f1, f2, f3, f4, f5, f6, f7, f8, f9, f10, f11, f12, f13, f14, f15, f16]) oMx.2.2.2.2.1 oMx.2.2.1 oFx 4000 (31, #[.val (.retAddr 0), .val (.retAddr 0), .val (.int (5 : Int32)), .val (.int (12 : Int32)), .val (.ref 0), .unset, .unset, .unset, .unset, .unset, .unset, .unset, .unset, .unset, .unset, .unset, .unset, .unset, .unset, .unset, .unset], [], own_h2_5, 8, 37)) = true := by decide +kernel
set_option maxRecDepth 65536 in
theorem k5_13 : oResF oMx oFx (oRunF oKT oCT oMT (oCall [f0, f1, f2, f3, f4, f5, f6, f7, f8, f9, f10, f11, f12, f13, f14, f15, f16]) oMx.2.2.2.2.1 oMx.2.2.1 oFx 4000 (31, #[.val (.retAddr 0), .val (.retAddr 0), .val (.int (5 : Int32)), .val (.int (13 : Int32)), .val (.ref 0), .unset, .unset, .unset, .unset, .unset, .unset, .unset, .unset, .unset, .unset, .unset, .unset, .unset, .unset, .unset, .unset], [], own_h2_5, 8, 37)) = true := by decide +kernel
set_option maxRecDepth 65536 in
theorem k5_14 : oResF oMx oFx (oRunF oKT oCT oMT (oCall [f0, f1, f2, f3, f4, f5, f6, f7, f8, f9, f10, f11, f12, f13, f14, f15, f16]) oMx.2.2.2.2.1 oMx.2.2.1 oFx 4000 (31, #[.val (.retAddr 0), .val (.retAddr 0), .val (.int (5 : Int32)), .val (.int (14 : Int32)), .val (.ref 0), .unset, .unset, .unset, .unset, .unset, .unset, .unset, .unset, .unset, .unset, .unset, .unset, .unset, .unset, .unset, .unset], [], own_h2_5, 8, 37)) = true := by decide +kernel
set_option maxRecDepth 65536 in
theorem k5_15 : oResF oMx oFx (oRunF oKT oCT oMT (oCall [f0, f1, f2, f3, f4, f5, f6, f7, f8, f9, f10, f11, f12, f13, f14, f15, f16]) oMx.2.2.2.2.1 oMx.2.2.1 oFx 4000 (31, #[.val (.retAddr 0), .val (.retAddr 0), .val (.int (5 : Int32)), .val (.int (15 : Int32)), .val (.ref 0), .unset, .unset, .unset, .unset, .unset, .unset, .unset, .unset, .unset, .unset, .unset, .unset, .unset, .unset, .unset, .unset], [], own_h2_5, 8, 37)) = true := by decide +kernel
set_option maxRecDepth 65536 in
theorem k6_0 : oResF oMx oFx (oRunF oKT oCT oMT (oCall [f0, f1, f2, f3, f4, f5, f6, f7, f8, f9, f10, f11, f12, f13, f14, f15, f16]) oMx.2.2.2.2.1 oMx.2.2.1 oFx 4000 (31, #[.val (.retAddr 0), .val (.retAddr 0), .val (.int (6 : Int32)), .val (.int (0 : Int32)), .val (.ref 0), .unset, .unset, .unset, .unset, .unset, .unset, .unset, .unset, .unset, .unset, .unset, .unset, .unset, .unset, .unset, .unset], [], own_h2_6, 8, 37)) = true := by decide +kernel
set_option maxRecDepth 65536 in
theorem k6_1 : oResF oMx oFx (oRunF oKT oCT oMT (oCall [f0, f1, f2, f3, f4, f5, f6, f7, f8, f9, f10, f11, f12, f13, f14, f15, f16]) oMx.2.2.2.2.1 oMx.2.2.1 oFx 4000 (31, #[.val (.retAddr 0), .val (.retAddr 0), .val (.int (6 : Int32)), .val (.int (1 : Int32)), .val (.ref 0), .unset, .unset, .unset, .unset, .unset, .unset, .unset, .unset, .unset, .unset, .unset, .unset, .unset, .unset, .unset, .unset], [], own_h2_6, 8, 37)) = true := by decide +kernel
set_option maxRecDepth 65536 in
theorem k6_2 : oResF oMx oFx (oRunF oKT oCT oMT (oCall [f0, f1, f2, f3, f4, f5, f6, f7, f8, f9, f10, f11, f12, f13, f14, f15, f16]) oMx.2.2.2.2.1 oMx.2.2.1 oFx 4000 (31, #[.val (.retAddr 0), .val (.retAddr 0), .val (.int (6 : Int32)), .val (.int (2 : Int32)), .val (.ref 0), .unset, .unset, .unset, .unset, .unset, .unset, .unset, .unset, .unset, .unset, .unset, .unset, .unset, .unset, .unset, .unset], [], own_h2_6, 8, 37)) = true := by decide +kernel
set_option maxRecDepth 65536 in
theorem k6_3 : oResF oMx oFx (oRunF oKT oCT oMT (oCall [f0, f1, f2, f3, f4, f5, f6, f7, f8, f9, f10, f11, f12, f13, f14, f15, f16]) oMx.2.2.2.2.1 oMx.2.2.1 oFx 4000 (31, #[.val (.retAddr 0), .val (.retAddr 0), .val (.int (6 : Int32)), .val (.int (3 : Int32)), .val (.ref 0), .unset, .unset, .unset, .unset, .unset, .unset, .unset, .unset, .unset, .unset, .unset, .unset, .unset, .unset, .unset, .unset], [], own_h2_6, 8, 37)) = true := by decide +kernel
set_option maxRecDepth 65536 in
theorem k6_4 : oResF oMx oFx (oRunF oKT oCT oMT (oCall [f0, f1, f2, f3, f4, f5, f6, f7, f8, f9, f10, f11, f12, f13, f14, f15, f16]) oMx.2.2.2.2.1 oMx.2.2.1 oFx 4000 (31, #[.val (.retAddr 0), .val (.retAddr 0), .val (.int (6 : Int32)), .val (.int (4 : Int32)), .val (.ref 0), .unset, .unset, .unset, .unset, .unset, .unset, .unset, .unset, .unset, .unset, .unset, .unset, .unset, .unset, .unset, .unset], [], own_h2_6, 8, 37)) = true := by decide +kernel
set_option maxRecDepth 65536 in
theorem k6_5 : oResF oMx oFx (oRunF oKT oCT oMT (oCall [f0, f1, f2, f3, f4, f5, f6, f7, f8, f9, f10, f11, f12, f13, f14, f15, f16]) oMx.2.2.2.2.1 oMx.2.2.1 oFx 4000 (31, #[.val (.retAddr 0), .val (.retAddr 0), .val (.int (6 : Int32)), .val (.int (5 : Int32)), .val (.ref 0), .unset, .unset, .unset, .unset, .unset, .unset, .unset, .unset, .unset, .unset, .unset, .unset, .unset, .unset, .unset, .unset], [], own_h2_6, 8, 37)) = true := by decide +kernel
set_option maxRecDepth 65536 in
theorem k6_6 : oResF oMx oFx (oRunF oKT oCT oMT (oCall [f0, f1, f2, f3, f4, f5, f6, f7, f8, f9, f10, f11, f12, f13, f14, f15, f16]) oMx.2.2.2.2.1 oMx.2.2.1 oFx 4000 (31, #[.val (.retAddr 0), .val (.retAddr 0), .val (.int (6 : Int32)), .val (.int (6 : Int32)), .val (.ref 0), .unset, .unset, .unset, .unset, .unset, .unset, .unset, .unset, .unset, .unset, .unset, .unset, .unset, .unset, .unset, .unset], [], own_h2_6, 8, 37)) = true := by decide +kernel
set_option maxRecDepth 65536 in
theorem k6_7 : oResF oMx oFx (oRunF oKT oCT oMT (oCall [f0, f1, f2, f3, f4, f5, f6, f7, f8, f9, f10, f11, f12, f13, f14, f15, f16]) oMx.2.2.2.2.1 oMx.2.2.1 oFx 4000 (31, #[.val (.retAddr 0), .val (.retAddr 0), .val (.int (6 : Int32)), .val (.int (7 : Int32)), .val (.ref 0), .unset, .unset, .unset, .unset, .unset, .unset, .unset, .unset, .unset, .unset, .unset, .unset, .unset, .unset, .unset, .unset], [], own_h2_6, 8, 37)) = true := by decide +kernel
set_option maxRecDepth 65536 in
theorem k6_8 : oResF oMx oFx (oRunF oKT oCT oMT (oCall [f0, f1, f2, f3, f4, f5, f6, f7, f8, f9, f10, f11, f12, f13, f14, f15, f16]) oMx.2.2.2.2.1 oMx.2.2.1 oFx 4000 (31, #[.val (.retAddr 0), .val (.retAddr 0), .val (.int (6 : Int32)), .val (.int (8 : Int32)), .val (.ref 0), .unset, .unset, .unset, .unset, .unset, .unset, .unset, .unset, .unset, .unset, .unset, .unset, .unset, .unset, .unset, .unset], [], own_h2_6, 8, 37)) = true := by decide +kernel
set_option maxRecDepth 65536 in
theorem k6_9 : oResF oMx oFx (oRunF oKT oCT oMT (oCall [f0, f1, f2, f3, f4, f5, f6, f7, f8, f9, f10, f11, f12, f13, f14, f15, f16]) oMx.2.2.2.2.1 oMx.2.2.1 oFx 4000 (31, #[.val (.retAddr 0), .val (.retAddr 0), .val (.int (6 : Int32)), .val (.int (9 : Int32)), .val (.ref 0), .unset, .unset, .unset, .unset, .unset, .unset, .unset, .unset, .unset, .unset, .unset, .unset, .unset, .unset, .unset, .unset], [], own_h2_6, 8, 37)) = true := by decide +kernel
set_option maxRecDepth 65536 in
theorem k6_10 : oResF oMx oFx (oRunF oKT oCT oMT (oCall [f0, f1, f2, f3, f4, f5, f6, f7, f8, f9, f10, f11, f12, f13, f14, f15, f16]) oMx.2.2.2.2.1 oMx.2.2.1 oFx 4000 (31, #[.val (.retAddr 0), .val (.retAddr 0), .val (.int (6 : Int32)), .val (.int (10 : Int32)), .val (.ref 0), .unset, .unset, .unset, .unset, .unset, .unset, .unset, .unset, .unset, .unset, .unset, .unset, .unset, .unset, .unset, .unset], [], own_h2_6, 8, 37)) = true := by decide +kernel
set_option maxRecDepth 65536 in
theorem k6_11 : oResF oMx oFx (oRunF oKT oCT oMT (oCall [f0, f1, f2, f3, f4, f5, f6, f7, f8, f9, f10, f11, f12, f13, f14, f15, f16]) oMx.2.2.2.2.1 oMx.2.2.1 oFx 4000 (31, #[.val (.retAddr 0), .val (.retAddr 0), .val (.int (6 : Int32)), .val (.int (11 : Int32)), .val (.ref 0), .unset, .unset, .unset, .unset, .unset, .unset, .unset, .unset, .unset, .unset, .unset, .unset, .unset, .unset, .unset, .unset], [], own_h2_6, 8, 37)) = true := by decide +kernel
set_option maxRecDepth 65536 in
theorem k6_12 : oResF oMx oFx (oRunF oKT oCT oMT (oCall [f0, f1, f2, f3, f4, f5, f6, f7, f8, f9, f10, f11, f12, f13, f14, f15, f16]) oMx.2.2.2.2.1 oMx.2.2.1 oFx 4000 (31, #[.val (.retAddr 0), .val (.retAddr 0), .val (.int (6 : Int32)), .val (.int (12 : Int32)), .val (.ref 0), .unset, .unset, .unset, .unset, .unset, .unset, .unset, .unset, .unset, .unset, .unset, .unset, .unset, .unset, .unset, .unset], [], own_h2_6, 8, 37)) = true := by decide +kernel
set_option maxRecDepth 65536 in
theorem k6_13 : oResF oMx oFx (oRunF oKT oCT oMT (oCall [f0, f1, f2, f3, f4, f5, f6, f7, f8, f9, f10, f11, f12, f13, f14, f15, f16]) oMx.2.2.2.2.1 oMx.2.2.1 oFx 4000 (31, #[.val (.retAddr 0), .val (.retAddr 0), .val (.int (6 : Int32)), .val (.int (13 : Int32)), .val (.ref 0), .unset, .unset, .unset, .unset, .unset, .unset, .unset, .unset, .unset, .unset, .unset, .unset, .unset, .unset, .unset, .unset], [], own_h2_6, 8, 37)) = true := by decide +kernel
set_option maxRecDepth 65536 in
theorem k6_14 : oResF oMx oFx (oRunF oKT oCT oMT (oCall [f0, f1, f2, f3, f4, f5, f6, f7, f8, f9, f10, f11, f12, f13, f14, f15, f16]) oMx.2.2.2.2.1 oMx.2.2.1 oFx 4000 (31, #[.val (.retAddr 0), .val (.retAddr 0), .val (.int (6 : Int32)), .val (.int (14 : Int32)), .val (.ref 0), .unset, .unset, .unset, .unset, .unset, .unset, .unset, .unset, .unset, .unset, .unset, .unset, .unset, .unset, .unset, .unset], [], own_h2_6, 8, 37)) = true := by decide +kernel
set_option maxRecDepth 65536 in
theorem k6_15 : oResF oMx oFx (oRunF oKT oCT oMT (oCall [f0, f1, f2, f3, f4, f5, f6, f7, f8, f9, f10, f11, f12, f13, f14, f15, f16]) oMx.2.2.2.2.1 oMx.2.2.1 oFx 4000 (31, #[.val (.retAddr 0), .val (.retAddr 0), .val (.int (6 : Int32)), .val (.int (15 : Int32)), .val (.ref 0), .unset, .unset, .unset, .unset, .unset, .unset, .unset, .unset, .unset, .unset, .unset, .unset, .unset, .unset, .unset, .unset], [], own_h2_6, 8, 37)) = true := by decide +kernel
set_option maxRecDepth 65536 in
theorem k7_0 : oResF oMx oFx (oRunF oKT oCT oMT (oCall [f0, f1, f2, f3, f4, f5, f6, f7, f8, f9, f10, f11, f12, f13, f14, f15, f16]) oMx.2.2.2.2.1 oMx.2.2.1 oFx 4000 (31, #[.val (.retAddr 0), .val (.retAddr 0), .val (.int (7 : Int32)), .val (.int (0 : Int32)), .val (.ref 0), .unset, .unset, .unset, .unset, .unset, .unset, .unset, .unset, .unset, .unset, .unset, .unset, .unset, .unset, .unset, .unset], [], own_h2_7, 8, 37)) = true := by decide +kernel
set_option maxRecDepth 65536 in
theorem k7_1 : oResF oMx oFx (oRunF oKT oCT oMT (oCall [f0, f1, f2, f3, f4, f5, f6, f7, f8, f9, f10, f11, f12, f13, f14, f15, f16]) oMx.2.2.2.2.1 oMx.2.2.1 oFx 4000 (31, #[.val (.retAddr 0), .val (.retAddr 0), .val (.int (7 : Int32)), .val (.int (1 : Int32)), .val (.ref 0), .unset, .unset, .unset, .unset, .unset, .unset, .unset, .unset, .unset, .unset, .unset, .unset, .unset, .unset, .unset, .unset], [], own_h2_7, 8, 37)) = true := by decide +kernel
set_option maxRecDepth 65536 in
theorem k7_2 : oResF oMx oFx (oRunF oKT oCT oMT (oCall [f0, f1, f2, f3, f4, f5, f6, f7, f8, f9, f10, f11, f12, f13, f14, f15, f16]) oMx.2.2.2.2.1 oMx.2.2.1 oFx 4000 (31, #[.val (.retAddr 0), .val (.retAddr 0), .val (.int (7 : Int32)), .val (.int (2 : Int32)), .val (.ref 0), .unset, .unset, .unset, .unset, .unset, .unset, .unset, .unset, .unset, .unset, .unset, .unset, .unset, .unset, .unset, .unset], [], own_h2_7, 8, 37)) = true := by decide +kernel
set_option maxRecDepth 65536 in
theorem k7_3 : oResF oMx oFx (oRunF oKT oCT oMT (oCall [f0, f1, f2, f3, f4, f5, f6, f7, f8, f9, f10, f11, f12, f13, f14, f15, f16]) oMx.2.2.2.2.1 oMx.2.2.1 oFx 4000 (31, #[.val (.retAddr 0), .val (.retAddr 0), .val (.int (7 : Int32)), .val (.int (3 : Int32)), .val (.ref 0), .unset, .unset, .unset, .unset, .unset, .unset, .unset, .unset, .unset, .unset, .unset, .unset, .unset, .unset, .unset, .unset], [], own_h2_7, 8, 37)) = true := by decide +kernel
set_option maxRecDepth 65536 in
theorem k7_4 : oResF oMx oFx (oRunF oKT oCT oMT (oCall [f0, f1, f2, f3, f4, f5, f6, f7, f8, f9, f10, f11, f12, f13, f14, f15, f16]) oMx.2.2.2.2.1 oMx.2.2.1 oFx 4000 (31, #[.val (.retAddr 0), .val (.retAddr 0), .val (.int (7 : Int32)), .val (.int (4 : Int32)), .val (.ref 0), .unset, .unset, .unset, .unset, .unset, .unset, .unset, .unset, .unset, .unset, .unset, .unset, .unset, .unset, .unset, .unset], [], own_h2_7, 8, 37)) = true := by decide +kernel
set_option maxRecDepth 65536 in
theorem k7_5 : oResF oMx oFx (oRunF oKT oCT oMT (oCall [f0, f1, f2, f3, f4, f5, f6, f7, f8, f9, f10, f11, f12, f13, f14, f15, f16]) oMx.2.2.2.2.1 oMx.2.2.1 oFx 4000 (31, #[.val (.retAddr 0), .val (.retAddr 0), .val (.int (7 : Int32)), .val (.int (5 : Int32)), .val (.ref 0), .unset, .unset, .unset, .unset, .unset, .unset, .unset, .unset, .unset, .unset, .unset, .unset, .unset, .unset, .unset, .unset], [], own_h2_7, 8, 37)) = true := by decide +kernel
set_option maxRecDepth 65536 in
theorem k7_6 : oResF oMx oFx (oRunF oKT oCT oMT (oCall [f0, f1, f2, f3, f4, f5, f6, f7, f8, f9, f10, f11, f12, f13, f14, f15, f16]) oMx.2.2.2.2.1 oMx.2.2.1 oFx 4000 (31, #[.val (.retAddr 0), .val (.retAddr 0), .val (.int (7 : Int32)), .val (.int (6 : Int32)), .val (.ref 0), .unset, .unset, .unset, .unset, .unset, .unset, .unset, .unset, .unset, .unset, .unset, .unset, .unset, .unset, .unset, .unset], [], own_h2_7, 8, 37)) = true := by decide +kernel
set_option maxRecDepth 65536 in
theorem k7_7 : oResF oMx oFx (oRunF oKT oCT oMT (oCall [f0, f1, f2, f3, f4, f5, f6, f7, f8, f9, f10, f11, f12, f13, f14, f15, f16]) oMx.2.2.2.2.1 oMx.2.2.1 oFx 4000 (31, #[.val (.retAddr 0), .val (.retAddr 0), .val (.int (7 : Int32)), .val (.int (7 : Int32)), .val (.ref 0), .unset, .unset, .unset, .unset, .unset, .unset, .unset, .unset, .unset, .unset, .unset, .unset, .unset, .unset, .unset, .unset], [], own_h2_7, 8, 37)) = true := by decide +kernel
set_option maxRecDepth 65536 in
theorem k7_8 : oResF oMx oFx (oRunF oKT oCT oMT (oCall [f0, f1, f2, f3, f4, f5, f6, f7, f8, f9, f10, f11, f12, f13, f14, f15, f16]) oMx.2.2.2.2.1 oMx.2.2.1 oFx 4000 (31, #[.val (.retAddr 0), .val (.retAddr 0), .val (.int (7 : Int32)), .val (.int (8 : Int32)), .val (.ref 0), .unset, .unset, .unset, .unset, .unset, .unset, .unset, .unset, .unset, .unset, .unset, .unset, .unset, .unset, .unset, .unset], [], own_h2_7, 8, 37)) = true := by decide +kernel
set_option maxRecDepth 65536 in
theorem k7_9 : oResF oMx oFx (oRunF oKT oCT oMT (oCall [f0, f1, f2, f3, f4, f5, f6, f7, f8, f9, f10, f11, f12, f13, f14, f15, f16]) oMx.2.2.2.2.1 oMx.2.2.1 oFx 4000 (31, #[.val (.retAddr 0), .val (.retAddr 0), .val (.int (7 : Int32)), .val (.int (9 : Int32)), .val (.ref 0), .unset, .unset, .unset, .unset, .unset, .unset, .unset, .unset, .unset, .unset, .unset, .unset, .unset, .unset, .unset, .unset], [], own_h2_7, 8, 37)) = true := by decide +kernel
set_option maxRecDepth 65536 in
theorem k7_10 : oResF oMx oFx (oRunF oKT oCT oMT (oCall [f0, f1, f2, f3, f4, f5, f6, f7, f8, f9, f10, f11, f12, f13, f14, f15, f16]) oMx.2.2.2.2.1 oMx.2.2.1 oFx 4000 (31, #[.val (.retAddr 0), .val (.retAddr 0), .val (.int (7 : Int32)), .val (.int (10 : Int32)), .val (.ref 0), .unset, .unset, .unset, .unset, .unset, .unset, .unset, .unset, .unset, .unset, .unset, .unset, .unset, .unset, .unset, .unset], [], own_h2_7, 8, 37)) = true := by decide +kernel
set_option maxRecDepth 65536 in
theorem k7_11 : oResF oMx oFx (oRunF oKT oCT oMT (oCall [f0, f1, f2, f3, f4, f5, f6, f7, f8, f9, f10, f11, f12, f13, f14, f15, f16]) oMx.2.2.2.2.1 oMx.2.2.1 oFx 4000 (31, #[.val (.retAddr 0), .val (.retAddr 0), .val (.int (7 : Int32)), .val (.int (11 : Int32)), .val (.ref 0), .unset, .unset, .unset, .unset, .unset, .unset, .unset, .unset, .unset, .unset, .unset, .unset, .unset, .unset, .unset, .unset], [], own_h2_7, 8, 37)) = true := by decide +kernel
set_option maxRecDepth 65536 in
theorem k7_12 : oResF oMx oFx (oRunF oKT oCT oMT (oCall [f0, f1, f2, f3, f4, f5, f6, f7, f8, f9, f10, f11, f12, f13, f14, f15, f16]) oMx.2.2.2.2.1 oMx.2.2.1 oFx 4000 (31, #[.val (.retAddr 0), .val (.retAddr 0), .val (.int (7 : Int32)), .val (.int (12 : Int32)), .val (.ref 0), .unset, .unset, .unset, .unset, .unset, .unset, .unset, .unset, .unset, .unset, .unset, .unset, .unset, .unset, .unset, .unset], [], own_h2_7, 8, 37)) = true := by decide +kernel
set_option maxRecDepth 65536 in
theorem k7_13 : oResF oMx oFx (oRunF oKT oCT oMT (oCall [f0, f1, f2, f3, f4, f5, f6, f7, f8, f9, f10, f11, f12, f13, f14, f15, f16]) oMx.2.2.2.2.1 oMx.2.2.1 oFx 4000 (31, #[.val (.retAddr 0), .val (.retAddr 0), .val (.int (7 : Int32)), .val (.int (13 : Int32)), .val (.ref 0), .unset, .unset, .unset, .unset, .unset, .unset, .unset, .unset, .unset, .unset, .unset, .unset, .unset, .unset, .unset, .unset], [], own_h2_7, 8, 37)) = true := by decide +kernel
set_option maxRecDepth 65536 in
theorem k7_14 : oResF oMx oFx (oRunF oKT oCT oMT (oCall [f0, f1, f2, f3, f4, f5, f6, f7, f8, f9, f10, f11, f12, f13, f14, f15, f16]) oMx.2.2.2.2.1 oMx.2.2.1 oFx 4000 (31, #[.val (.retAddr 0), .val (.retAddr 0), .val (.int (7 : Int32)), .val (.int (14 : Int32)), .val (.ref 0), .unset, .unset, .unset, .unset, .unset, .unset, .unset, .unset, .unset, .unset, .unset, .unset, .unset, .unset, .unset, .unset], [], own_h2_7, 8, 37)) = true := by decide +kernel
set_option maxRecDepth 65536 in
theorem k7_15 : oResF oMx oFx (oRunF oKT oCT oMT (oCall [f0, f1, f2, f3, f4, f5, f6, f7, f8, f9, f10, f11, f12, f13, f14, f15, f16]) oMx.2.2.2.2.1 oMx.2.2.1 oFx 4000 (31, #[.val (.retAddr 0), .val (.retAddr 0), .val (.int (7 : Int32)), .val (.int (15 : Int32)), .val (.ref 0), .unset, .unset, .unset, .unset, .unset, .unset, .unset, .unset, .unset, .unset, .unset, .unset, .unset, .unset, .unset, .unset], [], own_h2_7, 8, 37)) = true := by decide +kernel
set_option maxRecDepth 65536 in
theorem k8_0 : oResF oMx oFx (oRunF oKT oCT oMT (oCall [f0, f1, f2, f3, f4, f5, f6, f7, f8, f9, f10, f11, f12, f13, f14, f15, f16]) oMx.2.2.2.2.1 oMx.2.2.1 oFx 4000 (31, #[.val (.retAddr 0), .val (.retAddr 0), .val (.int (8 : Int32)), .val (.int (0 : Int32)), .val (.ref 0), .unset, .unset, .unset, .unset, .unset, .unset, .unset, .unset, .unset, .unset, .unset, .unset, .unset, .unset, .unset, .unset], [], own_h2_8, 8, 37)) = true := by decide +kernel
set_option maxRecDepth 65536 in
theorem k8_1 : oResF oMx oFx (oRunF oKT oCT oMT (oCall [f0, f1, f2, f3, f4, f5, f6, f7, f8, f9, f10, f11, f12, f13, f14, f15, f16]) oMx.2.2.2.2.1 oMx.2.2.1 oFx 4000 (31, #[.val (.retAddr 0), .val (.retAddr 0), .val (.int (8 : Int32)), .val (.int (1 : Int32)), .val (.ref 0), .unset, .unset, .unset, .unset, .unset, .unset, .unset, .unset, .unset, .unset, .unset, .unset, .unset, .unset, .unset, .unset], [], own_h2_8, 8, 37)) = true := by decide +kernel
set_option maxRecDepth 65536 in
theorem k8_2 : oResF oMx oFx (oRunF oKT oCT oMT (oCall [f0, f1, f2, f3, f4, f5, f6, f7, f8, f9, f10, f11, f12, f13, f14, f15, f16]) oMx.2.2.2.2.1 oMx.2.2.1 oFx 4000 (31, #[.val (.retAddr 0), .val (.retAddr 0), .val (.int (8 : Int32)), .val (.int (2 : Int32)), .val (.ref 0), .unset, .unset, .unset, .unset, .unset, .unset, .unset, .unset, .unset, .unset, .unset, .unset, .unset, .unset, .unset, .unset], [], own_h2_8, 8, 37)) = true := by decide +kernel
set_option maxRecDepth 65536 in
theorem k8_3 : oResF oMx oFx (oRunF oKT oCT oMT (oCall [f0, f1, f2, f3, f4, f5, f6, f7, f8, f9, f10, f11, f12, f13, f14, f15, f16]) oMx.2.2.2.2.1 oMx.2.2.1 oFx 4000 (31, #[.val (.retAddr 0), .val (.retAddr 0), .val (.int (8 : Int32)), .val (.int (3 : Int32)), .val (.ref 0), .unset, .unset, .unset, .unset, .unset, .unset, .unset, .unset, .unset, .unset, .unset, .unset, .unset, .unset, .unset, .unset], [], own_h2_8, 8, 37)) = true := by decide +kernel
set_option maxRecDepth 65536 in
theorem k8_4 : oResF oMx oFx (oRunF oKT oCT oMT (oCall [f0, f1, f2, f3, f4, f5, f6, f7, f8, f9, f10, f11, f12, f13, f14, f15, f16]) oMx.2.2.2.2.1 oMx.2.2.1 oFx 4000 (31, #[.val (.retAddr 0), .val (.retAddr 0), .val (.int (8 : Int32)), .val (.int (4 : Int32)), .val (.ref 0), .unset, .unset, .unset, .unset, .unset, .unset, .unset, .unset, .unset, .unset, .unset, .unset, .unset, .unset, .unset, .unset], [], own_h2_8, 8, 37)) = true := by decide +kernel
set_option maxRecDepth 65536 in
theorem k8_5 : oResF oMx oFx (oRunF oKT oCT oMT (oCall [f0, f1, f2, f3, f4, f5, f6, f7, f8, f9, f10, f11, f12, f13, f14, f15, f16]) oMx.2.2.2.2.1 oMx.2.2.1 oFx 4000 (31, #[.val (.retAddr 0), .val (.retAddr 0), .val (.int (8 : Int32)), .val (.int (5 : Int32)), .val (.ref 0), .unset, .unset, .unset, .unset, .unset, .unset, .unset, .unset, .unset, .unset, .unset, .unset, .unset, .unset, .unset, .unset], [], own_h2_8, 8, 37)) = true := by decide +kernel
set_option maxRecDepth 65536 in
theorem k8_6 : oResF oMx oFx (oRunF oKT oCT oMT (oCall [f0, f1, f2, f3, f4, f5, f6, f7, f8, f9, f10, f11, f12, f13, f14, f15, f16]) oMx.2.2.2.2.1 oMx.2.2.1 oFx 4000 (31, #[.val (.retAddr 0), .val (.retAddr 0), .val (.int (8 : Int32)), .val (.int (6 : Int32)), .val (.ref 0), .unset, .unset, .unset, .unset, .unset, .unset, .unset, .unset, .unset, .unset, .unset, .unset, .unset, .unset, .unset, .unset], [], own_h2_8, 8, 37)) = true := by decide +kernel
set_option maxRecDepth 65536 in
theorem k8_7 : oResF oMx oFx (oRunF oKT oCT oMT (oCall [f0, f1, f2, f3, f4, f5, f6, f7, f8, f9, f10, f11, f12, f13, f14, f15, f16]) oMx.2.2.2.2.1 oMx.2.2.1 oFx 4000 (31, #[.val (.retAddr 0), .val (.retAddr 0), .val (.int (8 : Int32)), .val (.int (7 : Int32)), .val (.ref 0), .unset, .unset, .unset, .unset, .unset, .unset, .unset, .unset, .unset, .unset, .unset, .unset, .unset, .unset, .unset, .unset], [], own_h2_8, 8, 37)) = true := by decide +kernel
set_option maxRecDepth 65536 in
theorem k8_8 : oResF oMx oFx (oRunF oKT oCT oMT (oCall [f0, f1, f2, f3, f4, f5, f6, f7, f8, f9, f10, f11, f12, f13, f14, f15, f16]) oMx.2.2.2.2.1 oMx.2.2.1 oFx 4000 (31, #[.val (.retAddr 0), .val (.retAddr 0), .val (.int (8 : Int32)), .val (.int (8 : Int32)), .val (.ref 0), .unset, .unset, .unset, .unset, .unset, .unset, .unset, .unset, .unset, .unset, .unset, .unset, .unset, .unset, .unset, .unset], [], own_h2_8, 8, 37)) = true := by decide +kernel
set_option maxRecDepth 65536 in
theorem k8_9 : oResF oMx oFx (oRunF oKT oCT oMT (oCall [f0, f1, f2, f3, f4, f5, f6, f7, f8, f9, f10, f11, f12, f13, f14, f15, f16]) oMx.2.2.2.2.1 oMx.2.2.1 oFx 4000 (31, #[.val (.retAddr 0), .val (.retAddr 0), .val (.int (8 : Int32)), .val (.int (9 : Int32)), .val (.ref 0), .unset, .unset, .unset, .unset, .unset, .unset, .unset, .unset, .unset, .unset, .unset, .unset, .unset, .unset, .unset, .unset], [], own_h2_8, 8, 37)) = true := by decide +kernel
set_option maxRecDepth 65536 in
theorem k8_10 : oResF oMx oFx (oRunF oKT oCT oMT (oCall [f0, f1, f2, f3, f4, f5, f6, f7, f8, f9, f10, f11, f12, f13, f14, f15, f16]) oMx.2.2.2.2.1 oMx.2.2.1 oFx 4000 (31, #[.val (.retAddr 0), .val (.retAddr 0), .val (.int (8 : Int32)), .val (.int (10 : Int32)), .val (.ref 0), .unset, .unset, .unset, .unset, .unset, .unset, .unset, .unset, .unset, .unset, .unset, .unset, .unset, .unset, .unset, .unset], [], own_h2_8, 8, 37)) = true := by decide +kernel
set_option maxRecDepth 65536 in
theorem k8_11 : oResF oMx oFx (oRunF oKT oCT oMT (oCall [f0, f1, f2, f3, f4, f5, f6, f7, f8, f9, f10, f11, f12, f13, f14, f15, f16]) oMx.2.2.2.2.1 oMx.2.2.1 oFx 4000 (31, #[.val (.retAddr 0), .val (.retAddr 0), .val (.int (8 : Int32)), .val (.int (11 : Int32)), .val (.ref 0), .unset, .unset, .unset, .unset, .unset, .unset, .unset, .unset, .unset, .unset, .unset, .unset, .unset, .unset, .unset, .unset], [], own_h2_8, 8, 37)) = true := by decide +kernel
set_option maxRecDepth 65536 in
theorem k8_12 : oResF oMx oFx (oRunF oKT oCT oMT (oCall [f0, f1, f2, f3, f4, f5, f6, f7, f8, f9, f10, f11, f12, f13, f14, f15, f16]) oMx.2.2.2.2.1 oMx.2.2.1 oFx 4000 (31, #[.val (.retAddr 0), .val (.retAddr 0), .val (.int (8 : Int32)), .val (.int (12 : Int32)), .val (.ref 0), .unset, .unset, .unset, .unset, .unset, .unset, .unset, .unset, .unset, .unset, .unset, .unset, .unset, .unset, .unset, .unset], [], own_h2_8, 8, 37)) = true := by decide +kernel
set_option maxRecDepth 65536 in
theorem k8_13 : oResF oMx oFx (oRunF oKT oCT oMT (oCall [f0, f1, f2, f3, f4, f5, f6, f7, f8, f9, f10, f11, f12, f13, f14, f15, f16]) oMx.2.2.2.2.1 oMx.2.2.1 oFx 4000 (31, #[.val (.retAddr 0), .val (.retAddr 0), .val (.int (8 : Int32)), .val (.int (13 : Int32)), .val (.ref 0), .unset, .unset, .unset, .unset, .unset, .unset, .unset, .unset, .unset, .unset, .unset, .unset, .unset, .unset, .unset, .unset], [], own_h2_8, 8, 37)) = true := by decide +kernel
set_option maxRecDepth 65536 in
theorem k8_14 : oResF oMx oFx (oRunF oKT oCT oMT (oCall [f0, f1, f2, f3, f4, f5, f6, f7, f8, f9, f10, f11, f12, f13, f14, f15, f16]) oMx.2.2.2.2.1 oMx.2.2.1 oFx 4000 (31, #[.val (.retAddr 0), .val (.retAddr 0), .val (.int (8 : Int32)), .val (.int (14 : Int32)), .val (.ref 0), .unset, .unset, .unset, .unset, .unset, .unset, .unset, .unset, .unset, .unset, .unset, .unset, .unset, .unset, .unset, .unset], [], own_h2_8, 8, 37)) = true := by decide +kernel
set_option maxRecDepth 65536 in
theorem k8_15 : oResF oMx oFx (oRunF oKT oCT oMT (oCall [f0, f1, f2, f3, f4, f5, f6, f7, f8, f9, f10, f11, f12, f13, f14, f15, f16]) oMx.2.2.2.2.1 oMx.2.2.1 oFx 4000 (31, #[.val (.retAddr 0), .val (.retAddr 0), .val (.int (8 : Int32)), .val (.int (15 : Int32)), .val (.ref 0), .unset, .unset, .unset, .unset, .unset, .unset, .unset, .unset, .unset, .unset, .unset, .unset, .unset, .unset, .unset, .unset], [], own_h2_8, 8, 37)) = true := by decide +kernel
set_option maxRecDepth 65536 in
theorem k9_0 : oResF oMx oFx (oRunF oKT oCT oMT (oCall [f0, f1, f2, f3, f4, f5, f6, f7, f8, f9, f10, f11, f12, f13, f14, f15, f16]) oMx.2.2.2.2.1 oMx.2.2.1 oFx 4000 (31, #[.val (.retAddr 0), .val (.retAddr 0), .val (.int (9 : Int32)), .val (.int (0 : Int32)), .val (.ref 0), .unset, .unset, .unset, .unset, .unset, .unset, .unset, .unset, .unset, .unset, .unset, .unset, .unset, .unset, .unset, .unset], [], own_h2_9, 8, 37)) = true := by decide +kernel
set_option maxRecDepth 65536 in
theorem k9_1 : oResF oMx oFx (oRunF oKT oCT oMT (oCall [f0, f1, f2, f3, f4, f5, f6, f7, f8, f9, f10, f11, f12, f13, f14, f15, f16]) oMx.2.2.2.2.1 oMx.2.2.1 oFx 4000 (31, #[.val (.retAddr 0), .val (.retAddr 0), .val (.int (9 : Int32)), .val (.int (1 : Int32)), .val (.ref 0), .unset, .unset, .unset, .unset, .unset, .unset, .unset, .unset, .unset, .unset, .unset, .unset, .unset, .unset, .unset, .unset], [], own_h2_9, 8, 37)) = true := by decide +kernel
set_option maxRecDepth 65536 in
theorem k9_2 : oResF oMx oFx (oRunF oKT oCT oMT (oCall [f0, f1, f2, f3, f4, f5, f6, f7, f8, f9, f10, f11, f12, f13, f14, f15, f16]) oMx.2.2.2.2.1 oMx.2.2.1 oFx 4000 (31, #[.val (.retAddr 0), .val (.retAddr 0), .val (.int (9 : Int32)), .val (.int (2 : Int32)), .val (.ref 0), .unset, .unset, .unset, .unset, .unset, .unset, .unset, .unset, .unset, .unset, .unset, .unset, .unset, .unset, .unset, .unset], [], own_h2_9, 8, 37)) = true := by decide +kernel
set_option maxRecDepth 65536 in
theorem k9_3 : oResF oMx oFx (oRunF oKT oCT oMT (oCall [f0, f1, f2, f3, f4, f5, f6, f7, f8, f9, f10, f11, f12, f13, f14, f15, f16]) oMx.2.2.2.2.1 oMx.2.2.1 oFx 4000 (31, #[.val (.retAddr 0), .val (.retAddr 0), .val (.int (9 : Int32)), .val (.int (3 : Int32)), .val (.ref 0), .unset, .unset, .unset, .unset, .unset, .unset, .unset, .unset, .unset, .unset, .unset, .unset, .unset, .unset, .unset, .unset], [], own_h2_9, 8, 37)) = true := by decide +kernel
set_option maxRecDepth 65536 in
theorem k9_4 : oResF oMx oFx (oRunF oKT oCT oMT (oCall [f0, f1, f2, f3, f4, f5, f6, f7, f8, f9, f10, f11, f12, f13, f14, f15, f16]) oMx.2.2.2.2.1 oMx.2.2.1 oFx 4000 (31, #[.val (.retAddr 0), .val (.retAddr 0), .val (.int (9 : Int32)), .val (.int (4 : Int32)), .val (.ref 0), .unset, .unset, .unset, .unset, .unset, .unset, .unset, .unset, .unset, .unset, .unset, .unset, .unset, .unset, .unset, .unset], [], own_h2_9, 8, 37)) = true := by decide +kernel
set_option maxRecDepth 65536 in
theorem k9_5 : oResF oMx oFx (oRunF oKT oCT oMT (oCall [f0, f1, f2, f3, f4, f5, f6, f7, f8, f9, f10, f11, f12, f13, f14, f15, f16]) oMx.2.2.2.2.1 oMx.2.2.1 oFx 4000 (31, #[.val (.retAddr 0), .val (.retAddr 0), .val (.int (9 : Int32)), .val (.int (5 : Int32)), .val (.ref 0), .unset, .unset, .unset, .unset, .unset, .unset, .unset, .unset, .unset, .unset, .unset, .unset, .unset, .unset, .unset, .unset], [], own_h2_9, 8, 37)) = true := by decide +kernel
set_option maxRecDepth 65536 in
theorem k9_6 : oResF oMx oFx (oRunF oKT oCT oMT (oCall [f0, f1, f2, f3, f4, f5, f6, f7, f8, f9, f10, f11, f12, f13, f14, f15, f16]) oMx.2.2.2.2.1 oMx.2.2.1 oFx 4000 (31, #[.val (.retAddr 0), .val (.retAddr 0), .val (.int (9 : Int32)), .val (.int (6 : Int32)), .val (.ref 0), .unset, .unset, .unset, .unset, .unset, .unset, .unset, .unset, .unset, .unset, .unset, .unset, .unset, .unset, .unset, .unset], [], own_h2_9, 8, 37)) = true := by decide +kernel
set_option maxRecDepth 65536 in
theorem k9_7 : oResF oMx oFx (oRunF oKT oCT oMT (oCall [f0, f1, f2, f3, f4, f5, f6, f7, f8, f9, f10, f11, f12, f13, f14, f15, f16]) oMx.2.2.2.2.1 oMx.2.2.1 oFx 4000 (31, #[.val (.retAddr 0), .val (.retAddr 0), .val (.int (9 : Int32)), .val (.int (7 : Int32)), .val (.ref 0), .unset, .unset, .unset, .unset, .unset, .unset, .unset, .unset, .unset, .unset, .unset, .unset, .unset, .unset, .unset, .unset], [], own_h2_9, 8, 37)) = true := by decide +kernel
set_option maxRecDepth 65536 in
theorem k9_8 : oResF oMx oFx (oRunF oKT oCT oMT (oCall [f0, f1, f2, f3, f4, f5, f6, f7, f8, f9, f10, f11, f12, f13, f14, f15, f16]) oMx.2.2.2.2.1 oMx.2.2.1 oFx 4000 (31, #[.val (.retAddr 0), .val (.retAddr 0), .val (.int (9 : Int32)), .val (.int (8 : Int32)), .val (.ref 0), .unset, .unset, .unset, .unset, .unset, .unset, .unset, .unset, .unset, .unset, .unset, .unset, .unset, .unset, .unset, .unset], [], own_h2_9, 8, 37)) = true := by decide +kernel
set_option maxRecDepth 65536 in
theorem k9_9 : oResF oMx oFx (oRunF oKT oCT oMT (oCall [f0, f1, f2, f3, f4, f5, f6, f7, f8, f9, f10, f11, f12, f13, f14, f15, f16]) oMx.2.2.2.2.1 oMx.2.2.1 oFx 4000 (31, #[.val (.retAddr 0), .val (.retAddr 0), .val (.int (9 : Int32)), .val (.int (9 : Int32)), .val (.ref 0), .unset, .unset, .unset, .unset, .unset, .unset, .unset, .unset, .unset, .unset, .unset, .unset, .unset, .unset, .unset, .unset], [], own_h2_9, 8, 37)) = true := by decide +kernel
set_option maxRecDepth 65536 in
theorem k9_10 : oResF oMx oFx (oRunF oKT oCT oMT (oCall [f0, f1, f2, f3, f4, f5, f6, f7, f8, f9, f10, f11, f12, f13, f14, f15, f16]) oMx.2.2.2.2.1 oMx.2.2.1 oFx 4000 (31, #[.val (.retAddr 0), .val (.retAddr 0), .val (.int (9 : Int32)), .val (.int (10 : Int32)), .val (.ref 0), .unset, .unset, .unset, .unset, .unset, .unset, .unset, .unset, .unset, .unset, .unset, .unset, .unset, .unset, .unset, .unset], [], own_h2_9, 8, 37)) = true := by decide +kernel
set_option maxRecDepth 65536 in
theorem k9_11 : oResF oMx oFx (oRunF oKT oCT oMT (oCall [f0, f1, f2, f3, f4, f5, f6, f7, f8, f9, f10, f11, f12, f13, f14, f15, f16]) oMx.2.2.2.2.1 oMx.2.2.1 oFx 4000 (31, #[.val (.retAddr 0), .val (.retAddr 0), .val (.int (9 : Int32)), .val (.int (11 : Int32)), .val (.ref 0), .unset, .unset, .unset, .unset, .unset, .unset, .unset, .unset, .unset, .unset, .unset, .unset, .unset, .unset, .unset, .unset], [], own_h2_9, 8, 37)) = true := by decide +kernel
set_option maxRecDepth 65536 in
theorem k9_12 : oResF oMx oFx (oRunF oKT oCT oMT (oCall [f0, f1, f2, f3, f4, f5, f6, f7, f8, f9, f10, f11, f12, f13, f14, f15, f16]) oMx.2.2.2.2.1 oMx.2.2.1 oFx 4000 (31, #[.val (.retAddr 0), .val (.retAddr 0), .val (.int (9 : Int32)), .val (.int (12 : Int32)), .val (.ref 0), .unset, .unset, .unset, .unset, .unset, .unset, .unset, .unset, .unset, .unset, .unset, .unset, .unset, .unset, .unset, .unset], [], own_h2_9, 8, 37)) = true := by decide +kernel
set_option maxRecDepth 65536 in
theorem k9_13 : oResF oMx oFx (oRunF oKT oCT oMT (oCall [f0, f1, f2, f3, f4, f5, f6, f7, f8, f9, f10, f11, f12, f13, f14, f15, f16]) oMx.2.2.2.2.1 oMx.2.2.1 oFx 4000 (31, #[.val (.retAddr 0), .val (.retAddr 0), .val (.int (9 : Int32)), .val (.int (13 : Int32)), .val (.ref 0), .unset, .unset, .unset, .unset, .unset, .unset, .unset, .unset, .unset, .unset, .unset, .unset, .unset, .unset, .unset, .unset], [], own_h2_9, 8, 37)) = true := by decide +kernel
set_option maxRecDepth 65536 in
theorem k9_14 : oResF oMx oFx (oRunF oKT oCT oMT (oCall [f0, f1, f2, f3, f4, f5, f6, f7, f8, f9, f10, f11, f12, f13, f14, f15, f16]) oMx.2.2.2.2.1 oMx.2.2.1 oFx 4000 (31, #[.val (.retAddr 0), .val (.retAddr 0), .val (.int (9 : Int32)), .val (.int (14 : Int32)), .val (.ref 0), .unset, .unset, .unset, .unset, .unset, .unset, .unset, .unset, .unset, .unset, .unset, .unset, .unset, .unset, .unset, .unset], [], own_h2_9, 8, 37)) = true := by decide +kernel
set_option maxRecDepth 65536 in
theorem k9_15 : oResF oMx oFx (oRunF oKT oCT oMT (oCall [f0, f1, f2, f3, f4, f5, f6, f7, f8, f9, f10, f11, f12, f13, f14, f15, f16]) oMx.2.2.2.2.1 oMx.2.2.1 oFx 4000 (31, #[.val (.retAddr 0), .val (.retAddr 0), .val (.int (9 : Int32)), .val (.int (15 : Int32)), .val (.ref 0), .unset, .unset, .unset, .unset, .unset, .unset, .unset, .unset, .unset, .unset, .unset, .unset, .unset, .unset, .unset, .unset], [], own_h2_9, 8, 37)) = true := by decide +kernel
set_option maxRecDepth 65536 in
theorem k10_0 : oResF oMx oFx (oRunF oKT oCT oMT (oCall [f0, f1, f2, f3, f4, f5, f6, f7, f8, f9, f10, f11, f12, f13, f14, f15, f16]) oMx.2.2.2.2.1 oMx.2.2.1 oFx 4000 (31, #[.val (.retAddr 0), .val (.retAddr 0), .val (.int (10 : Int32)), .val (.int (0 : Int32)), .val (.ref 0), .unset, .unset, .unset, .unset, .unset, .unset, .unset, .unset, .unset, .unset, .unset, .unset, .unset, .unset, .unset, .unset], [], own_h2_10, 8, 37)) = true := by decide +kernel
set_option maxRecDepth 65536 in
theorem k10_1 : oResF oMx oFx (oRunF oKT oCT oMT (oCall [f0, f1, f2, f3, f4, f5, f6, f7, f8, f9, f10, f11, f12, f13, f14, f15, f16]) oMx.2.2.2.2.1 oMx.2.2.1 oFx 4000 (31, #[.val (.retAddr 0), .val (.retAddr 0), .val (.int (10 : Int32)), .val (.int (1 : Int32)), .val (.ref 0), .unset, .unset, .unset, .unset, .unset, .unset, .unset, .unset, .unset, .unset, .unset, .unset, .unset, .unset, .unset, .unset], [], own_h2_10, 8, 37)) = true := by decide +kernel
set_option maxRecDepth 65536 in
theorem k10_2 : oResF oMx oFx (oRunF oKT oCT oMT (oCall [f0, f1, f2, f3, f4, f5, f6, f7, f8, f9, f10, f11, f12, f13, f14, f15, f16]) oMx.2.2.2.2.1 oMx.2.2.1 oFx 4000 (31, #[.val (.retAddr 0), .val (.retAddr 0), .val (.int (10 : Int32)), .val (.int (2 : Int32)), .val (.ref 0), .unset, .unset, .unset, .unset, .unset, .unset, .unset, .unset, .unset, .unset, .unset, .unset, .unset, .unset, .unset, .unset], [], own_h2_10, 8, 37)) = true := by decide +kernel
set_option maxRecDepth 65536 in
theorem k10_3 : oResF oMx oFx (oRunF oKT oCT oMT (oCall [f0, f1, f2, f3, f4, f5, f6, f7, f8, f9, f10, f11, f12, f13, f14, f15, f16]) oMx.2.2.2.2.1 oMx.2.2.1 oFx 4000 (31, #[.val (.retAddr 0), .val (.retAddr 0), .val (.int (10 : Int32)), .val (.int (3 : Int32)), .val (.ref 0), .unset, .unset, .unset, .unset, .unset, .unset, .unset, .unset, .unset, .unset, .unset, .unset, .unset, .unset, .unset, .unset], [], own_h2_10, 8, 37)) = true := by decide +kernel
set_option maxRecDepth 65536 in
theorem k10_4 : oResF oMx oFx (oRunF oKT oCT oMT (oCall [f0, f1, f2, f3, f4, f5, f6, f7, f8, f9, f10, f11, f12, f13, f14, f15, f16]) oMx.2.2.2.2.1 oMx.2.2.1 oFx 4000 (31, #[.val (.retAddr 0), .val (.retAddr 0), .val (.int (10 : Int32)), .val (.int (4 : Int32)), .val (.ref 0), .unset, .unset, .unset, .unset, .unset, .unset, .unset, .unset, .unset, .unset, .unset, .unset, .unset, .unset, .unset, .unset], [], own_h2_10, 8, 37)) = true := by decide +kernel
set_option maxRecDepth 65536 in
theorem k10_5 : oResF oMx oFx (oRunF oKT oCT oMT (oCall [f0, f1, f2, f3, f4, f5, f6, f7, f8, f9, f10, f11, f12, f13, f14, f15, f16]) oMx.2.2.2.2.1 oMx.2.2.1 oFx 4000 (31, #[.val (.retAddr 0), .val (.retAddr 0), .val (.int (10 : Int32)), .val (.int (5 : Int32)), .val (.ref 0), .unset, .unset, .unset, .unset, .unset, .unset, .unset, .unset, .unset, .unset, .unset, .unset, .unset, .unset, .unset, .unset], [], own_h2_10, 8, 37)) = true := by decide +kernel
set_option maxRecDepth 65536 in
theorem k10_6 : oResF oMx oFx (oRunF oKT oCT oMT (oCall [f0, f1, f2, f3, f4, f5, f6, f7, f8, f9, f10, f11, f12, f13, f14, f15, f16]) oMx.2.2.2.2.1 oMx.2.2.1 oFx 4000 (31, #[.val (.retAddr 0), .val (.retAddr 0), .val (.int (10 : Int32)), .val (.int (6 : Int32)), .val (.ref 0), .unset, .unset, .unset, .unset, .unset, .unset, .unset, .unset, .unset, .unset, .unset, .unset, .unset, .unset, .unset, .unset], [], own_h2_10, 8, 37)) = true := by decide +kernel
set_option maxRecDepth 65536 in
theorem k10_7 : oResF oMx oFx (oRunF oKT oCT oMT (oCall [f0, f1, f2, f3, f4, f5, f6, f7, f8, f9, f10, f11, f12, f13, f14, f15, f16]) oMx.2.2.2.2.1 oMx.2.2.1 oFx 4000 (31, #[.val (.retAddr 0), .val (.retAddr 0), .val (.int (10 : Int32)), .val (.int (7 : Int32)), .val (.ref 0), .unset, .unset, .unset, .unset, .unset, .unset, .unset, .unset, .unset, .unset, .unset, .unset, .unset, .unset, .unset, .unset], [], own_h2_10, 8, 37)) = true := by decide +kernel
set_option maxRecDepth 65536 in
theorem k10_8 : oResF oMx oFx (oRunF oKT oCT oMT (oCall [f0, f1, f2, f3, f4, f5, f6, f7, f8, f9, f10, f11, f12, f13, f14, f15, f16]) oMx.2.2.2.2.1 oMx.2.2.1 oFx 4000 (31, #[.val (.retAddr 0), .val (.retAddr 0), .val (.int (10 : Int32)), .val (.int (8 : Int32)), .val (.ref 0), .unset, .unset, .unset, .unset, .unset, .unset, .unset, .unset, .unset, .unset, .unset, .unset, .unset, .unset, .unset, .unset], [], own_h2_10, 8, 37)) = true := by decide +kernel
set_option maxRecDepth 65536 in
theorem k10_9 : oResF oMx oFx (oRunF oKT oCT oMT (oCall [f0, f1, f2, f3, f4, f5, f6, f7, f8, f9, f10, f11, f12, f13, f14, f15, f16]) oMx.2.2.2.2.1 oMx.2.2.1 oFx 4000 (31, #[.val (.retAddr 0), .val (.retAddr 0), .val (.int (10 : Int32)), .val (.int (9 : Int32)), .val (.ref 0), .unset, .unset, .unset, .unset, .unset, .unset, .unset, .unset, .unset, .unset, .unset, .unset, .unset, .unset, .unset, .unset], [], own_h2_10, 8, 37)) = true := by decide +kernel
set_option maxRecDepth 65536 in
theorem k10_10 : oResF oMx oFx (oRunF oKT oCT oMT (oCall [f0, f1, f2, f3, f4, f5, f6, f7, f8, f9, f10, f11, f12, f13, f14, f15, f16]) oMx.2.2.2.2.1 oMx.2.2.1 oFx 4000 (31, #[.val (.retAddr 0), .val (.retAddr 0), .val (.int (10 : Int32)), .val (.int (10 : Int32)), .val (.ref 0), .unset, .unset, .unset, .unset, .unset, .unset, .unset, .unset, .unset, .unset, .unset, .unset, .unset, .unset, .unset, .unset], [], own_h2_10, 8, 37)) = true := by decide +kernel
set_option maxRecDepth 65536 in
theorem k10_11 : oResF oMx oFx (oRunF oKT oCT oMT (oCall [f0, f1, f2, f3, f4, f5, f6, f7, f8, f9, f10, f11, f12, f13, f14, f15, f16]) oMx.2.2.2.2.1 oMx.2.2.1 oFx 4000 (31, #[.val (.retAddr 0), .val (.retAddr 0), .val (.int (10 : Int32)), .val (.int (11 : Int32)), .val (.ref 0), .unset, .unset, .unset, .unset, .unset, .unset, .unset, .unset, .unset, .unset, .unset, .unset, .unset, .unset, .unset, .unset], [], own_h2_10, 8, 37)) = true := by decide +kernel
set_option maxRecDepth 65536 in
theorem k10_12 : oResF oMx oFx (oRunF oKT oCT oMT (oCall [f0, f1, f2, f3, f4, f5, f6, f7, f8, f9, f10, f11, f12, f13, f14, f15, f16]) oMx.2.2.2.2.1 oMx.2.2.1 oFx 4000 (31, #[.val (.retAddr 0), .val (.retAddr 0), .val (.int (10 : Int32)), .val (.int (12 : Int32)), .val (.ref 0), .unset, .unset, .unset, .unset, .unset, .unset, .unset, .unset, .unset, .unset, .unset, .unset, .unset, .unset, .unset, .unset], [], own_h2_10, 8, 37)) = true := by decide +kernel
set_option maxRecDepth 65536 in
theorem k10_13 : oResF oMx oFx (oRunF oKT oCT oMT (oCall [f0, f1, f2, f3, f4, f5, f6, f7, f8, f9, f10, f11, f12, f13, f14, f15, f16]) oMx.2.2.2.2.1 oMx.2.2.1 oFx 4000 (31, #[.val (.retAddr 0), .val (.retAddr 0), .val (.int (10 : Int32)), .val (.int (13 : Int32)), .val (.ref 0), .unset, .unset, .unset, .unset, .unset, .unset, .unset, .unset, .unset, .unset, .unset, .unset, .unset, .unset, .unset, .unset], [], own_h2_10, 8, 37)) = true := by decide +kernel
set_option maxRecDepth 65536 in
theorem k10_14 : oResF oMx oFx (oRunF oKT oCT oMT (oCall [f0, f1, f2, f3, f4, f5, f6, f7, f8, f9, f10, f11, f12, f13, f14, f15, f16]) oMx.2.2.2.2.1 oMx.2.2.1 oFx 4000 (31, #[.val (.retAddr 0), .val (.retAddr 0), .val (.int (10 : Int32)), .val (.int (14 : Int32)), .val (.ref 0), .unset, .unset, .unset, .unset, .unset, .unset, .unset, .unset, .unset, .unset, .unset, .unset, .unset, .unset, .unset, .unset], [], own_h2_10, 8, 37)) = true := by decide +kernel
set_option maxRecDepth 65536 in
theorem k10_15 : oResF oMx oFx (oRunF oKT oCT oMT (oCall [f0, f1, f2, f3, f4, f5, f6, f7, f8, f9, f10, f11, f12, f13, f14, f15, f16]) oMx.2.2.2.2.1 oMx.2.2.1 oFx 4000 (31, #[.val (.retAddr 0), .val (.retAddr 0), .val (.int (10 : Int32)), .val (.int (15 : Int32)), .val (.ref 0), .unset, .unset, .unset, .unset, .unset, .unset, .unset, .unset, .unset, .unset, .unset, .unset, .unset, .unset, .unset, .unset], [], own_h2_10, 8, 37)) = true := by decide +kernel
set_option maxRecDepth 65536 in
theorem k11_0 : oResF oMx oFx (oRunF oKT oCT oMT (oCall [f0, f1, f2, f3, f4, f5, f6, f7, f8, f9, f10, f11, f12, f13, f14, f15, f16]) oMx.2.2.2.2.1 oMx.2.2.1 oFx 4000 (31, #[.val (.retAddr 0), .val (.retAddr 0), .val (.int (11 : Int32)), .val (.int (0 : Int32)), .val (.ref 0), .unset, .unset, .unset, .unset, .unset, .unset, .unset, .unset, .unset, .unset, .unset, .unset, .unset, .unset, .unset, .unset], [], own_h2_11, 8, 37)) = true := by decide +kernel
set_option maxRecDepth 65536 in
theorem k11_1 : oResF oMx oFx (oRunF oKT oCT oMT (oCall [f0, f1, f2, f3, f4, f5, f6, f7, f8, f9, f10, f11, f12, f13, f14, f15, f16]) oMx.2.2.2.2.1 oMx.2.2.1 oFx 4000 (31, #[.val (.retAddr 0), .val (.retAddr 0), .val (.int (11 : Int32)), .val (.int (1 : Int32)), .val (.ref 0), .unset, .unset, .unset, .unset, .unset, .unset, .unset, .unset, .unset, .unset, .unset, .unset, .unset, .unset, .unset, .unset], [], own_h2_11, 8, 37)) = true := by decide +kernel
set_option maxRecDepth 65536 in
theorem k11_2 : oResF oMx oFx (oRunF oKT oCT oMT (oCall [f0, f1, f2, f3, f4, f5, f6, f7, f8, f9, f10, f11, f12, f13, f14, f15, f16]) oMx.2.2.2.2.1 oMx.2.2.1 oFx 4000 (31, #[.val (.retAddr 0), .val (.retAddr 0), .val (.int (11 : Int32)), .val (.int (2 : Int32)), .val (.ref 0), .unset, .unset, .unset, .unset, .unset, .unset, .unset, .unset, .unset, .unset, .unset, .unset, .unset, .unset, .unset, .unset], [], own_h2_11, 8, 37)) = true := by decide +kernel
set_option maxRecDepth 65536 in
theorem k11_3 : oResF oMx oFx (oRunF oKT oCT oMT (oCall [f0, f1, f2, f3, f4, f5, f6, f7, f8, f9, f10, f11, f12, f13, f14, f15, f16]) oMx.2.2.2.2.1 oMx.2.2.1 oFx 4000 (31, #[.val (.retAddr 0), .val (.retAddr 0), .val (.int (11 : Int32)), .val (.int (3 : Int32)), .val (.ref 0), .unset, .unset, .unset, .unset, .unset, .unset, .unset, .unset, .unset, .unset, .unset, .unset, .unset, .unset, .unset, .unset], [], own_h2_11, 8, 37)) = true := by decide +kernel
set_option maxRecDepth 65536 in
theorem k11_4 : oResF oMx oFx (oRunF oKT oCT oMT (oCall [f0, f1, f2, f3, f4, f5, f6, f7, f8, f9, f10, f11, f12, f13, f14, f15, f16]) oMx.2.2.2.2.1 oMx.2.2.1 oFx 4000 (31, #[.val (.retAddr 0), .val (.retAddr 0), .val (.int (11 : Int32)), .val (.int (4 : Int32)), .val (.ref 0), .unset, .unset, .unset, .unset, .unset, .unset, .unset, .unset, .unset, .unset, .unset, .unset, .unset, .unset, .unset, .unset], [], own_h2_11, 8, 37)) = true := by decide +kernel
set_option maxRecDepth 65536 in
theorem k11_5 : oResF oMx oFx (oRunF oKT oCT oMT (oCall [f0, f1, f2, f3, f4, f5, f6, f7, f8, f9, f10, f11, f12, f13, f14, f15, f16]) oMx.2.2.2.2.1 oMx.2.2.1 oFx 4000 (31, #[.val (.retAddr 0), .val (.retAddr 0), .val (.int (11 : Int32)), .val (.int (5 : Int32)), .val (.ref 0), .unset, .unset, .unset, .unset, .unset, .unset, .unset, .unset, .unset, .unset, .unset, .unset, .unset, .unset, .unset, .unset], [], own_h2_11, 8, 37)) = true := by decide +kernel
set_option maxRecDepth 65536 in
theorem k11_6 : oResF oMx oFx (oRunF oKT oCT oMT (oCall [f0, f1, f2, f3, f4, f5, f6, f7, f8, f9, f10, f11, f12, f13, f14, f15, f16]) oMx.2.2.2.2.1 oMx.2.2.1 oFx 4000 (31, #[.val (.retAddr 0), .val (.retAddr 0), .val (.int (11 : Int32)), .val (.int (6 : Int32)), .val (.ref 0), .unset, .unset, .unset, .unset, .unset, .unset, .unset, .unset, .unset, .unset, .unset, .unset, .unset, .unset, .unset, .unset], [], own_h2_11, 8, 37)) = true := by decide +kernel
set_option maxRecDepth 65536 in
theorem k11_7 : oResF oMx oFx (oRunF oKT oCT oMT (oCall [f0, f1, f2, f3, f4, f5, f6, f7, f8, f9, f10, f11, f12, f13, f14, f15, f16]) oMx.2.2.2.2.1 oMx.2.2.1 oFx 4000 (31, #[.val (.retAddr 0), .val (.retAddr 0), .val (.int (11 : Int32)), .val (.int (7 : Int32)), .val (.ref 0), .unset, .unset, .unset, .unset, .unset, .unset, .unset, .unset, .unset, .unset, .unset, .unset, .unset, .unset, .unset, .unset], [], own_h2_11, 8, 37)) = true := by decide +kernel
set_option maxRecDepth 65536 in
theorem k11_8 : oResF oMx oFx (oRunF oKT oCT oMT (oCall [f0, f1, f2, f3, f4, f5, f6, f7, f8, f9, f10, f11, f12, f13, f14, f15, f16]) oMx.2.2.2.2.1 oMx.2.2.1 oFx 4000 (31, #[.val (.retAddr 0), .val (.retAddr 0), .val (.int (11 : Int32)), .val (.int (8 : Int32)), .val (.ref 0), .unset, .unset, .unset, .unset, .unset, .unset, .unset, .unset, .unset, .unset, .unset, .unset, .unset, .unset, .unset, .unset], [], own_h2_11, 8, 37)) = true := by decide +kernel
set_option maxRecDepth 65536 in
theorem k11_9 : oResF oMx oFx (oRunF oKT oCT oMT (oCall [f0, f1, f2, f3, f4, f5, f6, f7, f8, f9, f10, f11, f12, f13, f14, f15, f16]) oMx.2.2.2.2.1 oMx.2.2.1 oFx 4000 (31, #[.val (.retAddr 0), .val (.retAddr 0), .val (.int (11 : Int32)), .val (.int (9 : Int32)), .val (.ref 0), .unset, .unset, .unset, .unset, .unset, .unset, .unset, .unset, .unset, .unset, .unset, .unset, .unset, .unset, .unset, .unset], [], own_h2_11, 8, 37)) = true := by decide +kernel
set_option maxRecDepth 65536 in
theorem k11_10 : oResF oMx oFx (oRunF oKT oCT oMT (oCall [f0, f1, f2, f3, f4, f5, f6, f7, f8, f9, f10, f11, f12, f13, f14, f15, f16]) oMx.2.2.2.2.1 oMx.2.2.1 oFx 4000 (31, #[.val (.retAddr 0), .val (.retAddr 0), .val (.int (11 : Int32)), .val (.int (10 : Int32)), .val (.ref 0), .unset, .unset, .unset, .unset, .unset, .unset, .unset, .unset, .unset, .unset, .unset, .unset, .unset, .unset, .unset, .unset], [], own_h2_11, 8, 37)) = true := by decide +kernel
set_option maxRecDepth 65536 in
theorem k11_11 : oResF oMx oFx (oRunF oKT oCT oMT (oCall [f0, f1, f2, f3, f4, f5, f6, f7, f8, f9, f10, f11, f12, f13, f14, f15, f16]) oMx.2.2.2.2.1 oMx.2.2.1 oFx 4000 (31, #[.val (.retAddr 0), .val (.retAddr 0), .val (.int (11 : Int32)), .val (.int (11 : Int32)), .val (.ref 0), .unset, .unset, .unset, .unset, .unset, .unset, .unset, .unset, .unset, .unset, .unset, .unset, .unset, .unset, .unset, .unset], [], own_h2_11, 8, 37)) = true := by decide +kernel
set_option maxRecDepth 65536 in
theorem k11_12 : oResF oMx oFx (oRunF oKT oCT oMT (oCall [f0, f1, f2, f3, f4, f5, f6, f7, f8, f9, f10, f11, f12, f13, f14, f15, f16]) oMx.2.2.2.2.1 oMx.2.2.1 oFx 4000 (31, #[.val (.retAddr 0), .val (.retAddr 0), .val (.int (11 : Int32)), .val (.int (12 : Int32)), .val (.ref 0), .unset, .unset, .unset, .unset, .unset, .unset, .unset, .unset, .unset, .unset, .unset, .unset, .unset, .unset, .unset, .unset], [], own_h2_11, 8, 37)) = true := by decide +kernel
set_option maxRecDepth 65536 in
theorem k11_13 : oResF oMx oFx (oRunF oKT oCT oMT (oCall [f0, f1, f2, f3, f4, f5, f6, f7, f8, f9, f10, f11, f12, f13, f14, f15, f16]) oMx.2.2.2.2.1 oMx.2.2.1 oFx 4000 (31, #[.val (.retAddr 0), .val (.retAddr 0), .val (.int (11 : Int32)), .val (.int (13 : Int32)), .val (.ref 0), .unset, .unset, .unset, .unset, .unset, .unset, .unset, .unset, .unset, .unset, .unset, .unset, .unset, .unset, .unset, .unset], [], own_h2_11, 8, 37)) = true := by decide +kernel
set_option maxRecDepth 65536 in
theorem k11_14 : oResF oMx oFx (oRunF oKT oCT oMT (oCall [f0, f1, f2, f3, f4, f5, f6, f7, f8, f9, f10, f11, f12, f13, f14, f15, f16]) oMx.2.2.2.2.1 oMx.2.2.1 oFx 4000 (31, #[.val (.retAddr 0), .val (.retAddr 0), .val (.int (11 : Int32)), .val (.int (14 : Int32)), .val (.ref 0), .unset, .unset, .unset, .unset, .unset, .unset, .unset, .unset, .unset, .unset, .unset, .unset, .unset, .unset, .unset, .unset], [], own_h2_11, 8, 37)) = true := by decide +kernel
set_option maxRecDepth 65536 in
theorem k11_15 : oResF oMx oFx (oRunF oKT oCT oMT (oCall [f0, f1, f2, f3, f4, f5, f6, f7, f8, f9, f10, f11, f12, f13, f14, f15, f16]) oMx.2.2.2.2.1 oMx.2.2.1 oFx 4000 (31, #[.val (.retAddr 0), .val (.retAddr 0), .val (.int (11 : Int32)), .val (.int (15 : Int32)), .val (.ref 0), .unset, .unset, .unset, .unset, .unset, .unset, .unset, .unset, .unset, .unset, .unset, .unset, .unset, .unset, .unset, .unset], [], own_h2_11, 8, 37)) = true := by decide +kernel
set_option maxRecDepth 65536 in
theorem k12_0 : oResF oMx oFx (oRunF oKT oCT oMT (oCall [f0, f1, f2, f3, f4, f5, f6, f7, f8, f9, f10, f11, f12, f13, f14, f15, f16]) oMx.2.2.2.2.1 oMx.2.2.1 oFx 4000 (31, #[.val (.retAddr 0), .val (.retAddr 0), .val (.int (12 : Int32)), .val (.int (0 : Int32)), .val (.ref 0), .unset, .unset, .unset, .unset, .unset, .unset, .unset, .unset, .unset, .unset, .unset, .unset, .unset, .unset, .unset, .unset], [], own_h2_12, 8, 37)) = true := by decide +kernel
set_option maxRecDepth 65536 in
theorem k12_1 : oResF oMx oFx (oRunF oKT oCT oMT (oCall [f0, f1, f2, f3, f4, f5, f6, f7, f8, f9, f10, f11, f12, f13, f14, f15, f16]) oMx.2.2.2.2.1 oMx.2.2.1 oFx 4000 (31, #[.val (.retAddr 0), .val (.retAddr 0), .val (.int (12 : Int32)), .val (.int (1 : Int32)), .val (.ref 0), .unset, .unset, .unset, .unset, .unset, .unset, .unset, .unset, .unset, .unset, .unset, .unset, .unset, .unset, .unset, .unset], [], own_h2_12, 8, 37)) = true := by decide +kernel
set_option maxRecDepth 65536 in
theorem k12_2 : oResF oMx oFx (oRunF oKT oCT oMT (oCall [f0, f1, f2, f3, f4, f5, f6, f7, f8, f9, f10, f11, f12, f13, f14, f15, f16]) oMx.2.2.2.2.1 oMx.2.2.1 oFx 4000 (31, #[.val (.retAddr 0), .val (.retAddr 0), .val (.int (12 : Int32)), .val (.int (2 : Int32)), .val (.ref 0), .unset, .unset, .unset, .unset, .unset, .unset, .unset, .unset, .unset, .unset, .unset, .unset, .unset, .unset, .unset, .unset], [], own_h2_12, 8, 37)) = true := by decide +kernel
set_option maxRecDepth 65536 in
theorem k12_3 : oResF oMx oFx (oRunF oKT oCT oMT (oCall [f0, f1, f2, f3, f4, f5, f6, f7, f8, f9, f10, f11, f12, f13, f14, f15, f16]) oMx.2.2.2.2.1 oMx.2.2.1 oFx 4000 (31, #[.val (.retAddr 0), .val (.retAddr 0), .val (.int (12 : Int32)), .val (.int (3 : Int32)), .val (.ref 0), .unset, .unset, .unset, .unset, .unset, .unset, .unset, .unset, .unset, .unset, .unset, .unset, .unset, .unset, .unset, .unset], [], own_h2_12, 8, 37)) = true := by decide +kernel
set_option maxRecDepth 65536 in
theorem k12_4 : oResF oMx oFx (oRunF oKT oCT oMT (oCall [f0, f1, f2, f3, f4, f5, f6, f7, f8, f9, f10, f11, f12, f13, f14, f15, f16]) oMx.2.2.2.2.1 oMx.2.2.1 oFx 4000 (31, #[.val (.retAddr 0), .val (.retAddr 0), .val (.int (12 : Int32)), .val (.int (4 : Int32)), .val (.ref 0), .unset, .unset, .unset, .unset, .unset, .unset, .unset, .unset, .unset, .unset, .unset, .unset, .unset, .unset, .unset, .unset], [], own_h2_12, 8, 37)) = true := by decide +kernel
set_option maxRecDepth 65536 in
theorem k12_5 : oResF oMx oFx (oRunF oKT oCT oMT (oCall [f0, f1, f2, f3, f4, f5, f6, f7, f8, f9, f10, f11, f12, f13, f14, f15, f16]) oMx.2.2.2.2.1 oMx.2.2.1 oFx 4000 (31, #[.val (.retAddr 0), .val (.retAddr 0), .val (.int (12 : Int32)), .val (.int (5 : Int32)), .val (.ref 0), .unset, .unset, .unset, .unset, .unset, .unset, .unset, .unset, .unset, .unset, .unset, .unset, .unset, .unset, .unset, .unset], [], own_h2_12, 8, 37)) = true := by decide +kernel
set_option maxRecDepth 65536 in
theorem k12_6 : oResF oMx oFx (oRunF oKT oCT oMT (oCall [f0, f1, f2, f3, f4, f5, f6, f7, f8, f9, f10, f11, f12, f13, f14, f15, f16]) oMx.2.2.2.2.1 oMx.2.2.1 oFx 4000 (31, #[.val (.retAddr 0), .val (.retAddr 0), .val (.int (12 : Int32)), .val (.int (6 : Int32)), .val (.ref 0), .unset, .unset, .unset, .unset, .unset, .unset, .unset, .unset, .unset, .unset, .unset, .unset, .unset, .unset, .unset, .unset], [], own_h2_12, 8, 37)) = true := by decide +kernel
set_option maxRecDepth 65536 in
theorem k12_7 : oResF oMx oFx (oRunF oKT oCT oMT (oCall [f0, f1, f2, f3, f4, f5, f6, f7, f8, f9, f10, f11, f12, f13, f14, f15, f16]) oMx.2.2.2.2.1 oMx.2.2.1 oFx 4000 (31, #[.val (.retAddr 0), .val (.retAddr 0), .val (.int (12 : Int32)), .val (.int (7 : Int32)), .val (.ref 0), .unset, .unset, .unset, .unset, .unset, .unset, .unset, .unset, .unset, .unset, .unset, .unset, .unset, .unset, .unset, .unset], [], own_h2_12, 8, 37)) = true := by decide +kernel
set_option maxRecDepth 65536 in
theorem k12_8 : oResF oMx oFx (oRunF oKT oCT oMT (oCall [f0, f1, f2, f3, f4, f5, f6, f7, f8, f9, f10, f11, f12, f13, f14, f15, f16]) oMx.2.2.2.2.1 oMx.2.2.1 oFx 4000 (31, #[.val (.retAddr 0), .val (.retAddr 0), .val (.int (12 : Int32)), .val (.int (8 : Int32)), .val (.ref 0), .unset, .unset, .unset, .unset, .unset, .unset, .unset, .unset, .unset, .unset, .unset, .unset, .unset, .unset, .unset, .unset], [], own_h2_12, 8, 37)) = true := by decide +kernel
set_option maxRecDepth 65536 in
theorem k12_9 : oResF oMx oFx (oRunF oKT oCT oMT (oCall [f0, f1, f2, f3, f4, f5, f6, f7, f8, f9, f10, f11, f12, f13, f14, f15, f16]) oMx.2.2.2.2.1 oMx.2.2.1 oFx 4000 (31, #[.val (.retAddr 0), .val (.retAddr 0), .val (.int (12 : Int32)), .val (.int (9 : Int32)), .val (.ref 0), .unset, .unset, .unset, .unset, .unset, .unset, .unset, .unset, .unset, .unset, .unset, .unset, .unset, .unset, .unset, .unset], [], own_h2_12, 8, 37)) = true := by decide +kernel
set_option maxRecDepth 65536 in
theorem k12_10 : oResF oMx oFx (oRunF oKT oCT oMT (oCall [f0, f1, f2, f3, f4, f5, f6, f7, f8, f9, f10, f11, f12, f13, f14, f15, f16]) oMx.2.2.2.2.1 oMx.2.2.1 oFx 4000 (31, #[.val (.retAddr 0), .val (.retAddr 0), .val (.int (12 : Int32)), .val (.int (10 : Int32)), .val (.ref 0), .unset, .unset, .unset, .unset, .unset, .unset, .unset, .unset, .unset, .unset, .unset, .unset, .unset, .unset, .unset, .unset], [], own_h2_12, 8, 37)) = true := by decide +kernel
set_option maxRecDepth 65536 in
theorem k12_11 : oResF oMx oFx (oRunF oKT oCT oMT (oCall [f0, f1, f2, f3, f4, f5, f6, f7, f8, f9, f10, f11, f12, f13, f14, f15, f16]) oMx.2.2.2.2.1 oMx.2.2.1 oFx 4000 (31, #[.val (.retAddr 0), .val (.retAddr 0), .val (.int (12 : Int32)), .val (.int (11 : Int32)), .val (.ref 0), .unset, .unset, .unset, .unset, .unset, .unset, .unset, .unset, .unset, .unset, .unset, .unset, .unset, .unset, .unset, .unset], [], own_h2_12, 8, 37)) = true := by decide +kernel
set_option maxRecDepth 65536 in
theorem k12_12 : oResF oMx oFx (oRunF oKT oCT oMT (oCall [f0, f1, f2, f3, f4, f5, f6, f7, f8, f9, f10, f11, f12, f13, f14, f15, f16]) oMx.2.2.2.2.1 oMx.2.2.1 oFx 4000 (31, #[.val (.retAddr 0), .val (.retAddr 0), .val (.int (12 : Int32)), .val (.int (12 : Int32)), .val (.ref 0), .unset, .unset, .unset, .unset, .unset, .unset, .unset, .unset, .unset, .unset, .unset, .unset, .unset, .unset, .unset, .unset], [], own_h2_12, 8, 37)) = true := by decide +kernel
set_option maxRecDepth 65536 in
theorem k12_13 : oResF oMx oFx (oRunF oKT oCT oMT (oCall [f0, f1, f2, f3, f4, f5, f6, f7, f8, f9, f10, f11, f12, f13, f14, f15, f16]) oMx.2.2.2.2.1 oMx.2.2.1 oFx 4000 (31, #[.val (.retAddr 0), .val (.retAddr 0), .val (.int (12 : Int32)), .val (.int (13 : Int32)), .val (.ref 0), .unset, .unset, .unset, .unset, .unset, .unset, .unset, .unset, .unset, .unset, .unset, .unset, .unset, .unset, .unset, .unset], [], own_h2_12, 8, 37)) = true := by decide +kernel
set_option maxRecDepth 65536 in
theorem k12_14 : oResF oMx oFx (oRunF oKT oCT oMT (oCall [f0, f1, f2, f3, f4, f5, f6, f7, f8, f9, f10, f11, f12, f13, f14, f15, f16]) oMx.2.2.2.2.1 oMx.2.2.1 oFx 4000 (31, #[.val (.retAddr 0), .val (.retAddr 0), .val (.int (12 : Int32)), .val (.int (14 : Int32)), .val (.ref 0), .unset, .unset, .unset, .unset, .unset, .unset, .unset, .unset, .unset, .unset, .unset, .unset, .unset, .unset, .unset, .unset], [], own_h2_12, 8, 37)) = true := by decide +kernel
set_option maxRecDepth 65536 in
theorem k12_15 : oResF oMx oFx (oRunF oKT oCT oMT (oCall [f0, f1, f2, f3, f4, f5, f6, f7, f8, f9, f10, f11, f12, f13, f14, f15, f16]) oMx.2.2.2.2.1 oMx.2.2.1 oFx 4000 (31, #[.val (.retAddr 0), .val (.retAddr 0), .val (.int (12 : Int32)), .val (.int (15 : Int32)), .val (.ref 0), .unset, .unset, .unset, .unset, .unset, .unset, .unset, .unset, .unset, .unset, .unset, .unset, .unset, .unset, .unset, .unset], [], own_h2_12, 8, 37)) = true := by decide +kernel
set_option maxRecDepth 65536 in
theorem k13_0 : oResF oMx oFx (oRunF oKT oCT oMT (oCall [f0, f1, f2, f3, f4, f5, f6, f7, f8, f9, f10, f11, f12, f13, f14, f15, f16]) oMx.2.2.2.2.1 oMx.2.2.1 oFx 4000 (31, #[.val (.retAddr 0), .val (.retAddr 0), .val (.int (13 : Int32)), .val (.int (0 : Int32)), .val (.ref 0), .unset, .unset, .unset, .unset, .unset, .unset, .unset, .unset, .unset, .unset, .unset, .unset, .unset, .unset, .unset, .unset], [], own_h2_13, 8, 37)) = true := by decide +kernel
set_option maxRecDepth 65536 in
theorem k13_1 : oResF oMx oFx (oRunF oKT oCT oMT (oCall [f0, f1, f2, f3, f4, f5, f6, f7, f8, f9, f10, f11, f12, f13, f14, f15, f16]) oMx.2.2.2.2.1 oMx.2.2.1 oFx 4000 (31, #[.val (.retAddr 0), .val (.retAddr 0), .val (.int (13 : Int32)), .val (.int (1 : Int32)), .val (.ref 0), .unset, .unset, .unset, .unset, .unset, .unset, .unset, .unset, .unset, .unset, .unset, .unset, .unset, .unset, .unset, .unset], [], own_h2_13, 8, 37)) = true := by decide +kernel
set_option maxRecDepth 65536 in
theorem k13_2 : oResF oMx oFx (oRunF oKT oCT oMT (oCall [f0, f1, f2, f3, f4, f5, f6, f7, f8, f9, f10, f11, f12, f13, f14, f15, f16]) oMx.2.2.2.2.1 oMx.2.2.1 oFx 4000 (31, #[.val (.retAddr 0), .val (.retAddr 0), .val (.int (13 : Int32)), .val (.int (2 : Int32)), .val (.ref 0), .unset, .unset, .unset, .unset, .unset, .unset, .unset, .unset, .unset, .unset, .unset, .unset, .unset, .unset, .unset, .unset], [], own_h2_13, 8, 37)) = true := by decide +kernel
set_option maxRecDepth 65536 in
theorem k13_3 : oResF oMx oFx (oRunF oKT oCT oMT (oCall [f0, f1, f2, f3, f4, f5, f6, f7, f8, f9, f10, f11, f12, f13, f14, f15, f16]) oMx.2.2.2.2.1 oMx.2.2.1 oFx 4000 (31, #[.val (.retAddr 0), .val (.retAddr 0), .val (.int (13 : Int32)), .val (.int (3 : Int32)), .val (.ref 0), .unset, .unset, .unset, .unset, .unset, .unset, .unset, .unset, .unset, .unset, .unset, .unset, .unset, .unset, .unset, .unset], [], own_h2_13, 8, 37)) = true := by decide +kernel
set_option maxRecDepth 65536 in
theorem k13_4 : oResF oMx oFx (oRunF oKT oCT oMT (oCall [f0, f1, f2, f3, f4, f5, f6, f7, f8, f9, f10, f11, f12, f13, f14, f15, f16]) oMx.2.2.2.2.1 oMx.2.2.1 oFx 4000 (31, #[.val (.retAddr 0), .val (.retAddr 0), .val (.int (13 : Int32)), .val (.int (4 : Int32)), .val (.ref 0), .unset, .unset, .unset, .unset, .unset, .unset, .unset, .unset, .unset, .unset, .unset, .unset, .unset, .unset, .unset, .unset], [], own_h2_13, 8, 37)) = true := by decide +kernel
set_option maxRecDepth 65536 in
theorem k13_5 : oResF oMx oFx (oRunF oKT oCT oMT (oCall [f0, f1, f2, f3, f4, f5, f6, f7, f8, f9, f10, f11, f12, f13, f14, f15, f16]) oMx.2.2.2.2.1 oMx.2.2.1 oFx 4000 (31, #[.val (.retAddr 0), .val (.retAddr 0), .val (.int (13 : Int32)), .val (.int (5 : Int32)), .val (.ref 0), .unset, .unset, .unset, .unset, .unset, .unset, .unset, .unset, .unset, .unset, .unset, .unset, .unset, .unset, .unset, .unset], [], own_h2_13, 8, 37)) = true := by decide +kernel
set_option maxRecDepth 65536 in
theorem k13_6 : oResF oMx oFx (oRunF oKT oCT oMT (oCall [f0, f1, f2, f3, f4, f5, f6, f7, f8, f9, f10, f11, f12, f13, f14, f15, f16]) oMx.2.2.2.2.1 oMx.2.2.1 oFx 4000 (31, #[.val (.retAddr 0), .val (.retAddr 0), .val (.int (13 : Int32)), .val (.int (6 : Int32)), .val (.ref 0), .unset, .unset, .unset, .unset, .unset, .unset, .unset, .unset, .unset, .unset, .unset, .unset, .unset, .unset, .unset, .unset], [], own_h2_13, 8, 37)) = true := by decide +kernel
set_option maxRecDepth 65536 in
theorem k13_7 : oResF oMx oFx (oRunF oKT oCT oMT (oCall [f0, f1, f2, f3, f4, f5, f6, f7, f8, f9, f10, f11, f12, f13, f14, f15, f16]) oMx.2.2.2.2.1 oMx.2.2.1 oFx 4000 (31, #[.val (.retAddr 0), .val (.retAddr 0), .val (.int (13 : Int32)), .val (.int (7 : Int32)), .val (.ref 0), .unset, .unset, .unset, .unset, .unset, .unset, .unset, .unset, .unset, .unset, .unset, .unset, .unset, .unset, .unset, .unset], [], own_h2_13, 8, 37)) = true := by decide +kernel
set_option maxRecDepth 65536 in
theorem k13_8 : oResF oMx oFx (oRunF oKT oCT oMT (oCall [f0, f1, f2, f3, f4, f5, f6, f7, f8, f9, f10, f11, f12, f13, f14, f15, f16]) oMx.2.2.2.2.1 oMx.2.2.1 oFx 4000 (31, #[.val (.retAddr 0), .val (.retAddr 0), .val (.int (13 : Int32)), .val (.int (8 : Int32)), .val (.ref 0), .unset, .unset, .unset, .unset, .unset, .unset, .unset, .unset, .unset, .unset, .unset, .unset, .unset, .unset, .unset, .unset], [], own_h2_13, 8, 37)) = true := by decide +kernel
set_option maxRecDepth 65536 in
theorem k13_9 : oResF oMx oFx (oRunF oKT oCT oMT (oCall [f0, f1, f2, f3, f4, f5, f6, f7, f8, f9, f10, f11, f12, f13, f14, f15, f16]) oMx.2.2.2.2.1 oMx.2.2.1 oFx 4000 (31, #[.val (.retAddr 0), .val (.retAddr 0), .val (.int (13 : Int32)), .val (.int (9 : Int32)), .val (.ref 0), .unset, .unset, .unset, .unset, .unset, .unset, .unset, .unset, .unset, .unset, .unset, .unset, .unset, .unset, .unset, .unset], [], own_h2_13, 8, 37)) = true := by decide +kernel
set_option maxRecDepth 65536 in
theorem k13_10 : oResF oMx oFx (oRunF oKT oCT oMT (oCall [f0, f1, f2, f3, f4, f5, f6, f7, f8, f9, f10, f11, f12, f13, f14, f15, f16]) oMx.2.2.2.2.1 oMx.2.2.1 oFx 4000 (31, #[.val (.retAddr 0), .val (.retAddr 0), .val (.int (13 : Int32)), .val (.int (10 : Int32)), .val (.ref 0), .unset, .unset, .unset, .unset, .unset, .unset, .unset, .unset, .unset, .unset, .unset, .unset, .unset, .unset, .unset, .unset], [], own_h2_13, 8, 37)) = true := by decide +kernel
set_option maxRecDepth 65536 in
theorem k13_11 : oResF oMx oFx (oRunF oKT oCT oMT (oCall [f0, f1, f2, f3, f4, f5, f6, f7, f8, f9, f10, f11, f12, f13, f14, f15, f16]) oMx.2.2.2.2.1 oMx.2.2.1 oFx 4000 (31, #[.val (.retAddr 0), .val (.retAddr 0), .val (.int (13 : Int32)), .val (.int (11 : Int32)), .val (.ref 0), .unset, .unset, .unset, .unset, .unset, .unset, .unset, .unset, .unset, .unset, .unset, .unset, .unset, .unset, .unset, .unset], [], own_h2_13, 8, 37)) = true := by decide +kernel
set_option maxRecDepth 65536 in
theorem k13_12 : oResF oMx oFx (oRunF oKT oCT oMT (oCall [f0, f1, f2, f3, f4, f5, f6, f7, f8, f9, f10, f11, f12, f13, f14, f15, f16]) oMx.2.2.2.2.1 oMx.2.2.1 oFx 4000 (31, #[.val (.retAddr 0), .val (.retAddr 0), .val (.int (13 : Int32)), .val (.int (12 : Int32)), .val (.ref 0), .unset, .unset, .unset, .unset, .unset, .unset, .unset, .unset, .unset, .unset, .unset, .unset, .unset, .unset, .unset, .unset], [], own_h2_13, 8, 37)) = true := by decide +kernel
set_option maxRecDepth 65536 in
theorem k13_13 : oResF oMx oFx (oRunF oKT oCT oMT (oCall [f0, f1, f2, f3, f4, f5, f6, f7, f8, f9, f10, f11, f12, f13, f14, f15, f16]) oMx.2.2.2.2.1 oMx.2.2.1 oFx 4000 (31, #[.val (.retAddr 0), .val (.retAddr 0), .val (.int (13 : Int32)), .val (.int (13 : Int32)), .val (.ref 0), .unset, .unset, .unset, .unset, .unset, .unset, .unset, .unset, .unset, .unset, .unset, .unset, .unset, .unset, .unset, .unset], [], own_h2_13, 8, 37)) = true := by decide +kernel
set_option maxRecDepth 65536 in
theorem k13_14 : oResF oMx oFx (oRunF oKT oCT oMT (oCall [f0, f1, f2, f3, f4, f5, f6, f7, f8, f9, f10, f11, f12, f13, f14, f15, f16]) oMx.2.2.2.2.1 oMx.2.2.1 oFx 4000 (31, #[.val (.retAddr 0), .val (.retAddr 0), .val (.int (13 : Int32)), .val (.int (14 : Int32)), .val (.ref 0), .unset, .unset, .unset, .unset, .unset, .unset, .unset, .unset, .unset, .unset, .unset, .unset, .unset, .unset, .unset, .unset], [], own_h2_13, 8, 37)) = true := by decide +kernel
set_option maxRecDepth 65536 in
theorem k13_15 : oResF oMx oFx (oRunF oKT oCT oMT (oCall [f0, f1, f2, f3, f4, f5, f6, f7, f8, f9, f10, f11, f12, f13, f14, f15, f16]) oMx.2.2.2.2.1 oMx.2.2.1 oFx 4000 (31, #[.val (.retAddr 0), .val (.retAddr 0), .val (.int (13 : Int32)), .val (.int (15 : Int32)), .val (.ref 0), .unset, .unset, .unset, .unset, .unset, .unset, .unset, .unset, .unset, .unset, .unset, .unset, .unset, .unset, .unset, .unset], [], own_h2_13, 8, 37)) = true := by decide +kernel
set_option maxRecDepth 65536 in
theorem k14_0 : oResF oMx oFx (oRunF oKT oCT oMT (oCall [f0, f1, f2, f3, f4, f5, f6, f7, f8, f9, f10, f11, f12, f13, f14, f15, f16]) oMx.2.2.2.2.1 oMx.2.2.1 oFx 4000 (31, #[.val (.retAddr 0), .val (.retAddr 0), .val (.int (14 : Int32)), .val (.int (0 : Int32)), .val (.ref 0), .unset, .unset, .unset, .unset, .unset, .unset, .unset, .unset, .unset, .unset, .unset, .unset, .unset, .unset, .unset, .unset], [], own_h2_14, 8, 37)) = true := by decide +kernel
set_option maxRecDepth 65536 in
theorem k14_1 : oResF oMx oFx (oRunF oKT oCT oMT (oCall [f0, f1, f2, f3, f4, f5, f6, f7, f8, f9, f10, f11, f12, f13, f14, f15, f16]) oMx.2.2.2.2.1 oMx.2.2.1 oFx 4000 (31, #[.val (.retAddr 0), .val (.retAddr 0), .val (.int (14 : Int32)), .val (.int (1 : Int32)), .val (.ref 0), .unset, .unset, .unset, .unset, .unset, .unset, .unset, .unset, .unset, .unset, .unset, .unset, .unset, .unset, .unset, .unset], [], own_h2_14, 8, 37)) = true := by decide +kernel
set_option maxRecDepth 65536 in
theorem k14_2 : oResF oMx oFx (oRunF oKT oCT oMT (oCall [f0, f1, f2, f3, f4, f5, f6, f7, f8, f9, f10, f11, f12, f13, f14, f15, f16]) oMx.2.2.2.2.1 oMx.2.2.1 oFx 4000 (31, #[.val (.retAddr 0), .val (.retAddr 0), .val (.int (14 : Int32)), .val (.int (2 : Int32)), .val (.ref 0), .unset, .unset, .unset, .unset, .unset, .unset, .unset, .unset, .unset, .unset, .unset, .unset, .unset, .unset, .unset, .unset], [], own_h2_14, 8, 37)) = true := by decide +kernel
set_option maxRecDepth 65536 in
theorem k14_3 : oResF oMx oFx (oRunF oKT oCT oMT (oCall [f0, f1, f2, f3, f4, f5, f6, f7, f8, f9, f10, f11, f12, f13, f14, f15, f16]) oMx.2.2.2.2.1 oMx.2.2.1 oFx 4000 (31, #[.val (.retAddr 0), .val (.retAddr 0), .val (.int (14 : Int32)), .val (.int (3 : Int32)), .val (.ref 0), .unset, .unset, .unset, .unset, .unset, .unset, .unset, .unset, .unset, .unset, .unset, .unset, .unset, .unset, .unset, .unset], [], own_h2_14, 8, 37)) = true := by decide +kernel
set_option maxRecDepth 65536 in
theorem k14_4 : oResF oMx oFx (oRunF oKT oCT oMT (oCall [f0, f1, f2, f3, f4, f5, f6, f7, f8, f9, f10, f11, f12, f13, f14, f15, f16]) oMx.2.2.2.2.1 oMx.2.2.1 oFx 4000 (31, #[.val (.retAddr 0), .val (.retAddr 0), .val (.int (14 : Int32)), .val (.int (4 : Int32)), .val (.ref 0), .unset, .unset, .unset, .unset, .unset, .unset, .unset, .unset, .unset, .unset, .unset, .unset, .unset, .unset, .unset, .unset], [], own_h2_14, 8, 37)) = true := by decide +kernel
set_option maxRecDepth 65536 in
theorem k14_5 : oResF oMx oFx (oRunF oKT oCT oMT (oCall [f0, f1, f2, f3, f4, f5, f6, f7, f8, f9, f10, f11, f12, f13, f14, f15, f16]) oMx.2.2.2.2.1 oMx.2.2.1 oFx 4000 (31, #[.val (.retAddr 0), .val (.retAddr 0), .val (.int (14 : Int32)), .val (.int (5 : Int32)), .val (.ref 0), .unset, .unset, .unset, .unset, .unset, .unset, .unset, .unset, .unset, .unset, .unset, .unset, .unset, .unset, .unset, .unset], [], own_h2_14, 8, 37)) = true := by decide +kernel
set_option maxRecDepth 65536 in
theorem k14_6 : oResF oMx oFx (oRunF oKT oCT oMT (oCall [f0, f1, f2, f3, f4, f5, f6, f7, f8, f9, f10, f11, f12, f13, f14, f15, f16]) oMx.2.2.2.2.1 oMx.2.2.1 oFx 4000 (31, #[.val (.retAddr 0), .val (.retAddr 0), .val (.int (14 : Int32)), .val (.int (6 : Int32)), .val (.ref 0), .unset, .unset, .unset, .unset, .unset, .unset, .unset, .unset, .unset, .unset, .unset, .unset, .unset, .unset, .unset, .unset], [], own_h2_14, 8, 37)) = true := by decide +kernel
set_option maxRecDepth 65536 in
theorem k14_7 : oResF oMx oFx (oRunF oKT oCT oMT (oCall [f0, f1, f2, f3, f4, f5, f6, f7, f8, f9, f10, f11, f12, f13, f14, f15, f16]) oMx.2.2.2.2.1 oMx.2.2.1 oFx 4000 (31, #[.val (.retAddr 0), .val (.retAddr 0), .val (.int (14 : Int32)), .val (.int (7 : Int32)), .val (.ref 0), .unset, .unset, .unset, .unset, .unset, .unset, .unset, .unset, .unset, .unset, .unset, .unset, .unset, .unset, .unset, .unset], [], own_h2_14, 8, 37)) = true := by decide +kernel
set_option maxRecDepth 65536 in
theorem k14_8 : oResF oMx oFx (oRunF oKT oCT oMT (oCall [f0, f1, f2, f3, f4, f5, f6, f7, f8, f9, f10, f11, f12, f13, f14, f15, f16]) oMx.2.2.2.2.1 oMx.2.2.1 oFx 4000 (31, #[.val (.retAddr 0), .val (.retAddr 0), .val (.int (14 : Int32)), .val (.int (8 : Int32)), .val (.ref 0), .unset, .unset, .unset, .unset, .unset, .unset, .unset, .unset, .unset, .unset, .unset, .unset, .unset, .unset, .unset, .unset], [], own_h2_14, 8, 37)) = true := by decide +kernel
set_option maxRecDepth 65536 in
theorem k14_9 : oResF oMx oFx (oRunF oKT oCT oMT (oCall [f0, f1, f2, f3, f4, f5, f6, f7, f8, f9, f10, f11, f12, f13, f14, f15, f16]) oMx.2.2.2.2.1 oMx.2.2.1 oFx 4000 (31, #[.val (.retAddr 0), .val (.retAddr 0), .val (.int (14 : Int32)), .val (.int (9 : Int32)), .val (.ref 0), .unset, .unset, .unset, .unset, .unset, .unset, .unset, .unset, .unset, .unset, .unset, .unset, .unset, .unset, .unset, .unset], [], own_h2_14, 8, 37)) = true := by decide +kernel
set_option maxRecDepth 65536 in
theorem k14_10 : oResF oMx oFx (oRunF oKT oCT oMT (oCall [f0, f1, f2, f3, f4, f5, f6, f7, f8, f9, f10, f11, f12, f13, f14, f15, f16]) oMx.2.2.2.2.1 oMx.2.2.1 oFx 4000 (31, #[.val (.retAddr 0), .val (.retAddr 0), .val (.int (14 : Int32)), .val (.int (10 : Int32)), .val (.ref 0), .unset, .unset, .unset, .unset, .unset, .unset, .unset, .unset, .unset, .unset, .unset, .unset, .unset, .unset, .unset, .unset], [], own_h2_14, 8, 37)) = true := by decide +kernel
set_option maxRecDepth 65536 in
theorem k14_11 : oResF oMx oFx (oRunF oKT oCT oMT (oCall [f0, f1, f2, f3, f4, f5, f6, f7, f8, f9, f10, f11, f12, f13, f14, f15, f16]) oMx.2.2.2.2.1 oMx.2.2.1 oFx 4000 (31, #[.val (.retAddr 0), .val (.retAddr 0), .val (.int (14 : Int32)), .val (.int (11 : Int32)), .val (.ref 0), .unset, .unset, .unset, .unset, .unset, .unset, .unset, .unset, .unset, .unset, .unset, .unset, .unset, .unset, .unset, .unset], [], own_h2_14, 8, 37)) = true := by decide +kernel
set_option maxRecDepth 65536 in
theorem k14_12 : oResF oMx oFx (oRunF oKT oCT oMT (oCall [f0, f1, f2, f3, f4, f5, f6, f7, f8, f9, f10, f11, f12, f13, f14, f15, f16]) oMx.2.2.2.2.1 oMx.2.2.1 oFx 4000 (31, #[.val (.retAddr 0), .val (.retAddr 0), .val (.int (14 : Int32)), .val (.int (12 : Int32)), .val (.ref 0), .unset, .unset, .unset, .unset, .unset, .unset, .unset, .unset, .unset, .unset, .unset, .unset, .unset, .unset, .unset, .unset], [], own_h2_14, 8, 37)) = true := by decide +kernel
set_option maxRecDepth 65536 in
theorem k14_13 : oResF oMx oFx (oRunF oKT oCT oMT (oCall [f0, f1, f2, f3, f4, f5, f6, f7, f8, f9, f10, f11, f12, f13, f14, f15, f16]) oMx.2.2.2.2.1 oMx.2.2.1 oFx 4000 (31, #[.val (.retAddr 0), .val (.retAddr 0), .val (.int (14 : Int32)), .val (.int (13 : Int32)), .val (.ref 0), .unset, .unset, .unset, .unset, .unset, .unset, .unset, .unset, .unset, .unset, .unset, .unset, .unset, .unset, .unset, .unset], [], own_h2_14, 8, 37)) = true := by decide +kernel
set_option maxRecDepth 65536 in
theorem k14_14 : oResF oMx oFx (oRunF oKT oCT oMT (oCall [f0, f1, f2, f3, f4, f5, f6, f7, f8, f9, f10, f11, f12, f13, f14, f15, f16]) oMx.2.2.2.2.1 oMx.2.2.1 oFx 4000 (31, #[.val (.retAddr 0), .val (.retAddr 0), .val (.int (14 : Int32)), .val (.int (14 : Int32)), .val (.ref 0), .unset, .unset, .unset, .unset, .unset, .unset, .unset, .unset, .unset, .unset, .unset, .unset, .unset, .unset, .unset, .unset], [], own_h2_14, 8, 37)) = true := by decide +kernel
set_option maxRecDepth 65536 in
theorem k14_15 : oResF oMx oFx (oRunF oKT oCT oMT (oCall [f0, f1, f2, f3, f4, f5, f6, f7, f8, f9, f10, f11, f12, f13, f14, f15, f16]) oMx.2.2.2.2.1 oMx.2.2.1 oFx 4000 (31, #[.val (.retAddr 0), .val (.retAddr 0), .val (.int (14 : Int32)), .val (.int (15 : Int32)), .val (.ref 0), .unset, .unset, .unset, .unset, .unset, .unset, .unset, .unset, .unset, .unset, .unset, .unset, .unset, .unset, .unset, .unset], [], own_h2_14, 8, 37)) = true := by decide +kernel
set_option maxRecDepth 65536 in
theorem k15_0 : oResF oMx oFx (oRunF oKT oCT oMT (oCall [f0, f1, f2, f3, f4, f5, f6, f7, f8, f9, f10, f11, f12, f13, f14, f15, f16]) oMx.2.2.2.2.1 oMx.2.2.1 oFx 4000 (31, #[.val (.retAddr 0), .val (.retAddr 0), .val (.int (15 : Int32)), .val (.int (0 : Int32)), .val (.ref 0), .unset, .unset, .unset, .unset, .unset, .unset, .unset, .unset, .unset, .unset, .unset, .unset, .unset, .unset, .unset, .unset], [], own_h2_15, 8, 37)) = true := by decide +kernel
set_option maxRecDepth 65536 in
theorem k15_1 : oResF oMx oFx (oRunF oKT oCT oMT (oCall [f0, f1, f2, f3, f4, f5, f6, f7, f8, f9, f10, f11, f12, f13, f14, f15, f16]) oMx.2.2.2.2.1 oMx.2.2.1 oFx 4000 (31, #[.val (.retAddr 0), .val (.retAddr 0), .val (.int (15 : Int32)), .val (.int (1 : Int32)), .val (.ref 0), .unset, .unset, .unset, .unset, .unset, .unset, .unset, .unset, .unset, .unset, .unset, .unset, .unset, .unset, .unset, .unset], [], own_h2_15, 8, 37)) = true := by decide +kernel
set_option maxRecDepth 65536 in
theorem k15_2 : oResF oMx oFx (oRunF oKT oCT oMT (oCall [f0, f1, f2, f3, f4, f5, f6, f7, f8, f9, f10, f11, f12, f13, f14, f15, f16]) oMx.2.2.2.2.1 oMx.2.2.1 oFx 4000 (31, #[.val (.retAddr 0), .val (.retAddr 0), .val (.int (15 : Int32)), .val (.int (2 : Int32)), .val (.ref 0), .unset, .unset, .unset, .unset, .unset, .unset, .unset, .unset, .unset, .unset, .unset, .unset, .unset, .unset, .unset, .unset], [], own_h2_15, 8, 37)) = true := by decide +kernel
set_option maxRecDepth 65536 in
theorem k15_3 : oResF oMx oFx (oRunF oKT oCT oMT (oCall [f0, f1, f2, f3, f4, f5, f6, f7, f8, f9, f10, f11, f12, f13, f14, f15, f16]) oMx.2.2.2.2.1 oMx.2.2.1 oFx 4000 (31, #[.val (.retAddr 0), .val (.retAddr 0), .val (.int (15 : Int32)), .val (.int (3 : Int32)), .val (.ref 0), .unset, .unset, .unset, .unset, .unset, .unset, .unset, .unset, .unset, .unset, .unset, .unset, .unset, .unset, .unset, .unset], [], own_h2_15, 8, 37)) = true := by decide +kernel
set_option maxRecDepth 65536 in
theorem k15_4 : oResF oMx oFx (oRunF oKT oCT oMT (oCall [f0, f1, f2, f3, f4, f5, f6, f7, f8, f9, f10, f11, f12, f13, f14, f15, f16]) oMx.2.2.2.2.1 oMx.2.2.1 oFx 4000 (31, #[.val (.retAddr 0), .val (.retAddr 0), .val (.int (15 : Int32)), .val (.int (4 : Int32)), .val (.ref 0), .unset, .unset, .unset, .unset, .unset, .unset, .unset, .unset, .unset, .unset, .unset, .unset, .unset, .unset, .unset, .unset], [], own_h2_15, 8, 37)) = true := by decide +kernel
set_option maxRecDepth 65536 in
theorem k15_5 : oResF oMx oFx (oRunF oKT oCT oMT (oCall [f0, f1, f2, f3, f4, f5, f6, f7, f8, f9, f10, f11, f12, f13, f14, f15, f16]) oMx.2.2.2.2.1 oMx.2.2.1 oFx 4000 (31, #[.val (.retAddr 0), .val (.retAddr 0), .val (.int (15 : Int32)), .val (.int (5 : Int32)), .val (.ref 0), .unset, .unset, .unset, .unset, .unset, .unset, .unset, .unset, .unset, .unset, .unset, .unset, .unset, .unset, .unset, .unset], [], own_h2_15, 8, 37)) = true := by decide +kernel
set_option maxRecDepth 65536 in
theorem k15_6 : oResF oMx oFx (oRunF oKT oCT oMT (oCall [f0, f1, f2, f3, f4, f5, f6, f7, f8, f9, f10, f11, f12, f13, f14, f15, f16]) oMx.2.2.2.2.1 oMx.2.2.1 oFx 4000 (31, #[.val (.retAddr 0), .val (.retAddr 0), .val (.int (15 : Int32)), .val (.int (6 : Int32)), .val (.ref 0), .unset, .unset, .unset, .unset, .unset, .unset, .unset, .unset, .unset, .unset, .unset, .unset, .unset, .unset, .unset, .unset], [], own_h2_15, 8, 37)) = true := by decide +kernel
set_option maxRecDepth 65536 in
theorem k15_7 : oResF oMx oFx (oRunF oKT oCT oMT (oCall [f0, f1, f2, f3, f4, f5, f6, f7, f8, f9, f10, f11, f12, f13, f14, f15, f16]) oMx.2.2.2.2.1 oMx.2.2.1 oFx 4000 (31, #[.val (.retAddr 0), .val (.retAddr 0), .val (.int (15 : Int32)), .val (.int (7 : Int32)), .val (.ref 0), .unset, .unset, .unset, .unset, .unset, .unset, .unset, .unset, .unset, .unset, .unset, .unset, .unset, .unset, .unset, .unset], [], own_h2_15, 8, 37)) = true := by decide +kernel
set_option maxRecDepth 65536 in
theorem k15_8 : oResF oMx oFx (oRunF oKT oCT oMT (oCall [f0, f1, f2, f3, f4, f5, f6, f7, f8, f9, f10, f11, f12, f13, f14, f15, f16]) oMx.2.2.2.2.1 oMx.2.2.1 oFx 4000 (31, #[.val (.retAddr 0), .val (.retAddr 0), .val (.int (15 : Int32)), .val (.int (8 : Int32)), .val (.ref 0), .unset, .unset, .unset, .unset, .unset, .unset, .unset, .unset, .unset, .unset, .unset, .unset, .unset, .unset, .unset, .unset], [], own_h2_15, 8, 37)) = true := by decide +kernel
set_option maxRecDepth 65536 in
theorem k15_9 : oResF oMx oFx (oRunF oKT oCT oMT (oCall [f0, f1, f2, f3, f4, f5, f6, f7, f8, f9, f10, f11, f12, f13, f14, f15, f16]) oMx.2.2.2.2.1 oMx.2.2.1 oFx 4000 (31, #[.val (.retAddr 0), .val (.retAddr 0), .val (.int (15 : Int32)), .val (.int (9 : Int32)), .val (.ref 0), .unset, .unset, .unset, .unset, .unset, .unset, .unset, .unset, .unset, .unset, .unset, .unset, .unset, .unset, .unset, .unset], [], own_h2_15, 8, 37)) = true := by decide +kernel
set_option maxRecDepth 65536 in
theorem k15_10 : oResF oMx oFx (oRunF oKT oCT oMT (oCall [f0, f1, f2, f3, f4, f5, f6, f7, f8, f9, f10, f11, f12, f13, f14, f15, f16]) oMx.2.2.2.2.1 oMx.2.2.1 oFx 4000 (31, #[.val (.retAddr 0), .val (.retAddr 0), .val (.int (15 : Int32)), .val (.int (10 : Int32)), .val (.ref 0), .unset, .unset, .unset, .unset, .unset, .unset, .unset, .unset, .unset, .unset, .unset, .unset, .unset, .unset, .unset, .unset], [], own_h2_15, 8, 37)) = true := by decide +kernel
set_option maxRecDepth 65536 in
theorem k15_11 : oResF oMx oFx (oRunF oKT oCT oMT (oCall [f0, f1, f2, f3, f4, f5, f6, f7, f8, f9, f10, f11, f12, f13, f14, f15, f16]) oMx.2.2.2.2.1 oMx.2.2.1 oFx 4000 (31, #[.val (.retAddr 0), .val (.retAddr 0), .val (.int (15 : Int32)), .val (.int (11 : Int32)), .val (.ref 0), .unset, .unset, .unset, .unset, .unset, .unset, .unset, .unset, .unset, .unset, .unset, .unset, .unset, .unset, .unset, .unset], [], own_h2_15, 8, 37)) = true := by decide +kernel
set_option maxRecDepth 65536 in
theorem k15_12 : oResF oMx oFx (oRunF oKT oCT oMT (oCall [f0, f1, f2, f3, f4, f5, f6, f7, f8, f9, f10, f11, f12, f13, f14, f15, f16]) oMx.2.2.2.2.1 oMx.2.2.1 oFx 4000 (31, #[.val (.retAddr 0), .val (.retAddr 0), .val (.int (15 : Int32)), .val (.int (12 : Int32)), .val (.ref 0), .unset, .unset, .unset, .unset, .unset, .unset, .unset, .unset, .unset, .unset, .unset, .unset, .unset, .unset, .unset, .unset], [], own_h2_15, 8, 37)) = true := by decide +kernel
set_option maxRecDepth 65536 in
theorem k15_13 : oResF oMx oFx (oRunF oKT oCT oMT (oCall [f0, f1, f2, f3, f4, f5, f6, f7, f8, f9, f10, f11, f12, f13, f14, f15, f16]) oMx.2.2.2.2.1 oMx.2.2.1 oFx 4000 (31, #[.val (.retAddr 0), .val (.retAddr 0), .val (.int (15 : Int32)), .val (.int (13 : Int32)), .val (.ref 0), .unset, .unset, .unset, .unset, .unset, .unset, .unset, .unset, .unset, .unset, .unset, .unset, .unset, .unset, .unset, .unset], [], own_h2_15, 8, 37)) = true := by decide +kernel
set_option maxRecDepth 65536 in
theorem k15_14 : oResF oMx oFx (oRunF oKT oCT oMT (oCall [f0, f1, f2, f3, f4, f5, f6, f7, f8, f9, f10, f11, f12, f13, f14, f15, f16]) oMx.2.2.2.2.1 oMx.2.2.1 oFx 4000 (31, #[.val (.retAddr 0), .val (.retAddr 0), .val (.int (15 : Int32)), .val (.int (14 : Int32)), .val (.ref 0), .unset, .unset, .unset, .unset, .unset, .unset, .unset, .unset, .unset, .unset, .unset, .unset, .unset, .unset, .unset, .unset], [], own_h2_15, 8, 37)) = true := by decide +kernel
set_option maxRecDepth 65536 in
theorem k15_15 : oResF oMx oFx (oRunF oKT oCT oMT (oCall [f0, f1, f2, f3, f4, f5, f6, f7, f8, f9, f10, f11, f12, f13, f14, f15, f16]) oMx.2.2.2.2.1 oMx.2.2.1 oFx 4000 (31, #[.val (.retAddr 0), .val (.retAddr 0), .val (.int (15 : Int32)), .val (.int (15 : Int32)), .val (.ref 0), .unset, .unset, .unset, .unset, .unset, .unset, .unset, .unset, .unset, .unset, .unset, .unset, .unset, .unset, .unset, .unset], [], own_h2_15, 8, 37)) = true := by decide +kernel
theorem own_16 (y : Int32) (h : 0 ≤ y.toInt ∧ y.toInt ≤ (15 : Int32).toInt) : y = 0 ∨ y = 1 ∨ y = 2 ∨ y = 3 ∨ y = 4 ∨ y = 5 ∨ y = 6 ∨ y = 7 ∨ y = 8 ∨ y = 9 ∨ y = 10 ∨ y = 11 ∨ y = 12 ∨ y = 13 ∨ y = 14 ∨ y = 15 := by
  simp only [← Int32.toInt_inj, Int32.reduceToInt] at h ⊢
  omega
set_option maxRecDepth 65536 in
set_option maxHeartbeats 40000000 in
theorem law_ok (hw : oHw a0 Z) (p r : Int32) : ∃ H', oMet l Z n0 oKT oMx [.int p, .int r] [] (some (.int 1)) H' := by
  have hK := oK_ok
  have hC := (fs17 hw : oFsOk l Z n0 oKT oMT [f0, f1, f2, f3, f4, f5, f6, f7, f8, f9, f10, f11, f12, f13, f14, f15, f16]).call
  have R1 := oReach.run (l := l) (n0 := n0) (q := oMx) (CT := oCT) (MT := oMT) (callf := (oCall [f0, f1, f2, f3, f4, f5, f6, f7, f8, f9, f10, f11, f12, f13, f14, f15, f16])) (ops := oPx) (n := 8) (st := (0, #[.val (.int p), .val (.int r), .unset, .unset, .unset, .unset, .unset, .unset, .unset, .unset, .unset, .unset, .unset, .unset, .unset, .unset, .unset, .unset, .unset, .unset, .unset], [], [], 0, 0)) (st' := (10, #[.val (.int p), .val (.int r), .val (.int (p &&& (15 : Int32))), .val (.int (r &&& (15 : Int32))), .unset, .unset, .unset, .unset, .unset, .unset, .unset, .unset, .unset, .unset, .unset, .unset, .unset, .unset, .unset, .unset, .unset], [], [], 0, 0)) hw hK hC opsx rfl
  have ha := own_16 _ (c_and p (15 : Int32) (by decide))
  have hb := own_16 _ (c_and r (15 : Int32) (by decide))
  rcases ha with ha | ha | ha | ha | ha | ha | ha | ha | ha | ha | ha | ha | ha | ha | ha | ha <;> rw [ha] at R1
  · have R2 := (R1.trans (oReach.hav [true, true])).trans (own_p0 (l := l) (n0 := n0) hw (r &&& (15 : Int32)))
    rcases hb with hb | hb | hb | hb | hb | hb | hb | hb | hb | hb | hb | hb | hb | hb | hb | hb <;> rw [hb] at R2
    · exact oLaw_of_res hw hK hC pnx opsx (n := 4000) R2 (oRes_of_resF oSx k0_0)
    · exact oLaw_of_res hw hK hC pnx opsx (n := 4000) R2 (oRes_of_resF oSx k0_1)
    · exact oLaw_of_res hw hK hC pnx opsx (n := 4000) R2 (oRes_of_resF oSx k0_2)
    · exact oLaw_of_res hw hK hC pnx opsx (n := 4000) R2 (oRes_of_resF oSx k0_3)
    · exact oLaw_of_res hw hK hC pnx opsx (n := 4000) R2 (oRes_of_resF oSx k0_4)
    · exact oLaw_of_res hw hK hC pnx opsx (n := 4000) R2 (oRes_of_resF oSx k0_5)
    · exact oLaw_of_res hw hK hC pnx opsx (n := 4000) R2 (oRes_of_resF oSx k0_6)
    · exact oLaw_of_res hw hK hC pnx opsx (n := 4000) R2 (oRes_of_resF oSx k0_7)
    · exact oLaw_of_res hw hK hC pnx opsx (n := 4000) R2 (oRes_of_resF oSx k0_8)
    · exact oLaw_of_res hw hK hC pnx opsx (n := 4000) R2 (oRes_of_resF oSx k0_9)
    · exact oLaw_of_res hw hK hC pnx opsx (n := 4000) R2 (oRes_of_resF oSx k0_10)
    · exact oLaw_of_res hw hK hC pnx opsx (n := 4000) R2 (oRes_of_resF oSx k0_11)
    · exact oLaw_of_res hw hK hC pnx opsx (n := 4000) R2 (oRes_of_resF oSx k0_12)
    · exact oLaw_of_res hw hK hC pnx opsx (n := 4000) R2 (oRes_of_resF oSx k0_13)
    · exact oLaw_of_res hw hK hC pnx opsx (n := 4000) R2 (oRes_of_resF oSx k0_14)
    · exact oLaw_of_res hw hK hC pnx opsx (n := 4000) R2 (oRes_of_resF oSx k0_15)
  · have R2 := (R1.trans (oReach.hav [true, true])).trans (own_p1 (l := l) (n0 := n0) hw (r &&& (15 : Int32)))
    rcases hb with hb | hb | hb | hb | hb | hb | hb | hb | hb | hb | hb | hb | hb | hb | hb | hb <;> rw [hb] at R2
    · exact oLaw_of_res hw hK hC pnx opsx (n := 4000) R2 (oRes_of_resF oSx k1_0)
    · exact oLaw_of_res hw hK hC pnx opsx (n := 4000) R2 (oRes_of_resF oSx k1_1)
    · exact oLaw_of_res hw hK hC pnx opsx (n := 4000) R2 (oRes_of_resF oSx k1_2)
    · exact oLaw_of_res hw hK hC pnx opsx (n := 4000) R2 (oRes_of_resF oSx k1_3)
    · exact oLaw_of_res hw hK hC pnx opsx (n := 4000) R2 (oRes_of_resF oSx k1_4)
    · exact oLaw_of_res hw hK hC pnx opsx (n := 4000) R2 (oRes_of_resF oSx k1_5)
    · exact oLaw_of_res hw hK hC pnx opsx (n := 4000) R2 (oRes_of_resF oSx k1_6)
    · exact oLaw_of_res hw hK hC pnx opsx (n := 4000) R2 (oRes_of_resF oSx k1_7)
    · exact oLaw_of_res hw hK hC pnx opsx (n := 4000) R2 (oRes_of_resF oSx k1_8)
    · exact oLaw_of_res hw hK hC pnx opsx (n := 4000) R2 (oRes_of_resF oSx k1_9)
    · exact oLaw_of_res hw hK hC pnx opsx (n := 4000) R2 (oRes_of_resF oSx k1_10)
    · exact oLaw_of_res hw hK hC pnx opsx (n := 4000) R2 (oRes_of_resF oSx k1_11)
    · exact oLaw_of_res hw hK hC pnx opsx (n := 4000) R2 (oRes_of_resF oSx k1_12)
    · exact oLaw_of_res hw hK hC pnx opsx (n := 4000) R2 (oRes_of_resF oSx k1_13)
    · exact oLaw_of_res hw hK hC pnx opsx (n := 4000) R2 (oRes_of_resF oSx k1_14)
    · exact oLaw_of_res hw hK hC pnx opsx (n := 4000) R2 (oRes_of_resF oSx k1_15)
  · have R2 := (R1.trans (oReach.hav [true, true])).trans (own_p2 (l := l) (n0 := n0) hw (r &&& (15 : Int32)))
    rcases hb with hb | hb | hb | hb | hb | hb | hb | hb | hb | hb | hb | hb | hb | hb | hb | hb <;> rw [hb] at R2
    · exact oLaw_of_res hw hK hC pnx opsx (n := 4000) R2 (oRes_of_resF oSx k2_0)
    · exact oLaw_of_res hw hK hC pnx opsx (n := 4000) R2 (oRes_of_resF oSx k2_1)
    · exact oLaw_of_res hw hK hC pnx opsx (n := 4000) R2 (oRes_of_resF oSx k2_2)
    · exact oLaw_of_res hw hK hC pnx opsx (n := 4000) R2 (oRes_of_resF oSx k2_3)
    · exact oLaw_of_res hw hK hC pnx opsx (n := 4000) R2 (oRes_of_resF oSx k2_4)
    · exact oLaw_of_res hw hK hC pnx opsx (n := 4000) R2 (oRes_of_resF oSx k2_5)
    · exact oLaw_of_res hw hK hC pnx opsx (n := 4000) R2 (oRes_of_resF oSx k2_6)
    · exact oLaw_of_res hw hK hC pnx opsx (n := 4000) R2 (oRes_of_resF oSx k2_7)
    · exact oLaw_of_res hw hK hC pnx opsx (n := 4000) R2 (oRes_of_resF oSx k2_8)
    · exact oLaw_of_res hw hK hC pnx opsx (n := 4000) R2 (oRes_of_resF oSx k2_9)
    · exact oLaw_of_res hw hK hC pnx opsx (n := 4000) R2 (oRes_of_resF oSx k2_10)
    · exact oLaw_of_res hw hK hC pnx opsx (n := 4000) R2 (oRes_of_resF oSx k2_11)
    · exact oLaw_of_res hw hK hC pnx opsx (n := 4000) R2 (oRes_of_resF oSx k2_12)
    · exact oLaw_of_res hw hK hC pnx opsx (n := 4000) R2 (oRes_of_resF oSx k2_13)
    · exact oLaw_of_res hw hK hC pnx opsx (n := 4000) R2 (oRes_of_resF oSx k2_14)
    · exact oLaw_of_res hw hK hC pnx opsx (n := 4000) R2 (oRes_of_resF oSx k2_15)
  · have R2 := (R1.trans (oReach.hav [true, true])).trans (own_p3 (l := l) (n0 := n0) hw (r &&& (15 : Int32)))
    rcases hb with hb | hb | hb | hb | hb | hb | hb | hb | hb | hb | hb | hb | hb | hb | hb | hb <;> rw [hb] at R2
    · exact oLaw_of_res hw hK hC pnx opsx (n := 4000) R2 (oRes_of_resF oSx k3_0)
    · exact oLaw_of_res hw hK hC pnx opsx (n := 4000) R2 (oRes_of_resF oSx k3_1)
    · exact oLaw_of_res hw hK hC pnx opsx (n := 4000) R2 (oRes_of_resF oSx k3_2)
    · exact oLaw_of_res hw hK hC pnx opsx (n := 4000) R2 (oRes_of_resF oSx k3_3)
    · exact oLaw_of_res hw hK hC pnx opsx (n := 4000) R2 (oRes_of_resF oSx k3_4)
    · exact oLaw_of_res hw hK hC pnx opsx (n := 4000) R2 (oRes_of_resF oSx k3_5)
    · exact oLaw_of_res hw hK hC pnx opsx (n := 4000) R2 (oRes_of_resF oSx k3_6)
    · exact oLaw_of_res hw hK hC pnx opsx (n := 4000) R2 (oRes_of_resF oSx k3_7)
    · exact oLaw_of_res hw hK hC pnx opsx (n := 4000) R2 (oRes_of_resF oSx k3_8)
    · exact oLaw_of_res hw hK hC pnx opsx (n := 4000) R2 (oRes_of_resF oSx k3_9)
    · exact oLaw_of_res hw hK hC pnx opsx (n := 4000) R2 (oRes_of_resF oSx k3_10)
    · exact oLaw_of_res hw hK hC pnx opsx (n := 4000) R2 (oRes_of_resF oSx k3_11)
    · exact oLaw_of_res hw hK hC pnx opsx (n := 4000) R2 (oRes_of_resF oSx k3_12)
    · exact oLaw_of_res hw hK hC pnx opsx (n := 4000) R2 (oRes_of_resF oSx k3_13)
    · exact oLaw_of_res hw hK hC pnx opsx (n := 4000) R2 (oRes_of_resF oSx k3_14)
    · exact oLaw_of_res hw hK hC pnx opsx (n := 4000) R2 (oRes_of_resF oSx k3_15)
  · have R2 := (R1.trans (oReach.hav [true, true])).trans (own_p4 (l := l) (n0 := n0) hw (r &&& (15 : Int32)))
    rcases hb with hb | hb | hb | hb | hb | hb | hb | hb | hb | hb | hb | hb | hb | hb | hb | hb <;> rw [hb] at R2
    · exact oLaw_of_res hw hK hC pnx opsx (n := 4000) R2 (oRes_of_resF oSx k4_0)
    · exact oLaw_of_res hw hK hC pnx opsx (n := 4000) R2 (oRes_of_resF oSx k4_1)
    · exact oLaw_of_res hw hK hC pnx opsx (n := 4000) R2 (oRes_of_resF oSx k4_2)
    · exact oLaw_of_res hw hK hC pnx opsx (n := 4000) R2 (oRes_of_resF oSx k4_3)
    · exact oLaw_of_res hw hK hC pnx opsx (n := 4000) R2 (oRes_of_resF oSx k4_4)
    · exact oLaw_of_res hw hK hC pnx opsx (n := 4000) R2 (oRes_of_resF oSx k4_5)
    · exact oLaw_of_res hw hK hC pnx opsx (n := 4000) R2 (oRes_of_resF oSx k4_6)
    · exact oLaw_of_res hw hK hC pnx opsx (n := 4000) R2 (oRes_of_resF oSx k4_7)
    · exact oLaw_of_res hw hK hC pnx opsx (n := 4000) R2 (oRes_of_resF oSx k4_8)
    · exact oLaw_of_res hw hK hC pnx opsx (n := 4000) R2 (oRes_of_resF oSx k4_9)
    · exact oLaw_of_res hw hK hC pnx opsx (n := 4000) R2 (oRes_of_resF oSx k4_10)
    · exact oLaw_of_res hw hK hC pnx opsx (n := 4000) R2 (oRes_of_resF oSx k4_11)
    · exact oLaw_of_res hw hK hC pnx opsx (n := 4000) R2 (oRes_of_resF oSx k4_12)
    · exact oLaw_of_res hw hK hC pnx opsx (n := 4000) R2 (oRes_of_resF oSx k4_13)
    · exact oLaw_of_res hw hK hC pnx opsx (n := 4000) R2 (oRes_of_resF oSx k4_14)
    · exact oLaw_of_res hw hK hC pnx opsx (n := 4000) R2 (oRes_of_resF oSx k4_15)
  · have R2 := (R1.trans (oReach.hav [true, true])).trans (own_p5 (l := l) (n0 := n0) hw (r &&& (15 : Int32)))
    rcases hb with hb | hb | hb | hb | hb | hb | hb | hb | hb | hb | hb | hb | hb | hb | hb | hb <;> rw [hb] at R2
    · exact oLaw_of_res hw hK hC pnx opsx (n := 4000) R2 (oRes_of_resF oSx k5_0)
    · exact oLaw_of_res hw hK hC pnx opsx (n := 4000) R2 (oRes_of_resF oSx k5_1)
    · exact oLaw_of_res hw hK hC pnx opsx (n := 4000) R2 (oRes_of_resF oSx k5_2)
    · exact oLaw_of_res hw hK hC pnx opsx (n := 4000) R2 (oRes_of_resF oSx k5_3)
    · exact oLaw_of_res hw hK hC pnx opsx (n := 4000) R2 (oRes_of_resF oSx k5_4)
    · exact oLaw_of_res hw hK hC pnx opsx (n := 4000) R2 (oRes_of_resF oSx k5_5)
    · exact oLaw_of_res hw hK hC pnx opsx (n := 4000) R2 (oRes_of_resF oSx k5_6)
    · exact oLaw_of_res hw hK hC pnx opsx (n := 4000) R2 (oRes_of_resF oSx k5_7)
    · exact oLaw_of_res hw hK hC pnx opsx (n := 4000) R2 (oRes_of_resF oSx k5_8)
    · exact oLaw_of_res hw hK hC pnx opsx (n := 4000) R2 (oRes_of_resF oSx k5_9)
    · exact oLaw_of_res hw hK hC pnx opsx (n := 4000) R2 (oRes_of_resF oSx k5_10)
    · exact oLaw_of_res hw hK hC pnx opsx (n := 4000) R2 (oRes_of_resF oSx k5_11)
    · exact oLaw_of_res hw hK hC pnx opsx (n := 4000) R2 (oRes_of_resF oSx k5_12)
    · exact oLaw_of_res hw hK hC pnx opsx (n := 4000) R2 (oRes_of_resF oSx k5_13)
    · exact oLaw_of_res hw hK hC pnx opsx (n := 4000) R2 (oRes_of_resF oSx k5_14)
    · exact oLaw_of_res hw hK hC pnx opsx (n := 4000) R2 (oRes_of_resF oSx k5_15)
  · have R2 := (R1.trans (oReach.hav [true, true])).trans (own_p6 (l := l) (n0 := n0) hw (r &&& (15 : Int32)))
    rcases hb with hb | hb | hb | hb | hb | hb | hb | hb | hb | hb | hb | hb | hb | hb | hb | hb <;> rw [hb] at R2
    · exact oLaw_of_res hw hK hC pnx opsx (n := 4000) R2 (oRes_of_resF oSx k6_0)
    · exact oLaw_of_res hw hK hC pnx opsx (n := 4000) R2 (oRes_of_resF oSx k6_1)
    · exact oLaw_of_res hw hK hC pnx opsx (n := 4000) R2 (oRes_of_resF oSx k6_2)
    · exact oLaw_of_res hw hK hC pnx opsx (n := 4000) R2 (oRes_of_resF oSx k6_3)
    · exact oLaw_of_res hw hK hC pnx opsx (n := 4000) R2 (oRes_of_resF oSx k6_4)
    · exact oLaw_of_res hw hK hC pnx opsx (n := 4000) R2 (oRes_of_resF oSx k6_5)
    · exact oLaw_of_res hw hK hC pnx opsx (n := 4000) R2 (oRes_of_resF oSx k6_6)
    · exact oLaw_of_res hw hK hC pnx opsx (n := 4000) R2 (oRes_of_resF oSx k6_7)
    · exact oLaw_of_res hw hK hC pnx opsx (n := 4000) R2 (oRes_of_resF oSx k6_8)
    · exact oLaw_of_res hw hK hC pnx opsx (n := 4000) R2 (oRes_of_resF oSx k6_9)
    · exact oLaw_of_res hw hK hC pnx opsx (n := 4000) R2 (oRes_of_resF oSx k6_10)
    · exact oLaw_of_res hw hK hC pnx opsx (n := 4000) R2 (oRes_of_resF oSx k6_11)
    · exact oLaw_of_res hw hK hC pnx opsx (n := 4000) R2 (oRes_of_resF oSx k6_12)
    · exact oLaw_of_res hw hK hC pnx opsx (n := 4000) R2 (oRes_of_resF oSx k6_13)
    · exact oLaw_of_res hw hK hC pnx opsx (n := 4000) R2 (oRes_of_resF oSx k6_14)
    · exact oLaw_of_res hw hK hC pnx opsx (n := 4000) R2 (oRes_of_resF oSx k6_15)
  · have R2 := (R1.trans (oReach.hav [true, true])).trans (own_p7 (l := l) (n0 := n0) hw (r &&& (15 : Int32)))
    rcases hb with hb | hb | hb | hb | hb | hb | hb | hb | hb | hb | hb | hb | hb | hb | hb | hb <;> rw [hb] at R2
    · exact oLaw_of_res hw hK hC pnx opsx (n := 4000) R2 (oRes_of_resF oSx k7_0)
    · exact oLaw_of_res hw hK hC pnx opsx (n := 4000) R2 (oRes_of_resF oSx k7_1)
    · exact oLaw_of_res hw hK hC pnx opsx (n := 4000) R2 (oRes_of_resF oSx k7_2)
    · exact oLaw_of_res hw hK hC pnx opsx (n := 4000) R2 (oRes_of_resF oSx k7_3)
    · exact oLaw_of_res hw hK hC pnx opsx (n := 4000) R2 (oRes_of_resF oSx k7_4)
    · exact oLaw_of_res hw hK hC pnx opsx (n := 4000) R2 (oRes_of_resF oSx k7_5)
    · exact oLaw_of_res hw hK hC pnx opsx (n := 4000) R2 (oRes_of_resF oSx k7_6)
    · exact oLaw_of_res hw hK hC pnx opsx (n := 4000) R2 (oRes_of_resF oSx k7_7)
    · exact oLaw_of_res hw hK hC pnx opsx (n := 4000) R2 (oRes_of_resF oSx k7_8)
    · exact oLaw_of_res hw hK hC pnx opsx (n := 4000) R2 (oRes_of_resF oSx k7_9)
    · exact oLaw_of_res hw hK hC pnx opsx (n := 4000) R2 (oRes_of_resF oSx k7_10)
    · exact oLaw_of_res hw hK hC pnx opsx (n := 4000) R2 (oRes_of_resF oSx k7_11)
    · exact oLaw_of_res hw hK hC pnx opsx (n := 4000) R2 (oRes_of_resF oSx k7_12)
    · exact oLaw_of_res hw hK hC pnx opsx (n := 4000) R2 (oRes_of_resF oSx k7_13)
    · exact oLaw_of_res hw hK hC pnx opsx (n := 4000) R2 (oRes_of_resF oSx k7_14)
    · exact oLaw_of_res hw hK hC pnx opsx (n := 4000) R2 (oRes_of_resF oSx k7_15)
  · have R2 := (R1.trans (oReach.hav [true, true])).trans (own_p8 (l := l) (n0 := n0) hw (r &&& (15 : Int32)))
    rcases hb with hb | hb | hb | hb | hb | hb | hb | hb | hb | hb | hb | hb | hb | hb | hb | hb <;> rw [hb] at R2
    · exact oLaw_of_res hw hK hC pnx opsx (n := 4000) R2 (oRes_of_resF oSx k8_0)
    · exact oLaw_of_res hw hK hC pnx opsx (n := 4000) R2 (oRes_of_resF oSx k8_1)
    · exact oLaw_of_res hw hK hC pnx opsx (n := 4000) R2 (oRes_of_resF oSx k8_2)
    · exact oLaw_of_res hw hK hC pnx opsx (n := 4000) R2 (oRes_of_resF oSx k8_3)
    · exact oLaw_of_res hw hK hC pnx opsx (n := 4000) R2 (oRes_of_resF oSx k8_4)
    · exact oLaw_of_res hw hK hC pnx opsx (n := 4000) R2 (oRes_of_resF oSx k8_5)
    · exact oLaw_of_res hw hK hC pnx opsx (n := 4000) R2 (oRes_of_resF oSx k8_6)
    · exact oLaw_of_res hw hK hC pnx opsx (n := 4000) R2 (oRes_of_resF oSx k8_7)
    · exact oLaw_of_res hw hK hC pnx opsx (n := 4000) R2 (oRes_of_resF oSx k8_8)
    · exact oLaw_of_res hw hK hC pnx opsx (n := 4000) R2 (oRes_of_resF oSx k8_9)
    · exact oLaw_of_res hw hK hC pnx opsx (n := 4000) R2 (oRes_of_resF oSx k8_10)
    · exact oLaw_of_res hw hK hC pnx opsx (n := 4000) R2 (oRes_of_resF oSx k8_11)
    · exact oLaw_of_res hw hK hC pnx opsx (n := 4000) R2 (oRes_of_resF oSx k8_12)
    · exact oLaw_of_res hw hK hC pnx opsx (n := 4000) R2 (oRes_of_resF oSx k8_13)
    · exact oLaw_of_res hw hK hC pnx opsx (n := 4000) R2 (oRes_of_resF oSx k8_14)
    · exact oLaw_of_res hw hK hC pnx opsx (n := 4000) R2 (oRes_of_resF oSx k8_15)
  · have R2 := (R1.trans (oReach.hav [true, true])).trans (own_p9 (l := l) (n0 := n0) hw (r &&& (15 : Int32)))
    rcases hb with hb | hb | hb | hb | hb | hb | hb | hb | hb | hb | hb | hb | hb | hb | hb | hb <;> rw [hb] at R2
    · exact oLaw_of_res hw hK hC pnx opsx (n := 4000) R2 (oRes_of_resF oSx k9_0)
    · exact oLaw_of_res hw hK hC pnx opsx (n := 4000) R2 (oRes_of_resF oSx k9_1)
    · exact oLaw_of_res hw hK hC pnx opsx (n := 4000) R2 (oRes_of_resF oSx k9_2)
    · exact oLaw_of_res hw hK hC pnx opsx (n := 4000) R2 (oRes_of_resF oSx k9_3)
    · exact oLaw_of_res hw hK hC pnx opsx (n := 4000) R2 (oRes_of_resF oSx k9_4)
    · exact oLaw_of_res hw hK hC pnx opsx (n := 4000) R2 (oRes_of_resF oSx k9_5)
    · exact oLaw_of_res hw hK hC pnx opsx (n := 4000) R2 (oRes_of_resF oSx k9_6)
    · exact oLaw_of_res hw hK hC pnx opsx (n := 4000) R2 (oRes_of_resF oSx k9_7)
    · exact oLaw_of_res hw hK hC pnx opsx (n := 4000) R2 (oRes_of_resF oSx k9_8)
    · exact oLaw_of_res hw hK hC pnx opsx (n := 4000) R2 (oRes_of_resF oSx k9_9)
    · exact oLaw_of_res hw hK hC pnx opsx (n := 4000) R2 (oRes_of_resF oSx k9_10)
    · exact oLaw_of_res hw hK hC pnx opsx (n := 4000) R2 (oRes_of_resF oSx k9_11)
    · exact oLaw_of_res hw hK hC pnx opsx (n := 4000) R2 (oRes_of_resF oSx k9_12)
    · exact oLaw_of_res hw hK hC pnx opsx (n := 4000) R2 (oRes_of_resF oSx k9_13)
    · exact oLaw_of_res hw hK hC pnx opsx (n := 4000) R2 (oRes_of_resF oSx k9_14)
    · exact oLaw_of_res hw hK hC pnx opsx (n := 4000) R2 (oRes_of_resF oSx k9_15)
  · have R2 := (R1.trans (oReach.hav [true, true])).trans (own_p10 (l := l) (n0 := n0) hw (r &&& (15 : Int32)))
    rcases hb with hb | hb | hb | hb | hb | hb | hb | hb | hb | hb | hb | hb | hb | hb | hb | hb <;> rw [hb] at R2
    · exact oLaw_of_res hw hK hC pnx opsx (n := 4000) R2 (oRes_of_resF oSx k10_0)
    · exact oLaw_of_res hw hK hC pnx opsx (n := 4000) R2 (oRes_of_resF oSx k10_1)
    · exact oLaw_of_res hw hK hC pnx opsx (n := 4000) R2 (oRes_of_resF oSx k10_2)
    · exact oLaw_of_res hw hK hC pnx opsx (n := 4000) R2 (oRes_of_resF oSx k10_3)
    · exact oLaw_of_res hw hK hC pnx opsx (n := 4000) R2 (oRes_of_resF oSx k10_4)
    · exact oLaw_of_res hw hK hC pnx opsx (n := 4000) R2 (oRes_of_resF oSx k10_5)
    · exact oLaw_of_res hw hK hC pnx opsx (n := 4000) R2 (oRes_of_resF oSx k10_6)
    · exact oLaw_of_res hw hK hC pnx opsx (n := 4000) R2 (oRes_of_resF oSx k10_7)
    · exact oLaw_of_res hw hK hC pnx opsx (n := 4000) R2 (oRes_of_resF oSx k10_8)
    · exact oLaw_of_res hw hK hC pnx opsx (n := 4000) R2 (oRes_of_resF oSx k10_9)
    · exact oLaw_of_res hw hK hC pnx opsx (n := 4000) R2 (oRes_of_resF oSx k10_10)
    · exact oLaw_of_res hw hK hC pnx opsx (n := 4000) R2 (oRes_of_resF oSx k10_11)
    · exact oLaw_of_res hw hK hC pnx opsx (n := 4000) R2 (oRes_of_resF oSx k10_12)
    · exact oLaw_of_res hw hK hC pnx opsx (n := 4000) R2 (oRes_of_resF oSx k10_13)
    · exact oLaw_of_res hw hK hC pnx opsx (n := 4000) R2 (oRes_of_resF oSx k10_14)
    · exact oLaw_of_res hw hK hC pnx opsx (n := 4000) R2 (oRes_of_resF oSx k10_15)
  · have R2 := (R1.trans (oReach.hav [true, true])).trans (own_p11 (l := l) (n0 := n0) hw (r &&& (15 : Int32)))
    rcases hb with hb | hb | hb | hb | hb | hb | hb | hb | hb | hb | hb | hb | hb | hb | hb | hb <;> rw [hb] at R2
    · exact oLaw_of_res hw hK hC pnx opsx (n := 4000) R2 (oRes_of_resF oSx k11_0)
    · exact oLaw_of_res hw hK hC pnx opsx (n := 4000) R2 (oRes_of_resF oSx k11_1)
    · exact oLaw_of_res hw hK hC pnx opsx (n := 4000) R2 (oRes_of_resF oSx k11_2)
    · exact oLaw_of_res hw hK hC pnx opsx (n := 4000) R2 (oRes_of_resF oSx k11_3)
    · exact oLaw_of_res hw hK hC pnx opsx (n := 4000) R2 (oRes_of_resF oSx k11_4)
    · exact oLaw_of_res hw hK hC pnx opsx (n := 4000) R2 (oRes_of_resF oSx k11_5)
    · exact oLaw_of_res hw hK hC pnx opsx (n := 4000) R2 (oRes_of_resF oSx k11_6)
    · exact oLaw_of_res hw hK hC pnx opsx (n := 4000) R2 (oRes_of_resF oSx k11_7)
    · exact oLaw_of_res hw hK hC pnx opsx (n := 4000) R2 (oRes_of_resF oSx k11_8)
    · exact oLaw_of_res hw hK hC pnx opsx (n := 4000) R2 (oRes_of_resF oSx k11_9)
    · exact oLaw_of_res hw hK hC pnx opsx (n := 4000) R2 (oRes_of_resF oSx k11_10)
    · exact oLaw_of_res hw hK hC pnx opsx (n := 4000) R2 (oRes_of_resF oSx k11_11)
    · exact oLaw_of_res hw hK hC pnx opsx (n := 4000) R2 (oRes_of_resF oSx k11_12)
    · exact oLaw_of_res hw hK hC pnx opsx (n := 4000) R2 (oRes_of_resF oSx k11_13)
    · exact oLaw_of_res hw hK hC pnx opsx (n := 4000) R2 (oRes_of_resF oSx k11_14)
    · exact oLaw_of_res hw hK hC pnx opsx (n := 4000) R2 (oRes_of_resF oSx k11_15)
  · have R2 := (R1.trans (oReach.hav [true, true])).trans (own_p12 (l := l) (n0 := n0) hw (r &&& (15 : Int32)))
    rcases hb with hb | hb | hb | hb | hb | hb | hb | hb | hb | hb | hb | hb | hb | hb | hb | hb <;> rw [hb] at R2
    · exact oLaw_of_res hw hK hC pnx opsx (n := 4000) R2 (oRes_of_resF oSx k12_0)
    · exact oLaw_of_res hw hK hC pnx opsx (n := 4000) R2 (oRes_of_resF oSx k12_1)
    · exact oLaw_of_res hw hK hC pnx opsx (n := 4000) R2 (oRes_of_resF oSx k12_2)
    · exact oLaw_of_res hw hK hC pnx opsx (n := 4000) R2 (oRes_of_resF oSx k12_3)
    · exact oLaw_of_res hw hK hC pnx opsx (n := 4000) R2 (oRes_of_resF oSx k12_4)
    · exact oLaw_of_res hw hK hC pnx opsx (n := 4000) R2 (oRes_of_resF oSx k12_5)
    · exact oLaw_of_res hw hK hC pnx opsx (n := 4000) R2 (oRes_of_resF oSx k12_6)
    · exact oLaw_of_res hw hK hC pnx opsx (n := 4000) R2 (oRes_of_resF oSx k12_7)
    · exact oLaw_of_res hw hK hC pnx opsx (n := 4000) R2 (oRes_of_resF oSx k12_8)
    · exact oLaw_of_res hw hK hC pnx opsx (n := 4000) R2 (oRes_of_resF oSx k12_9)
    · exact oLaw_of_res hw hK hC pnx opsx (n := 4000) R2 (oRes_of_resF oSx k12_10)
    · exact oLaw_of_res hw hK hC pnx opsx (n := 4000) R2 (oRes_of_resF oSx k12_11)
    · exact oLaw_of_res hw hK hC pnx opsx (n := 4000) R2 (oRes_of_resF oSx k12_12)
    · exact oLaw_of_res hw hK hC pnx opsx (n := 4000) R2 (oRes_of_resF oSx k12_13)
    · exact oLaw_of_res hw hK hC pnx opsx (n := 4000) R2 (oRes_of_resF oSx k12_14)
    · exact oLaw_of_res hw hK hC pnx opsx (n := 4000) R2 (oRes_of_resF oSx k12_15)
  · have R2 := (R1.trans (oReach.hav [true, true])).trans (own_p13 (l := l) (n0 := n0) hw (r &&& (15 : Int32)))
    rcases hb with hb | hb | hb | hb | hb | hb | hb | hb | hb | hb | hb | hb | hb | hb | hb | hb <;> rw [hb] at R2
    · exact oLaw_of_res hw hK hC pnx opsx (n := 4000) R2 (oRes_of_resF oSx k13_0)
    · exact oLaw_of_res hw hK hC pnx opsx (n := 4000) R2 (oRes_of_resF oSx k13_1)
    · exact oLaw_of_res hw hK hC pnx opsx (n := 4000) R2 (oRes_of_resF oSx k13_2)
    · exact oLaw_of_res hw hK hC pnx opsx (n := 4000) R2 (oRes_of_resF oSx k13_3)
    · exact oLaw_of_res hw hK hC pnx opsx (n := 4000) R2 (oRes_of_resF oSx k13_4)
    · exact oLaw_of_res hw hK hC pnx opsx (n := 4000) R2 (oRes_of_resF oSx k13_5)
    · exact oLaw_of_res hw hK hC pnx opsx (n := 4000) R2 (oRes_of_resF oSx k13_6)
    · exact oLaw_of_res hw hK hC pnx opsx (n := 4000) R2 (oRes_of_resF oSx k13_7)
    · exact oLaw_of_res hw hK hC pnx opsx (n := 4000) R2 (oRes_of_resF oSx k13_8)
    · exact oLaw_of_res hw hK hC pnx opsx (n := 4000) R2 (oRes_of_resF oSx k13_9)
    · exact oLaw_of_res hw hK hC pnx opsx (n := 4000) R2 (oRes_of_resF oSx k13_10)
    · exact oLaw_of_res hw hK hC pnx opsx (n := 4000) R2 (oRes_of_resF oSx k13_11)
    · exact oLaw_of_res hw hK hC pnx opsx (n := 4000) R2 (oRes_of_resF oSx k13_12)
    · exact oLaw_of_res hw hK hC pnx opsx (n := 4000) R2 (oRes_of_resF oSx k13_13)
    · exact oLaw_of_res hw hK hC pnx opsx (n := 4000) R2 (oRes_of_resF oSx k13_14)
    · exact oLaw_of_res hw hK hC pnx opsx (n := 4000) R2 (oRes_of_resF oSx k13_15)
  · have R2 := (R1.trans (oReach.hav [true, true])).trans (own_p14 (l := l) (n0 := n0) hw (r &&& (15 : Int32)))
    rcases hb with hb | hb | hb | hb | hb | hb | hb | hb | hb | hb | hb | hb | hb | hb | hb | hb <;> rw [hb] at R2
    · exact oLaw_of_res hw hK hC pnx opsx (n := 4000) R2 (oRes_of_resF oSx k14_0)
    · exact oLaw_of_res hw hK hC pnx opsx (n := 4000) R2 (oRes_of_resF oSx k14_1)
    · exact oLaw_of_res hw hK hC pnx opsx (n := 4000) R2 (oRes_of_resF oSx k14_2)
    · exact oLaw_of_res hw hK hC pnx opsx (n := 4000) R2 (oRes_of_resF oSx k14_3)
    · exact oLaw_of_res hw hK hC pnx opsx (n := 4000) R2 (oRes_of_resF oSx k14_4)
    · exact oLaw_of_res hw hK hC pnx opsx (n := 4000) R2 (oRes_of_resF oSx k14_5)
    · exact oLaw_of_res hw hK hC pnx opsx (n := 4000) R2 (oRes_of_resF oSx k14_6)
    · exact oLaw_of_res hw hK hC pnx opsx (n := 4000) R2 (oRes_of_resF oSx k14_7)
    · exact oLaw_of_res hw hK hC pnx opsx (n := 4000) R2 (oRes_of_resF oSx k14_8)
    · exact oLaw_of_res hw hK hC pnx opsx (n := 4000) R2 (oRes_of_resF oSx k14_9)
    · exact oLaw_of_res hw hK hC pnx opsx (n := 4000) R2 (oRes_of_resF oSx k14_10)
    · exact oLaw_of_res hw hK hC pnx opsx (n := 4000) R2 (oRes_of_resF oSx k14_11)
    · exact oLaw_of_res hw hK hC pnx opsx (n := 4000) R2 (oRes_of_resF oSx k14_12)
    · exact oLaw_of_res hw hK hC pnx opsx (n := 4000) R2 (oRes_of_resF oSx k14_13)
    · exact oLaw_of_res hw hK hC pnx opsx (n := 4000) R2 (oRes_of_resF oSx k14_14)
    · exact oLaw_of_res hw hK hC pnx opsx (n := 4000) R2 (oRes_of_resF oSx k14_15)
  · have R2 := (R1.trans (oReach.hav [true, true])).trans (own_p15 (l := l) (n0 := n0) hw (r &&& (15 : Int32)))
    rcases hb with hb | hb | hb | hb | hb | hb | hb | hb | hb | hb | hb | hb | hb | hb | hb | hb <;> rw [hb] at R2
    · exact oLaw_of_res hw hK hC pnx opsx (n := 4000) R2 (oRes_of_resF oSx k15_0)
    · exact oLaw_of_res hw hK hC pnx opsx (n := 4000) R2 (oRes_of_resF oSx k15_1)
    · exact oLaw_of_res hw hK hC pnx opsx (n := 4000) R2 (oRes_of_resF oSx k15_2)
    · exact oLaw_of_res hw hK hC pnx opsx (n := 4000) R2 (oRes_of_resF oSx k15_3)
    · exact oLaw_of_res hw hK hC pnx opsx (n := 4000) R2 (oRes_of_resF oSx k15_4)
    · exact oLaw_of_res hw hK hC pnx opsx (n := 4000) R2 (oRes_of_resF oSx k15_5)
    · exact oLaw_of_res hw hK hC pnx opsx (n := 4000) R2 (oRes_of_resF oSx k15_6)
    · exact oLaw_of_res hw hK hC pnx opsx (n := 4000) R2 (oRes_of_resF oSx k15_7)
    · exact oLaw_of_res hw hK hC pnx opsx (n := 4000) R2 (oRes_of_resF oSx k15_8)
    · exact oLaw_of_res hw hK hC pnx opsx (n := 4000) R2 (oRes_of_resF oSx k15_9)
    · exact oLaw_of_res hw hK hC pnx opsx (n := 4000) R2 (oRes_of_resF oSx k15_10)
    · exact oLaw_of_res hw hK hC pnx opsx (n := 4000) R2 (oRes_of_resF oSx k15_11)
    · exact oLaw_of_res hw hK hC pnx opsx (n := 4000) R2 (oRes_of_resF oSx k15_12)
    · exact oLaw_of_res hw hK hC pnx opsx (n := 4000) R2 (oRes_of_resF oSx k15_13)
    · exact oLaw_of_res hw hK hC pnx opsx (n := 4000) R2 (oRes_of_resF oSx k15_14)
    · exact oLaw_of_res hw hK hC pnx opsx (n := 4000) R2 (oRes_of_resF oSx k15_15)
end Claim
set_option maxRecDepth 65536 in
set_option maxHeartbeats 40000000 in
theorem comes_1 {Post : Tables → Env → Array Value → State → Outcome → State → Prop} (hpost : ∀ tb e args s v u, (limb_1_1.after args s (.returned v) u = true ∧ limb_1_2.after args s (.returned v) u = true ∧ True) → FrameEnd s (.returned v) u (Jvm.fieldLocs frame_1_writes args s ++ Jvm.arrayLocs frame_1_arrays args s ++ Jvm.staticLocs frame_1_statics s) 24 192 → Post tb e args s (.returned v) u) :
    ArmFor flags0 classFile x code maxLocals ret World_1 tables_1 room_1 Calls_1 rest_1 Pre_1 Post := by
  intro l hfl _ _ p e ha hc hk s m args below hf hA hF happ hP
  obtain ⟨hcalls, hrest, hpre⟩ := hP
  obtain ⟨-, -, -, hnamed, -, -, -, hat⟩ := (Spec.applies_iff hf).mp happ
  obtain ⟨hg, hn⟩ := and_e (Cond.before_iff.mp (show (Jvm.Cond.and given_1 narrow_1).before args s = true from hpre))
  obtain ⟨h1, k0⟩ := and_e hg
  obtain ⟨g0, k1⟩ := and_e k0
  have g1 := k1
  obtain ⟨w0, w1, rfl⟩ : ∃ w0 w1 : Value, args = #[w0, w1] := by
    have hs : args.size = 2 := by simpa [Cond.value, given_1] using h1
    obtain ⟨L⟩ := args
    match L, hs with
    | [w0, w1], _ => exact ⟨w0, w1, rfl⟩
  have hw := fun d (hd : d ∈ tables_1) => atoms_spec (ws := Jvm.Cond.code x code maxLocals ret :: tables_1) hat d (List.mem_cons_of_mem _ hd)
  obtain ⟨i0, e0⟩ := is_v g0
  obtain rfl : w0 = (.int i0) := Option.some.inj e0
  obtain ⟨i1, e1⟩ := is_v g1
  obtain rfl : w1 = (.int i1) := Option.some.inj e1
  obtain ⟨H', hmet⟩ := law_ok (l := l) (n0 := s.heap.size) hw i0 i1
  obtain ⟨n, o, h1, h2, h3, v, L, rfl, ⟨N, -, ad', -, -, w, rfl, rfl⟩, hq⟩ := hmet [.int i0, .int i1] s.heap [] (by exact ⟨_, _, rfl, rfl, ⟨_, _, rfl, rfl, rfl⟩⟩) oHR.nil (Nat.le_refl _) tables_1 p e ha hc hk s m _ below hf ((Spec.applies_iff_loose hf).mp happ).1 ⟨rfl, State.Warmed39.refl s, rfl⟩ trivial
  exact ⟨n, _, h1, h2, h3, hpost _ _ _ _ _ _ ⟨Cond.after_iff.mpr rfl, Cond.after_iff.mpr (eq_i res_at (Term.int_eval (1)) rfl), trivial⟩ ⟨hq.1, hq.2.1, (hq.2.2.sift fun y hy => Or.inr (N y hy)).mono (by decide) (by decide)⟩⟩
theorem main_1_1 : Claimed_1_1 := comes_1 fun _ _ _ _ _ _ h hF => ⟨h.1, hF⟩
theorem main_1_2 : Claimed_1_2 := comes_1 fun _ _ _ _ _ _ h hF => ⟨h.2.1, hF⟩
end Jvm.Pilot.@@N@@
namespace Jvm.Pilot.@@N@@
open Jvm Jvm.ClassFile Sem Op Lib Jvm.Free Jvm.Stand Jvm.Pilot.@@N@@.Jvm.D
/-! MADE BY PROGRAM (witnessworld.py) out of the Statement's table words and the real class files: 11 classes; the members and pool entries that the words name. The judged class is class 1, her method 10. -/
namespace start1
open Jvm.ClassFile
def u (s : String) : CpInfo := .utf8 (stringToUtf16 s)
/-- a pool by its gaps: so many unusable entries, then the entry; so many at the end -/
def gap : Nat → List CpInfo → List CpInfo
  | 0, r => r
  | n + 1, r => .unusable :: gap n r
def poolList (es : List (Nat × CpInfo)) (last : Nat) : List CpInfo := es.foldr (fun e r => gap e.1 (e.2 :: r)) (gap last [])
def pool (es : List (Nat × CpInfo)) (last : Nat) : Array CpInfo := ⟨poolList es last⟩
def fileOf (pool : Array CpInfo) (this : Nat) (attrs : Array Attribute := #[]) (ms : Array MethodInfo := #[]) (fl : Nat := 33) (sup : Nat := 0) (ifs : Array Nat := #[]) (fds : Array FieldInfo := #[]) : ClassFile where
  minorVersion := 0
  majorVersion := 65
  constantPool := pool
  accessFlags := fl
  thisClass := this
  superClass := sup
  interfaces := ifs
  fields := fds
  methods := ms
  attributes := attrs
def plain (name : String) (sup : Option ClassId) : Class where
  name := name
  kind := .ordinary
  loader := none
  accessFlags := 33
  super := sup
  interfaces := #[]
  cf := none
  fields := #[]
  methods := #[]
  instanceTypes := #[]
  staticTypes := #[]
  resolved := #[]
  callSites := []
  init := .initialized
  statics := none
  mirror := none

def pool0 : Array CpInfo := pool [(5, u "<init>"), (0, u "()V"), (1, .class_ 10), (1, u "java/lang/Object")] 113

def k0c0 : Code := { maxStack := 0, maxLocals := 1, code := object_method_1_code, exceptionTable := #[], attributes := #[] }
def k0m0 : Method := { name := "<init>", desc := "()V", sig := { parameters := [], returnType := none }, accessFlags := 1, code := some k0c0 }
/-- java/lang/Object -/
def k0 : Class := { plain "java/lang/Object" none with
  accessFlags := 33
  interfaces := #[]
  cf := some (fileOf pool0 8 #[] #[{ accessFlags := 1, nameIndex := 5, descriptorIndex := 6, attributes := #[] }] 33 0 #[] #[])
  fields := #[]
  methods := #[k0m0]
  instanceTypes := #[]
  staticTypes := #[]
  resolved := Array.replicate 124 none
  statics := none }

def pool1 : Array CpInfo := pool [(2, .class_ 4), (1, u "java/lang/Object"), (0, u "<init>"), (0, u "()V"), (0, .methodref 8 9), (0, .class_ 10), (0, .nameAndType 11 12), (0, u "com/example/ranked_tree_automata/rankedtreeautomata/PartitionSplitPinLaw"), (0, u "bit"), (0, u "(II)I"), (0, .methodref 14 15), (0, .class_ 16), (0, .nameAndType 17 18), (0, u "com/example/ranked_tree_automata/rankedtreeautomata/Partition"), (0, u "mark"), (0, u "(I)V"), (0, .methodref 8 20), (0, .nameAndType 21 22), (0, u "pop"), (0, u "(I)I"), (0, .methodref 8 24), (0, .nameAndType 25 12), (0, u "firstRound"), (0, .methodref 8 27), (0, .nameAndType 28 12), (0, u "members"), (0, .methodref 8 30), (0, .nameAndType 31 32), (0, u "splits"), (0, u "(II)Z"), (0, .methodref 8 34), (0, .nameAndType 35 36), (0, u "moves"), (0, u "(III)Z"), (0, .methodref 14 38), (0, .nameAndType 5 18), (0, .methodref 8 40), (0, .nameAndType 41 42), (0, u "markAll"), (0, u "(Lcom/example/ranked_tree_automata/rankedtreeautomata/Partition;I)V"), (0, .methodref 14 44), (0, .nameAndType 45 6), (0, u "split"), (0, .methodref 8 47), (0, .nameAndType 48 22), (0, u "lowest"), (0, .methodref 8 50), (0, .nameAndType 51 52), (0, u "expected"), (0, u "(IIIII)I"), (0, .methodref 14 54), (0, .nameAndType 55 56), (0, u "blockCount"), (0, u "()I"), (0, .methodref 14 58), (0, .nameAndType 59 22), (0, u "blockOf"), (0, .methodref 14 61), (0, .nameAndType 62 22), (0, u "size"), (3, u "law")] 2

def k1m0 : Method := { name := "<init>", desc := "()V", sig := { parameters := [], returnType := none }, accessFlags := 1, code := none }
def k1c1 : Code := { maxStack := 2, maxLocals := 2, code := method_2_code, exceptionTable := #[], attributes := #[] }
def k1m1 : Method := { name := "bit", desc := "(II)I", sig := { parameters := [.int, .int], returnType := some .int }, accessFlags := 10, code := some k1c1 }
def k1c2 : Code := { maxStack := 3, maxLocals := 1, code := method_3_code, exceptionTable := #[], attributes := #[] }
def k1m2 : Method := { name := "pop", desc := "(I)I", sig := { parameters := [.int], returnType := some .int }, accessFlags := 10, code := some k1c2 }
def k1c3 : Code := { maxStack := 2, maxLocals := 2, code := method_4_code, exceptionTable := #[], attributes := #[] }
def k1m3 : Method := { name := "markAll", desc := "(Lcom/example/ranked_tree_automata/rankedtreeautomata/Partition;I)V", sig := { parameters := [(.object "com/example/ranked_tree_automata/rankedtreeautomata/Partition"), .int], returnType := none }, accessFlags := 10, code := some k1c3 }
def k1c4 : Code := { maxStack := 3, maxLocals := 4, code := method_5_code, exceptionTable := #[], attributes := #[] }
def k1m4 : Method := { name := "firstRound", desc := "(II)I", sig := { parameters := [.int, .int], returnType := some .int }, accessFlags := 10, code := some k1c4 }
def k1c5 : Code := { maxStack := 2, maxLocals := 3, code := method_6_code, exceptionTable := #[], attributes := #[] }
def k1m5 : Method := { name := "members", desc := "(II)I", sig := { parameters := [.int, .int], returnType := some .int }, accessFlags := 10, code := some k1c5 }
def k1c6 : Code := { maxStack := 2, maxLocals := 4, code := method_7_code, exceptionTable := #[], attributes := #[] }
def k1m6 : Method := { name := "splits", desc := "(II)Z", sig := { parameters := [.int, .int], returnType := some .boolean }, accessFlags := 10, code := some k1c6 }
def k1c7 : Code := { maxStack := 4, maxLocals := 6, code := method_8_code, exceptionTable := #[], attributes := #[] }
def k1m7 : Method := { name := "moves", desc := "(III)Z", sig := { parameters := [.int, .int, .int], returnType := some .boolean }, accessFlags := 10, code := some k1c7 }
def k1c8 : Code := { maxStack := 2, maxLocals := 1, code := method_9_code, exceptionTable := #[], attributes := #[] }
def k1m8 : Method := { name := "lowest", desc := "(I)I", sig := { parameters := [.int], returnType := some .int }, accessFlags := 10, code := some k1c8 }
def k1c9 : Code := { maxStack := 3, maxLocals := 7, code := method_10_code, exceptionTable := #[], attributes := #[] }
def k1m9 : Method := { name := "expected", desc := "(IIIII)I", sig := { parameters := [.int, .int, .int, .int, .int], returnType := some .int }, accessFlags := 10, code := some k1c9 }
def k1c10 : Code := { maxStack := 5, maxLocals := 21, code := code, exceptionTable := #[], attributes := #[] }
def k1m10 : Method := { name := "law", desc := "(II)Z", sig := { parameters := [.int, .int], returnType := some .boolean }, accessFlags := 9, code := some k1c10 }
/-- com/example/ranked_tree_automata/rankedtreeautomata/PartitionSplitPinLaw -/
def k1 : Class := { plain "com/example/ranked_tree_automata/rankedtreeautomata/PartitionSplitPinLaw" (some 0) with
  accessFlags := 49
  interfaces := #[]
  cf := some (fileOf pool1 8 #[] #[{ accessFlags := 1, nameIndex := 5, descriptorIndex := 6, attributes := #[] }, { accessFlags := 10, nameIndex := 11, descriptorIndex := 12, attributes := #[] }, { accessFlags := 10, nameIndex := 21, descriptorIndex := 22, attributes := #[] }, { accessFlags := 10, nameIndex := 41, descriptorIndex := 42, attributes := #[] }, { accessFlags := 10, nameIndex := 25, descriptorIndex := 12, attributes := #[] }, { accessFlags := 10, nameIndex := 28, descriptorIndex := 12, attributes := #[] }, { accessFlags := 10, nameIndex := 31, descriptorIndex := 32, attributes := #[] }, { accessFlags := 10, nameIndex := 35, descriptorIndex := 36, attributes := #[] }, { accessFlags := 10, nameIndex := 48, descriptorIndex := 22, attributes := #[] }, { accessFlags := 10, nameIndex := 51, descriptorIndex := 52, attributes := #[] }, { accessFlags := 9, nameIndex := 66, descriptorIndex := 32, attributes := #[] }] 49 2 #[] #[])
  fields := #[]
  methods := #[k1m0, k1m1, k1m2, k1m3, k1m4, k1m5, k1m6, k1m7, k1m8, k1m9, k1m10]
  instanceTypes := #[]
  staticTypes := #[]
  resolved := Array.replicate 69 none
  statics := none }

def pool2 : Array CpInfo := pool [(1, .methodref 2 3), (0, .class_ 4), (0, .nameAndType 5 6), (0, u "java/lang/Object"), (0, u "<init>"), (0, u "()V"), (0, .fieldref 8 9), (0, .class_ 10), (0, .nameAndType 11 12), (0, u "com/example/ranked_tree_automata/rankedtreeautomata/Partition"), (0, u "elements"), (0, u "[I"), (0, .fieldref 8 14), (0, .nameAndType 15 12), (0, u "locations"), (0, .fieldref 8 17), (0, .nameAndType 18 12), (0, u "blocks"), (0, .fieldref 8 20), (0, .nameAndType 21 12), (0, u "first"), (0, .fieldref 8 23), (0, .nameAndType 24 12), (0, u "end"), (0, .fieldref 8 26), (0, .nameAndType 27 12), (0, u "markedCounts"), (0, .fieldref 8 29), (0, .nameAndType 30 12), (0, u "touched"), (0, .fieldref 8 32), (0, .nameAndType 33 34), (0, u "blockCount"), (0, u "I"), (0, .methodref 36 37), (0, .class_ 38), (0, .nameAndType 39 40), (0, u "java/util/Objects"), (0, u "checkIndex"), (0, u "(II)I"), (2, u "size"), (0, u "(I)I"), (0, .fieldref 8 46), (0, .nameAndType 47 34), (0, u "touchedCount"), (0, u "(I)V"), (3, u "()I"), (0, u "blockOf"), (1, u "mark"), (0, u "split")] 2

def k2c0 : Code := { maxStack := 3, maxLocals := 3, code := prog_3_method_1_code, exceptionTable := #[], attributes := #[] }
def k2m0 : Method := { name := "<init>", desc := "(I)V", sig := { parameters := [.int], returnType := none }, accessFlags := 0, code := some k2c0 }
def k2c1 : Code := { maxStack := 1, maxLocals := 1, code := prog_3_method_2_code, exceptionTable := #[], attributes := #[] }
def k2m1 : Method := { name := "blockCount", desc := "()I", sig := { parameters := [], returnType := some .int }, accessFlags := 0, code := some k2c1 }
def k2c2 : Code := { maxStack := 2, maxLocals := 2, code := prog_3_method_3_code, exceptionTable := #[], attributes := #[] }
def k2m2 : Method := { name := "blockOf", desc := "(I)I", sig := { parameters := [.int], returnType := some .int }, accessFlags := 0, code := some k2c2 }
def k2c3 : Code := { maxStack := 3, maxLocals := 2, code := prog_3_method_4_code, exceptionTable := #[], attributes := #[] }
def k2m3 : Method := { name := "size", desc := "(I)I", sig := { parameters := [.int], returnType := some .int }, accessFlags := 0, code := some k2c3 }
def k2c4 : Code := { maxStack := 5, maxLocals := 6, code := prog_3_method_6_code, exceptionTable := #[], attributes := #[] }
def k2m4 : Method := { name := "mark", desc := "(I)V", sig := { parameters := [.int], returnType := none }, accessFlags := 0, code := some k2c4 }
def k2c5 : Code := { maxStack := 4, maxLocals := 6, code := prog_3_method_7_code, exceptionTable := #[], attributes := #[] }
def k2m5 : Method := { name := "split", desc := "()V", sig := { parameters := [], returnType := none }, accessFlags := 0, code := some k2c5 }
/-- com/example/ranked_tree_automata/rankedtreeautomata/Partition -/
def k2 : Class := { plain "com/example/ranked_tree_automata/rankedtreeautomata/Partition" (some 0) with
  accessFlags := 48
  interfaces := #[]
  cf := some (fileOf pool2 8 #[] #[{ accessFlags := 0, nameIndex := 5, descriptorIndex := 48, attributes := #[] }, { accessFlags := 0, nameIndex := 33, descriptorIndex := 52, attributes := #[] }, { accessFlags := 0, nameIndex := 53, descriptorIndex := 44, attributes := #[] }, { accessFlags := 0, nameIndex := 43, descriptorIndex := 44, attributes := #[] }, { accessFlags := 0, nameIndex := 55, descriptorIndex := 48, attributes := #[] }, { accessFlags := 0, nameIndex := 56, descriptorIndex := 6, attributes := #[] }] 48 2 #[] #[{ accessFlags := 18, nameIndex := 11, descriptorIndex := 12, attributes := #[] }, { accessFlags := 18, nameIndex := 15, descriptorIndex := 12, attributes := #[] }, { accessFlags := 18, nameIndex := 18, descriptorIndex := 12, attributes := #[] }, { accessFlags := 18, nameIndex := 21, descriptorIndex := 12, attributes := #[] }, { accessFlags := 18, nameIndex := 24, descriptorIndex := 12, attributes := #[] }, { accessFlags := 18, nameIndex := 27, descriptorIndex := 12, attributes := #[] }, { accessFlags := 18, nameIndex := 30, descriptorIndex := 12, attributes := #[] }, { accessFlags := 2, nameIndex := 47, descriptorIndex := 34, attributes := #[] }, { accessFlags := 2, nameIndex := 33, descriptorIndex := 34, attributes := #[] }])
  fields := #[{ name := "elements", type := (.array .int), accessFlags := 18, slot := 0, constantValue := 0 }, { name := "locations", type := (.array .int), accessFlags := 18, slot := 1, constantValue := 0 }, { name := "blocks", type := (.array .int), accessFlags := 18, slot := 2, constantValue := 0 }, { name := "first", type := (.array .int), accessFlags := 18, slot := 3, constantValue := 0 }, { name := "end", type := (.array .int), accessFlags := 18, slot := 4, constantValue := 0 }, { name := "markedCounts", type := (.array .int), accessFlags := 18, slot := 5, constantValue := 0 }, { name := "touched", type := (.array .int), accessFlags := 18, slot := 6, constantValue := 0 }, { name := "touchedCount", type := .int, accessFlags := 2, slot := 7, constantValue := 0 }, { name := "blockCount", type := .int, accessFlags := 2, slot := 8, constantValue := 0 }]
  methods := #[k2m0, k2m1, k2m2, k2m3, k2m4, k2m5]
  instanceTypes := #[(.array .int), (.array .int), (.array .int), (.array .int), (.array .int), (.array .int), (.array .int), .int, .int]
  staticTypes := #[]
  resolved := Array.replicate 59 none
  statics := none }

def pool3 : Array CpInfo := pool [(2, .class_ 4), (1, u "java/lang/Object"), (0, u "<init>"), (0, u "()V"), (35, .class_ 44), (1, u "java/util/Objects"), (60, .methodref 106 107), (0, .class_ 108), (0, .nameAndType 109 110), (0, u "jdk/internal/util/Preconditions"), (0, u "checkIndex"), (0, u "(IILjava/util/function/BiFunction;)I"), (60, u "(II)I")] 12

def k3m0 : Method := { name := "<init>", desc := "()V", sig := { parameters := [], returnType := none }, accessFlags := 2, code := none }
def k3c1 : Code := { maxStack := 3, maxLocals := 2, code := jdk_31_method_17_code, exceptionTable := #[], attributes := #[] }
def k3m1 : Method := { name := "checkIndex", desc := "(II)I", sig := { parameters := [.int, .int], returnType := some .int }, accessFlags := 9, code := some k3c1 }
/-- java/util/Objects -/
def k3 : Class := { plain "java/util/Objects" (some 0) with
  accessFlags := 49
  interfaces := #[]
  cf := some (fileOf pool3 42 #[] #[{ accessFlags := 2, nameIndex := 5, descriptorIndex := 6, attributes := #[] }, { accessFlags := 9, nameIndex := 109, descriptorIndex := 171, attributes := #[] }] 49 2 #[] #[])
  fields := #[]
  methods := #[k3m0, k3m1]
  instanceTypes := #[]
  staticTypes := #[]
  resolved := Array.replicate 184 none
  statics := none }

def pool4 : Array CpInfo := pool [(2, .class_ 4), (1, u "java/lang/Object"), (0, u "<init>"), (0, u "()V"), (17, .class_ 26), (1, u "jdk/internal/util/Preconditions"), (6, u "checkIndex"), (21, .class_ 56), (0, u "jdk/internal/util/Preconditions$4"), (57, .class_ 115), (0, u "jdk/internal/util/Preconditions$1"), (7, u "SIOOBE_FORMATTER"), (0, u "Ljava/util/function/BiFunction;"), (0, .class_ 126), (0, u "jdk/internal/util/Preconditions$2"), (3, u "AIOOBE_FORMATTER"), (0, .class_ 132), (0, u "jdk/internal/util/Preconditions$3"), (3, u "IOOBE_FORMATTER"), (41, u "(IILjava/util/function/BiFunction;)I")] 15

def k4m0 : Method := { name := "<init>", desc := "()V", sig := { parameters := [], returnType := none }, accessFlags := 1, code := none }
def k4c1 : Code := { maxStack := 3, maxLocals := 3, code := jdk_41_method_11_code, exceptionTable := #[], attributes := #[] }
def k4m1 : Method := { name := "checkIndex", desc := "(IILjava/util/function/BiFunction;)I", sig := { parameters := [.int, .int, (.object "java/util/function/BiFunction")], returnType := some .int }, accessFlags := 9, code := some k4c1 }
/-- jdk/internal/util/Preconditions -/
def k4 : Class := { plain "jdk/internal/util/Preconditions" (some 0) with
  accessFlags := 33
  interfaces := #[]
  cf := some (fileOf pool4 24 #[.nestMembers #[55, 131, 125, 114]] #[{ accessFlags := 1, nameIndex := 5, descriptorIndex := 6, attributes := #[] }, { accessFlags := 9, nameIndex := 33, descriptorIndex := 178, attributes := #[] }] 33 2 #[] #[{ accessFlags := 25, nameIndex := 123, descriptorIndex := 124, attributes := #[] }, { accessFlags := 25, nameIndex := 130, descriptorIndex := 124, attributes := #[] }, { accessFlags := 25, nameIndex := 136, descriptorIndex := 124, attributes := #[] }])
  fields := #[{ name := "SIOOBE_FORMATTER", type := (.object "java/util/function/BiFunction"), accessFlags := 25, slot := 0, constantValue := 0 }, { name := "AIOOBE_FORMATTER", type := (.object "java/util/function/BiFunction"), accessFlags := 25, slot := 1, constantValue := 0 }, { name := "IOOBE_FORMATTER", type := (.object "java/util/function/BiFunction"), accessFlags := 25, slot := 2, constantValue := 0 }]
  methods := #[k4m0, k4m1]
  instanceTypes := #[]
  staticTypes := #[(.object "java/util/function/BiFunction"), (.object "java/util/function/BiFunction"), (.object "java/util/function/BiFunction")]
  resolved := Array.replicate 194 none
  statics := none }

def pool5 : Array CpInfo := pool [(1, u "java/lang/Cloneable"), (0, .class_ 1), (0, u "java/lang/Object"), (0, .class_ 3)] 3

/-- java/lang/Cloneable -/
def k5 : Class := { plain "java/lang/Cloneable" (some 0) with
  accessFlags := 1537
  interfaces := #[]
  cf := some (fileOf pool5 2 #[] #[] 1537 4 #[] #[])
  fields := #[]
  methods := #[]
  instanceTypes := #[]
  staticTypes := #[]
  resolved := Array.replicate 8 none
  statics := none }

def pool6 : Array CpInfo := pool [(1, u "java/io/Serializable"), (0, .class_ 1), (0, u "java/lang/Object"), (0, .class_ 3)] 3

/-- java/io/Serializable -/
def k6 : Class := { plain "java/io/Serializable" (some 0) with
  accessFlags := 1537
  interfaces := #[]
  cf := some (fileOf pool6 2 #[] #[] 1537 4 #[] #[])
  fields := #[]
  methods := #[]
  instanceTypes := #[]
  staticTypes := #[]
  resolved := Array.replicate 8 none
  statics := none }

/-- the primitive byte -/
def k7 : Class := { plain "byte" none with kind := .primitive 'B', accessFlags := 0x411 }
/-- [B -/
def k8 : Class := { plain "[B" (some 0) with kind := .array 7 .byte, interfaces := #[5, 6], accessFlags := 1041 }

/-- the primitive int -/
def k9 : Class := { plain "int" none with kind := .primitive 'I', accessFlags := 0x411 }
/-- [I -/
def k10 : Class := { plain "[I" (some 0) with kind := .array 9 .int, interfaces := #[5, 6], accessFlags := 1041 }

def heap : Heap := #[]
def classes : Array Class := #[k0, k1, k2, k3, k4, k5, k6, k7, k8, k9, k10]
def interned : List (Array UInt16 × Addr) := []
def slotsUsed : Nat := 0
def theMethod : MethodId := ⟨1, 10⟩
def args0 : Array Value := #[.int 5, .int 1]
def aboutOver (below : List Frame) : State where
  vm := { classes := classes, interned := interned.toArray }
  heap := heap
  slotsUsed := slotsUsed
  threads := #[{ frames := .invoking theMethod args0 :: below }]
def below0 : List Frame := [.native { method := ⟨0, 0⟩, args := #[] }]
def about1 : State := aboutOver below0
def p0 : Program := .bare "" "" ""
def e0 : Env := launch0.env 0 0 0
theorem w_frames : about1.frames = Frame.invoking theMethod args0 :: below0 := rfl
set_option maxRecDepth 65536 in
theorem w_args : argsFit about1.vm theMethod args0 = true := by decide +kernel
set_option maxRecDepth 65536 in
theorem w_heap : heapFits about1 = true := by decide +kernel
set_option maxRecDepth 65536 in
theorem w_runnable : about1.curStatus? = some .runnable := by decide +kernel
set_option maxRecDepth 65536 in
theorem w_alone : about1.alone = true := by decide +kernel
set_option maxRecDepth 65536 in
theorem w_named : about1.methodNamed? x = some theMethod := by decide +kernel
set_option maxRecDepth 65536 in
theorem w_hears : about1.hears theMethod below0 = true := by decide +kernel
set_option maxRecDepth 65536 in
theorem w_ripe : about1.ripe theMethod args0 below0 = true := by decide +kernel
theorem w_running : about1.status = .running := rfl
set_option maxRecDepth 65536 in
theorem w_room : about1.hasRoom e0.platform room_1 = true :=
  launch0.hasRoom_least _ room_1 (by decide +kernel) (by decide +kernel) (by decide +kernel) (by decide +kernel) (by decide +kernel) (by decide +kernel)
theorem allAtoms_all (ts : List Jvm.Cond) (a : Array Jvm.Value) (st : Jvm.State) : (allAtoms ts).before a st = ts.all (fun c => c.before a st) := by
  induction ts with
  | nil => rfl
  | cons c t ih =>
    show (Jvm.Cond.and c (allAtoms t)).before a st = _
    rw [Jvm.Cond.before_and, ih, List.all_cons]
def words1 : List Jvm.Cond := Jvm.Cond.code x code maxLocals ret :: tables_1
/-- a 'code' word, met by the world's own term for the bytes: nothing is compared byte by byte -/
theorem code_word {y : MethodName} {bytes : ByteArray} {mx : Nat} {rt : Option FieldType} {a : Array Value} {s : State} {m : MethodId} {meth : Method} {c : Code} (h1 : s.methodNamed? y = some m) (h2 : s.vm.method? m = some meth) (h3 : meth.code = some c) (h4 : c.code = bytes)
    (h5 : (c.maxLocals == mx && c.exceptionTable.isEmpty && decide (c.maxStack ≤ mostOperands) && decide (meth.sig.returnType = rt) && !meth.locks && decide (parseMethodDescriptor y.desc = some meth.sig)) = true) : (Jvm.Cond.code y bytes mx rt).before a s = true := by
  simp only [Bool.and_eq_true, beq_iff_eq, Bool.not_eq_true', decide_eq_true_eq] at h5
  obtain ⟨⟨⟨⟨⟨g1, g2⟩, g3⟩, g4⟩, g5⟩, g6⟩ := h5
  simp [Cond.before, Cond.holds, Cond.value, h1, h2, h3, h4, g1, g2, g3, g4, g5, g6]
def isCode : Jvm.Cond → Bool
  | .code _ _ _ _ => true
  | _ => false
theorem all_split {L : List Jvm.Cond} {P : Jvm.Cond → Bool} (h1 : L.all (fun c => isCode c || P c) = true) (h2 : ∀ c ∈ L.filter isCode, P c = true) : L.all P = true := by
  refine List.all_eq_true.mpr fun c hc => ?_
  have h := List.all_eq_true.mp h1 c hc
  rcases Bool.eq_false_or_eq_true (isCode c) with hi | hi
  · exact h2 c (List.mem_filter.mpr ⟨hc, hi⟩)
  · simpa [hi] using h
set_option maxRecDepth 65536 in
theorem w_c0 : (Jvm.Cond.code x code maxLocals ret).before args0 about1 = true := code_word (m := ⟨1, 10⟩) (meth := k1m10) (c := k1c10) (by decide +kernel) rfl rfl rfl (by decide +kernel)
set_option maxRecDepth 65536 in
theorem w_c1 : (Jvm.Cond.code ({ cls := "com/example/ranked_tree_automata/rankedtreeautomata/Partition", name := "<init>", desc := "(I)V" } : Jvm.MethodName) prog_3_method_1_code (3 : Nat) (Option.none : Option Jvm.ClassFile.FieldType)).before args0 about1 = true := code_word (m := ⟨2, 0⟩) (meth := k2m0) (c := k2c0) (by decide +kernel) rfl rfl rfl (by decide +kernel)
set_option maxRecDepth 65536 in
theorem w_c2 : (Jvm.Cond.code ({ cls := "java/lang/Object", name := "<init>", desc := "()V" } : Jvm.MethodName) object_method_1_code (1 : Nat) (Option.none : Option Jvm.ClassFile.FieldType)).before args0 about1 = true := code_word (m := ⟨0, 0⟩) (meth := k0m0) (c := k0c0) (by decide +kernel) rfl rfl rfl (by decide +kernel)
set_option maxRecDepth 65536 in
theorem w_c3 : (Jvm.Cond.code ({ cls := "com/example/ranked_tree_automata/rankedtreeautomata/PartitionSplitPinLaw", name := "markAll", desc := "(Lcom/example/ranked_tree_automata/rankedtreeautomata/Partition;I)V" } : Jvm.MethodName) method_4_code (2 : Nat) (Option.none : Option Jvm.ClassFile.FieldType)).before args0 about1 = true := code_word (m := ⟨1, 3⟩) (meth := k1m3) (c := k1c3) (by decide +kernel) rfl rfl rfl (by decide +kernel)
set_option maxRecDepth 65536 in
theorem w_c4 : (Jvm.Cond.code ({ cls := "com/example/ranked_tree_automata/rankedtreeautomata/Partition", name := "split", desc := "()V" } : Jvm.MethodName) prog_3_method_7_code (6 : Nat) (Option.none : Option Jvm.ClassFile.FieldType)).before args0 about1 = true := code_word (m := ⟨2, 5⟩) (meth := k2m5) (c := k2c5) (by decide +kernel) rfl rfl rfl (by decide +kernel)
set_option maxRecDepth 65536 in
theorem w_c5 : (Jvm.Cond.code ({ cls := "com/example/ranked_tree_automata/rankedtreeautomata/Partition", name := "mark", desc := "(I)V" } : Jvm.MethodName) prog_3_method_6_code (6 : Nat) (Option.none : Option Jvm.ClassFile.FieldType)).before args0 about1 = true := code_word (m := ⟨2, 4⟩) (meth := k2m4) (c := k2c4) (by decide +kernel) rfl rfl rfl (by decide +kernel)
set_option maxRecDepth 65536 in
theorem w_c6 : (Jvm.Cond.code ({ cls := "com/example/ranked_tree_automata/rankedtreeautomata/PartitionSplitPinLaw", name := "pop", desc := "(I)I" } : Jvm.MethodName) method_3_code (1 : Nat) (Option.some Jvm.ClassFile.FieldType.int)).before args0 about1 = true := code_word (m := ⟨1, 2⟩) (meth := k1m2) (c := k1c2) (by decide +kernel) rfl rfl rfl (by decide +kernel)
set_option maxRecDepth 65536 in
theorem w_c7 : (Jvm.Cond.code ({ cls := "com/example/ranked_tree_automata/rankedtreeautomata/PartitionSplitPinLaw", name := "bit", desc := "(II)I" } : Jvm.MethodName) method_2_code (2 : Nat) (Option.some Jvm.ClassFile.FieldType.int)).before args0 about1 = true := code_word (m := ⟨1, 1⟩) (meth := k1m1) (c := k1c1) (by decide +kernel) rfl rfl rfl (by decide +kernel)
set_option maxRecDepth 65536 in
theorem w_c8 : (Jvm.Cond.code ({ cls := "com/example/ranked_tree_automata/rankedtreeautomata/PartitionSplitPinLaw", name := "members", desc := "(II)I" } : Jvm.MethodName) method_6_code (3 : Nat) (Option.some Jvm.ClassFile.FieldType.int)).before args0 about1 = true := code_word (m := ⟨1, 5⟩) (meth := k1m5) (c := k1c5) (by decide +kernel) rfl rfl rfl (by decide +kernel)
set_option maxRecDepth 65536 in
theorem w_c9 : (Jvm.Cond.code ({ cls := "com/example/ranked_tree_automata/rankedtreeautomata/PartitionSplitPinLaw", name := "firstRound", desc := "(II)I" } : Jvm.MethodName) method_5_code (4 : Nat) (Option.some Jvm.ClassFile.FieldType.int)).before args0 about1 = true := code_word (m := ⟨1, 4⟩) (meth := k1m4) (c := k1c4) (by decide +kernel) rfl rfl rfl (by decide +kernel)
set_option maxRecDepth 65536 in
theorem w_c10 : (Jvm.Cond.code ({ cls := "com/example/ranked_tree_automata/rankedtreeautomata/PartitionSplitPinLaw", name := "splits", desc := "(II)Z" } : Jvm.MethodName) method_7_code (4 : Nat) (Option.some Jvm.ClassFile.FieldType.boolean)).before args0 about1 = true := code_word (m := ⟨1, 6⟩) (meth := k1m6) (c := k1c6) (by decide +kernel) rfl rfl rfl (by decide +kernel)
set_option maxRecDepth 65536 in
theorem w_c11 : (Jvm.Cond.code ({ cls := "com/example/ranked_tree_automata/rankedtreeautomata/PartitionSplitPinLaw", name := "lowest", desc := "(I)I" } : Jvm.MethodName) method_9_code (1 : Nat) (Option.some Jvm.ClassFile.FieldType.int)).before args0 about1 = true := code_word (m := ⟨1, 8⟩) (meth := k1m8) (c := k1c8) (by decide +kernel) rfl rfl rfl (by decide +kernel)
set_option maxRecDepth 65536 in
theorem w_c12 : (Jvm.Cond.code ({ cls := "com/example/ranked_tree_automata/rankedtreeautomata/PartitionSplitPinLaw", name := "expected", desc := "(IIIII)I" } : Jvm.MethodName) method_10_code (7 : Nat) (Option.some Jvm.ClassFile.FieldType.int)).before args0 about1 = true := code_word (m := ⟨1, 9⟩) (meth := k1m9) (c := k1c9) (by decide +kernel) rfl rfl rfl (by decide +kernel)
set_option maxRecDepth 65536 in
theorem w_c13 : (Jvm.Cond.code ({ cls := "com/example/ranked_tree_automata/rankedtreeautomata/PartitionSplitPinLaw", name := "moves", desc := "(III)Z" } : Jvm.MethodName) method_8_code (6 : Nat) (Option.some Jvm.ClassFile.FieldType.boolean)).before args0 about1 = true := code_word (m := ⟨1, 7⟩) (meth := k1m7) (c := k1c7) (by decide +kernel) rfl rfl rfl (by decide +kernel)
set_option maxRecDepth 65536 in
theorem w_c14 : (Jvm.Cond.code ({ cls := "com/example/ranked_tree_automata/rankedtreeautomata/Partition", name := "blockCount", desc := "()I" } : Jvm.MethodName) prog_3_method_2_code (1 : Nat) (Option.some Jvm.ClassFile.FieldType.int)).before args0 about1 = true := code_word (m := ⟨2, 1⟩) (meth := k2m1) (c := k2c1) (by decide +kernel) rfl rfl rfl (by decide +kernel)
set_option maxRecDepth 65536 in
theorem w_c15 : (Jvm.Cond.code ({ cls := "com/example/ranked_tree_automata/rankedtreeautomata/Partition", name := "blockOf", desc := "(I)I" } : Jvm.MethodName) prog_3_method_3_code (2 : Nat) (Option.some Jvm.ClassFile.FieldType.int)).before args0 about1 = true := code_word (m := ⟨2, 2⟩) (meth := k2m2) (c := k2c2) (by decide +kernel) rfl rfl rfl (by decide +kernel)
set_option maxRecDepth 65536 in
theorem w_c16 : (Jvm.Cond.code ({ cls := "com/example/ranked_tree_automata/rankedtreeautomata/Partition", name := "size", desc := "(I)I" } : Jvm.MethodName) prog_3_method_4_code (2 : Nat) (Option.some Jvm.ClassFile.FieldType.int)).before args0 about1 = true := code_word (m := ⟨2, 3⟩) (meth := k2m3) (c := k2c3) (by decide +kernel) rfl rfl rfl (by decide +kernel)
set_option maxRecDepth 65536 in
theorem w_c17 : (Jvm.Cond.code ({ cls := "java/util/Objects", name := "checkIndex", desc := "(II)I" } : Jvm.MethodName) jdk_31_method_17_code (2 : Nat) (Option.some Jvm.ClassFile.FieldType.int)).before args0 about1 = true := code_word (m := ⟨3, 1⟩) (meth := k3m1) (c := k3c1) (by decide +kernel) rfl rfl rfl (by decide +kernel)
set_option maxRecDepth 65536 in
theorem w_c18 : (Jvm.Cond.code ({ cls := "jdk/internal/util/Preconditions", name := "checkIndex", desc := "(IILjava/util/function/BiFunction;)I" } : Jvm.MethodName) jdk_41_method_11_code (3 : Nat) (Option.some Jvm.ClassFile.FieldType.int)).before args0 about1 = true := code_word (m := ⟨4, 1⟩) (meth := k4m1) (c := k4c1) (by decide +kernel) rfl rfl rfl (by decide +kernel)
def codes1 : List Jvm.Cond := [Jvm.Cond.code x code maxLocals ret, Jvm.Cond.code ({ cls := "com/example/ranked_tree_automata/rankedtreeautomata/Partition", name := "<init>", desc := "(I)V" } : Jvm.MethodName) prog_3_method_1_code (3 : Nat) (Option.none : Option Jvm.ClassFile.FieldType), Jvm.Cond.code ({ cls := "java/lang/Object", name := "<init>", desc := "()V" } : Jvm.MethodName) object_method_1_code (1 : Nat) (Option.none : Option Jvm.ClassFile.FieldType), Jvm.Cond.code ({ cls := "com/example/ranked_tree_automata/rankedtreeautomata/PartitionSplitPinLaw", name := "markAll", desc := "(Lcom/example/ranked_tree_automata/rankedtreeautomata/Partition;I)V" } : Jvm.MethodName) method_4_code (2 : Nat) (Option.none : Option Jvm.ClassFile.FieldType), Jvm.Cond.code ({ cls := "com/example/ranked_tree_automata/rankedtreeautomata/Partition", name := "split", desc := "()V" } : Jvm.MethodName) prog_3_method_7_code (6 : Nat) (Option.none : Option Jvm.ClassFile.FieldType), Jvm.Cond.code ({ cls := "com/example/ranked_tree_automata/rankedtreeautomata/Partition", name := "mark", desc := "(I)V" } : Jvm.MethodName) prog_3_method_6_code (6 : Nat) (Option.none : Option Jvm.ClassFile.FieldType), Jvm.Cond.code ({ cls := "com/example/ranked_tree_automata/rankedtreeautomata/PartitionSplitPinLaw", name := "pop", desc := "(I)I" } : Jvm.MethodName) method_3_code (1 : Nat) (Option.some Jvm.ClassFile.FieldType.int), Jvm.Cond.code ({ cls := "com/example/ranked_tree_automata/rankedtreeautomata/PartitionSplitPinLaw", name := "bit", desc := "(II)I" } : Jvm.MethodName) method_2_code (2 : Nat) (Option.some Jvm.ClassFile.FieldType.int), Jvm.Cond.code ({ cls := "com/example/ranked_tree_automata/rankedtreeautomata/PartitionSplitPinLaw", name := "members", desc := "(II)I" } : Jvm.MethodName) method_6_code (3 : Nat) (Option.some Jvm.ClassFile.FieldType.int), Jvm.Cond.code ({ cls := "com/example/ranked_tree_automata/rankedtreeautomata/PartitionSplitPinLaw", name := "firstRound", desc := "(II)I" } : Jvm.MethodName) method_5_code (4 : Nat) (Option.some Jvm.ClassFile.FieldType.int), Jvm.Cond.code ({ cls := "com/example/ranked_tree_automata/rankedtreeautomata/PartitionSplitPinLaw", name := "splits", desc := "(II)Z" } : Jvm.MethodName) method_7_code (4 : Nat) (Option.some Jvm.ClassFile.FieldType.boolean), Jvm.Cond.code ({ cls := "com/example/ranked_tree_automata/rankedtreeautomata/PartitionSplitPinLaw", name := "lowest", desc := "(I)I" } : Jvm.MethodName) method_9_code (1 : Nat) (Option.some Jvm.ClassFile.FieldType.int), Jvm.Cond.code ({ cls := "com/example/ranked_tree_automata/rankedtreeautomata/PartitionSplitPinLaw", name := "expected", desc := "(IIIII)I" } : Jvm.MethodName) method_10_code (7 : Nat) (Option.some Jvm.ClassFile.FieldType.int), Jvm.Cond.code ({ cls := "com/example/ranked_tree_automata/rankedtreeautomata/PartitionSplitPinLaw", name := "moves", desc := "(III)Z" } : Jvm.MethodName) method_8_code (6 : Nat) (Option.some Jvm.ClassFile.FieldType.boolean), Jvm.Cond.code ({ cls := "com/example/ranked_tree_automata/rankedtreeautomata/Partition", name := "blockCount", desc := "()I" } : Jvm.MethodName) prog_3_method_2_code (1 : Nat) (Option.some Jvm.ClassFile.FieldType.int), Jvm.Cond.code ({ cls := "com/example/ranked_tree_automata/rankedtreeautomata/Partition", name := "blockOf", desc := "(I)I" } : Jvm.MethodName) prog_3_method_3_code (2 : Nat) (Option.some Jvm.ClassFile.FieldType.int), Jvm.Cond.code ({ cls := "com/example/ranked_tree_automata/rankedtreeautomata/Partition", name := "size", desc := "(I)I" } : Jvm.MethodName) prog_3_method_4_code (2 : Nat) (Option.some Jvm.ClassFile.FieldType.int), Jvm.Cond.code ({ cls := "java/util/Objects", name := "checkIndex", desc := "(II)I" } : Jvm.MethodName) jdk_31_method_17_code (2 : Nat) (Option.some Jvm.ClassFile.FieldType.int), Jvm.Cond.code ({ cls := "jdk/internal/util/Preconditions", name := "checkIndex", desc := "(IILjava/util/function/BiFunction;)I" } : Jvm.MethodName) jdk_41_method_11_code (3 : Nat) (Option.some Jvm.ClassFile.FieldType.int)]
set_option maxRecDepth 65536 in
theorem codes_eq : words1.filter isCode = codes1 := rfl
theorem w_codes : ∀ c ∈ words1.filter isCode, c.before args0 about1 = true := by
  rw [codes_eq]
  intro c hc
  simp only [codes1, List.mem_cons, List.not_mem_nil, or_false] at hc
  rcases hc with rfl | rfl | rfl | rfl | rfl | rfl | rfl | rfl | rfl | rfl | rfl | rfl | rfl | rfl | rfl | rfl | rfl | rfl | rfl
  · exact w_c0
  · exact w_c1
  · exact w_c2
  · exact w_c3
  · exact w_c4
  · exact w_c5
  · exact w_c6
  · exact w_c7
  · exact w_c8
  · exact w_c9
  · exact w_c10
  · exact w_c11
  · exact w_c12
  · exact w_c13
  · exact w_c14
  · exact w_c15
  · exact w_c16
  · exact w_c17
  · exact w_c18
set_option maxRecDepth 65536 in
theorem w_t1 : (words1.take 24).all (fun c => isCode c || c.before args0 about1) = true := by decide +kernel
set_option maxRecDepth 65536 in
theorem w_t2 : ((words1.drop 24).take 24).all (fun c => isCode c || c.before args0 about1) = true := by decide +kernel
set_option maxRecDepth 65536 in
theorem w_t3 : (((words1.drop 24).drop 24).take 24).all (fun c => isCode c || c.before args0 about1) = true := by decide +kernel
set_option maxRecDepth 65536 in
theorem w_t4 : (((words1.drop 24).drop 24).drop 24).all (fun c => isCode c || c.before args0 about1) = true := by decide +kernel
theorem w_tables : (allAtoms (Jvm.Cond.code x code maxLocals ret :: tables_1)).before args0 about1 = true := by
  rw [allAtoms_all]
  show words1.all (fun c => c.before args0 about1) = true
  refine all_split ?_ w_codes
  rw [← List.take_append_drop 24 words1, List.all_append, w_t1, ← List.take_append_drop 24 (words1.drop 24), List.all_append, w_t2, ← List.take_append_drop 24 ((words1.drop 24).drop 24), List.all_append, w_t3, w_t4]
  rfl
set_option maxRecDepth 65536 in
theorem w_case : (Jvm.Cond.and given_1 narrow_1).before args0 about1 = true := by decide +kernel
theorem w_applies : (headSpec (Jvm.Cond.code x code maxLocals ret :: tables_1) room_1).applies x e0.platform about1 = true :=
  (Spec.applies_iff w_frames).mpr ⟨w_running, w_runnable, w_alone, w_named, w_hears, w_ripe, w_room, w_tables⟩
theorem atStart : AtStart classFile x code maxLocals ret World_1 tables_1 room_1 Calls_1 rest_1 Pre_1 launch0 p0 e0 about1 theMethod args0 below0 :=
  ⟨lists_1, trivial, launch0.admits_env _ _ _, launch0.least_env, fairChoices_fair.cas, fairChoices_fair.clock, w_frames, w_args, w_heap, w_applies, trivial, trivial, w_case⟩
end start1
theorem witness_1 : WitnessClaimed_1 := ⟨start1.p0, start1.e0, start1.about1, start1.theMethod, start1.args0, start1.below0, start1.atStart⟩
end Jvm.Pilot.@@N@@
