import JvmDerived
import JvmDerived.Pilot.@@N@@Statement
import JvmDerived.Pilot.@@N@@Code
set_option linter.unusedVariables false
set_option linter.unusedSimpArgs false
namespace Jvm.Pilot.@@N@@
open Jvm Jvm.ClassFile Sem Op Lib Jvm.Free Jvm.Stand Jvm.LawKit Jvm.RoadKit Bundle Jvm.Pilot.@@N@@.Jvm.D
/-! ## PART A. A small machine that reckons with plain data, and the proof that the model follows it -/
abbrev oObj : Type := (Nat × List Value) ⊕ (FieldType × List Int32)
abbrev oFd : Type := String × String × FieldType × Bool
abbrev oKl : Type := String × Nat × List oFd
abbrev oMt : Type := MethodName × ByteArray × Nat × Option FieldType × Jvm.Room × Nat
abbrev oOp : Type := Nat × Instr × Nat × Nat
abbrev oSt : Type := Nat × Array Slot × List Value × List oObj × Nat × Nat
abbrev oCf : Type := Nat → List Value → List oObj → Option (Option Value × List oObj)

theorem oNone {α : Type} {a : α} {P : Prop} (h : (none : Option α) = some a) : P := by cases h
/-! A1. what stands for what: an abstract value's 'ref k' is the k-th object made; 'retAddr' and 'double' stand for any value of their size -/
def oVR (ad : List Addr) : Value → Value → Prop
  | .int x, w => w = .int x
  | .long x, w => w = .long x
  | .null, w => w = .null
  | .ref k, w => ∃ a, ad[k]? = some a ∧ w = .ref a
  | .retAddr _, w => w.category = 1
  | .double _, w => w.category = 2
  | .float _, _ => False
def oPre (ad ad' : List Addr) : Prop := ∀ (k : Nat) (a : Addr), ad[k]? = some a → ad'[k]? = some a
theorem oPre.rfl' (ad : List Addr) : oPre ad ad := fun _ _ h => h
theorem oPre.trans {a b c : List Addr} (h : oPre a b) (h' : oPre b c) : oPre a c := fun k x q => h' k x (h k x q)
theorem oPre.snoc (ad : List Addr) (x : Addr) : oPre ad (ad ++ [x]) := fun k a h => by
  rw [List.getElem?_append_left (List.getElem?_eq_some_iff.mp h).1]; exact h
theorem oVR.mono {ad ad' : List Addr} {v w : Value} (h : oVR ad v w) (p : oPre ad ad') : oVR ad' v w := by
  cases v <;> first | exact h | (obtain ⟨a, h1, h2⟩ := h; exact ⟨a, p _ _ h1, h2⟩)
theorem oVR.cat {ad : List Addr} {v w : Value} (h : oVR ad v w) : w.category = v.category := by
  cases v <;> first | (obtain ⟨a, h1, rfl⟩ := h; rfl) | (cases h; rfl) | (cases h; done) | exact h
def oKR (ad : List Addr) : List Value → List Value → Prop
  | [], ws => ws = []
  | v :: vs, ws => ∃ w ws', ws = w :: ws' ∧ oVR ad v w ∧ oKR ad vs ws'
theorem oKR.mono {ad ad' : List Addr} (p : oPre ad ad') : ∀ {vs ws : List Value}, oKR ad vs ws → oKR ad' vs ws
  | [], _, h => h
  | _ :: _, _, ⟨w, ws', h1, h2, h3⟩ => ⟨w, ws', h1, h2.mono p, oKR.mono p h3⟩
theorem oKR.len {ad : List Addr} : ∀ {vs ws : List Value}, oKR ad vs ws → ws.length = vs.length
  | [], _, h => by cases h; rfl
  | _ :: _, _, ⟨w, ws', h1, h2, h3⟩ => by cases h1; simp [oKR.len h3]
theorem oKR.take {ad : List Addr} : ∀ (n : Nat) {vs ws : List Value}, oKR ad vs ws → oKR ad (vs.take n) (ws.take n)
  | 0, _, _, _ => rfl
  | _ + 1, [], _, h => by cases h; rfl
  | n + 1, _ :: _, _, ⟨w, ws', h1, h2, h3⟩ => by cases h1; exact ⟨w, _, rfl, h2, oKR.take n h3⟩
theorem oKR.drop {ad : List Addr} : ∀ (n : Nat) {vs ws : List Value}, oKR ad vs ws → oKR ad (vs.drop n) (ws.drop n)
  | 0, _, _, h => h
  | _ + 1, [], _, h => by cases h; rfl
  | n + 1, _ :: _, _, ⟨w, ws', h1, h2, h3⟩ => by cases h1; exact oKR.drop n h3
theorem oKR.app {ad : List Addr} {xs ys : List Value} (h' : oKR ad xs ys) : ∀ {vs ws : List Value}, oKR ad vs ws → oKR ad (vs ++ xs) (ws ++ ys)
  | [], _, h => by cases h; exact h'
  | _ :: _, _, ⟨w, ws', h1, h2, h3⟩ => by cases h1; exact ⟨w, _, rfl, h2, oKR.app h' h3⟩
theorem oKR.rev {ad : List Addr} : ∀ {vs ws : List Value}, oKR ad vs ws → oKR ad vs.reverse ws.reverse
  | [], _, h => by cases h; rfl
  | v :: _, _, ⟨w, ws', h1, h2, h3⟩ => by
    cases h1
    rw [List.reverse_cons, List.reverse_cons]
    exact oKR.app (show oKR ad [v] [w] from ⟨w, [], rfl, h2, rfl⟩) (oKR.rev h3)
theorem oKR.cats {ad : List Addr} : ∀ {vs ws : List Value}, oKR ad vs ws → (ws.map fun v => v.category) = vs.map fun v => v.category
  | [], _, h => by cases h; rfl
  | _ :: _, _, ⟨w, ws', h1, h2, h3⟩ => by cases h1; simp [oKR.cats h3, h2.cat]

/-! A2. local variables -/
def oSR (ad : List Addr) : Slot → Slot → Prop
  | .unset, s => s = .unset
  | .second, s => s = .second
  | .val v, s => ∃ w, s = .val w ∧ oVR ad v w
theorem oSR.mono {ad ad' : List Addr} {x y : Slot} (h : oSR ad x y) (p : oPre ad ad') : oSR ad' x y := by
  cases x <;> first | exact h | (obtain ⟨a, h1, h2⟩ := h; exact ⟨a, h1, h2.mono p⟩)
def oLR (ad : List Addr) (l c : Array Slot) : Prop := l.size = c.size ∧ ∀ (i : Nat) (x : Slot), l[i]? = some x → ∃ y, c[i]? = some y ∧ oSR ad x y
theorem oLR.mono {ad ad' : List Addr} {l c : Array Slot} (h : oLR ad l c) (p : oPre ad ad') : oLR ad' l c :=
  ⟨h.1, fun i x hx => by obtain ⟨y, h1, h2⟩ := h.2 i x hx; exact ⟨y, h1, h2.mono p⟩⟩
theorem oLR.ld {ad : List Addr} {l c : Array Slot} (h : oLR ad l c) {k : Nat} {v : Value} (q : l.toList[k]? = some (.val v)) : ∃ w, c[k]? = some (.val w) ∧ oVR ad v w := by
  rw [Array.getElem?_toList] at q
  obtain ⟨y, h1, w, rfl, h2⟩ := h.2 k _ q
  exact ⟨w, h1, h2⟩
theorem oLR.set {ad : List Addr} {l c l' : Array Slot} {i : Nat} {x y : Slot} (h : oLR ad l c) (hx : oSR ad x y) (hs : setAt l i x = some l') : ∃ c', setAt c i y = some c' ∧ oLR ad l' c' := by
  unfold setAt at hs ⊢
  split at hs
  · rename_i hi
    cases hs
    have hi' : i < c.size := h.1 ▸ hi
    refine ⟨_, if_pos hi', by simp [h.1], fun j z hz => ?_⟩
    by_cases e : i = j
    · subst e
      rw [Array.getElem?_setIfInBounds_self_of_lt hi] at hz
      cases hz
      exact ⟨y, Array.getElem?_setIfInBounds_self_of_lt hi', hx⟩
    · rw [Array.getElem?_setIfInBounds_ne e] at hz ⊢
      exact h.2 j z hz
  · cases hs
theorem oLR.storeSelf {ad : List Addr} {l c l' : Array Slot} {i : Nat} {v w : Value} (h : oLR ad l c) (hv : oVR ad v w) (hs : storeSelf l i v = some l') : ∃ c', storeSelf c i w = some c' ∧ oLR ad l' c' := by
  simp only [Jvm.storeSelf, Option.bind_eq_bind, Option.bind_eq_some_iff] at hs ⊢
  obtain ⟨l1, h1, h2⟩ := hs
  obtain ⟨c1, e1, r1⟩ := h.set (x := .val v) (y := .val w) ⟨w, rfl, hv⟩ h1
  rw [hv.cat]
  split at h2
  · rename_i hcat
    simp only [Option.bind_eq_some_iff] at h2
    obtain ⟨x, hx, h3⟩ := h2
    obtain ⟨y, hy, hxy⟩ := r1.2 _ _ hx
    cases x with
    | unset =>
      cases hxy
      obtain ⟨c2, e2, r2⟩ := r1.set (x := .second) (y := .second) rfl h3
      exact ⟨c2, ⟨c1, e1, by rw [if_pos hcat, hy]; exact e2⟩, r2⟩
    | second =>
      cases hxy
      obtain ⟨c2, e2, r2⟩ := r1.set (x := .second) (y := .second) rfl h3
      exact ⟨c2, ⟨c1, e1, by rw [if_pos hcat, hy]; exact e2⟩, r2⟩
    | val old =>
      obtain ⟨w', rfl, ho⟩ := hxy
      dsimp only at h3
      split at h3
      · rename_i h2c
        simp only [Option.bind_eq_some_iff] at h3
        obtain ⟨l2, h4, h5⟩ := h3
        obtain ⟨c2, e2, r2⟩ := r1.set (x := .unset) (y := .unset) rfl h4
        obtain ⟨c3, e3, r3⟩ := r2.set (x := .second) (y := .second) rfl h5
        refine ⟨c3, ⟨c1, e1, ?_⟩, r3⟩
        rw [if_pos hcat, hy]
        show (if w'.category = 2 then _ else _) = _
        rw [if_pos (ho.cat.trans h2c), e2]
        exact e3
      · rename_i h2c
        obtain ⟨c2, e2, r2⟩ := r1.set (x := .second) (y := .second) rfl h3
        refine ⟨c2, ⟨c1, e1, ?_⟩, r2⟩
        rw [if_pos hcat, hy]
        show (if w'.category = 2 then _ else _) = _
        rw [if_neg (ho.cat ▸ h2c)]
        exact e2
  · rename_i hcat
    cases h2
    exact ⟨c1, ⟨c1, e1, by rw [if_neg hcat]⟩, r1⟩
theorem oLR.store {ad : List Addr} {l c l' : Array Slot} {i : Nat} {v w : Value} (h : oLR ad l c) (hv : oVR ad v w) (hs : storeLocals l i v = some l') : ∃ c', storeLocals c i w = some c' ∧ oLR ad l' c' := by
  simp only [storeLocals, Option.bind_eq_bind, Option.bind_eq_some_iff] at hs ⊢
  obtain ⟨x, hx, h1⟩ := hs
  obtain ⟨y, hy, hxy⟩ := h.2 _ _ hx
  cases x with
  | unset =>
    cases hxy
    obtain ⟨c1, e1, r1⟩ := h.storeSelf hv h1
    exact ⟨c1, ⟨_, hy, e1⟩, r1⟩
  | second =>
    cases hxy
    simp only [Option.bind_eq_some_iff] at h1
    obtain ⟨l1, h2, h3⟩ := h1
    obtain ⟨c1, e1, r1⟩ := h.set (x := .unset) (y := .unset) rfl h2
    obtain ⟨c2, e2, r2⟩ := r1.storeSelf hv h3
    exact ⟨c2, ⟨_, hy, by simp only [e1]; exact e2⟩, r2⟩
  | val old =>
    obtain ⟨w', rfl, ho⟩ := hxy
    dsimp only at h1
    split at h1
    · rename_i h2c
      simp only [Option.bind_eq_some_iff] at h1
      obtain ⟨l1, h2, h3⟩ := h1
      obtain ⟨c1, e1, r1⟩ := h.set (x := .unset) (y := .unset) rfl h2
      obtain ⟨c2, e2, r2⟩ := r1.storeSelf hv h3
      refine ⟨c2, ⟨_, hy, ?_⟩, r2⟩
      show (if w'.category = 2 then _ else _) = _
      rw [if_pos (ho.cat.trans h2c), e1]
      exact e2
    · rename_i h2c
      obtain ⟨c2, e2, r2⟩ := h.storeSelf hv h1
      refine ⟨c2, ⟨_, hy, ?_⟩, r2⟩
      show (if w'.category = 2 then _ else _) = _
      rw [if_neg (ho.cat ▸ h2c)]
      exact e2
theorem oLR.push {ad : List Addr} {l c : Array Slot} {x y : Slot} (h : oLR ad l c) (hx : oSR ad x y) : oLR ad (l.push x) (c.push y) := by
  refine ⟨by simp [h.1], fun i z hz => ?_⟩
  rw [Array.getElem?_push] at hz ⊢
  rw [h.1] at hz
  split at hz
  · rename_i e
    cases hz
    exact ⟨y, if_pos e, hx⟩
  · rename_i e
    rw [if_neg e]
    exact h.2 i z hz
theorem oLR.pad {ad : List Addr} {l c : Array Slot} (h : oLR ad l c) (n : Nat) : oLR ad (l ++ Array.replicate n .unset) (c ++ Array.replicate n .unset) := by
  refine ⟨by simp [h.1], fun i x hx => ?_⟩
  rw [Array.getElem?_append] at hx ⊢
  rw [h.1] at hx
  split at hx
  · rename_i hi
    rw [if_pos hi]; exact h.2 i x hx
  · rename_i hi
    rw [if_neg hi]
    rw [Array.getElem?_replicate] at hx ⊢
    split at hx
    · rename_i hj
      cases hx
      exact ⟨.unset, if_pos hj, rfl⟩
    · cases hx
theorem oLR.fold {ad : List Addr} : ∀ {vs ws : List Value} {l c : Array Slot}, oKR ad vs ws → oLR ad l c →
    oLR ad (vs.foldl (fun acc v => if v.category = 2 then (acc.push (.val v)).push .second else acc.push (.val v)) l) (ws.foldl (fun acc v => if v.category = 2 then (acc.push (.val v)).push .second else acc.push (.val v)) c)
  | [], _, _, _, hk, h => by cases hk; exact h
  | v :: vs, _, _, _, ⟨w, ws', h1, h2, h3⟩, h => by
    cases h1
    rw [List.foldl_cons, List.foldl_cons]
    refine oLR.fold h3 ?_
    rw [h2.cat]
    split
    · exact (h.push (show oSR ad (.val v) (.val w) from ⟨w, rfl, h2⟩)).push (show oSR ad .second .second from rfl)
    · exact h.push (show oSR ad (.val v) (.val w) from ⟨w, rfl, h2⟩)
theorem oLR.entry {ad : List Addr} {vs ws : List Value} (h : oKR ad vs ws) (n : Nat) : oLR ad (argsToLocals vs.toArray n) (argsToLocals ws.toArray n) := by
  have q := oLR.fold h (l := #[]) (c := #[]) ⟨rfl, fun i x hx => by simp at hx⟩
  unfold argsToLocals
  rw [List.foldl_toArray, List.foldl_toArray]
  dsimp only
  rw [q.1]
  exact q.pad _

/-! A3. the heap: the k-th object made lies at the k-th address of 'ad' -/
def oOR (Z : State) (h : Heap) (ad : List Addr) (KT : List oKl) (a : Addr) : oObj → Prop
  | .inl (k, vs) => ∃ (C : String) (n : Nat) (fs : List oFd), KT[k]? = some (C, n, fs) ∧ vs.length = fs.length ∧ Exa Z h a C ∧ ∀ (i : Nat) (f : oFd) (v : Value), fs[i]? = some f → vs[i]? = some v → ∃ w, oVR ad v w ∧ Fld Z h a C f.1 f.2.1 w
  | .inr (ty, vs) => ∃ c : Cell, Arr Z h a c ty ∧ c.slots = (vs.map Value.int).toArray
def oHR (Z : State) (h : Heap) (n0 : Nat) (ad : List Addr) (KT : List oKl) (H : List oObj) : Prop :=
  ad.length = H.length ∧ (∀ (i j a : Nat), ad[i]? = some a → ad[j]? = some a → i = j) ∧ (∀ (i a : Nat), ad[i]? = some a → n0 ≤ a ∧ a < h.size) ∧
    ∀ (k : Nat) (o : oObj) (a : Nat), H[k]? = some o → ad[k]? = some a → oOR Z h ad KT a o
section Heaps
variable {Z : State} {h h' : Heap} {ad ad' : List Addr} {KT : List oKl} {a b : Addr} {o : oObj} {H : List oObj} {n0 : Nat}
theorem oOR.mono (q : oOR Z h ad KT a o) (p : oPre ad ad') : oOR Z h ad' KT a o := by
  rcases o with ⟨k, vs⟩ | ⟨ty, vs⟩
  · obtain ⟨C, n, fs, h1, h0, h2, h3⟩ := q
    exact ⟨C, n, fs, h1, h0, h2, fun i f v hf hv => by obtain ⟨w, e1, e2⟩ := h3 i f v hf hv; exact ⟨w, e1.mono p, e2⟩⟩
  · exact q
theorem oOR.ext (q : oOR Z h ad KT a o) (E : Ext h h') : oOR Z h' ad KT a o := by
  rcases o with ⟨k, vs⟩ | ⟨ty, vs⟩
  · obtain ⟨C, n, fs, h1, h0, h2, h3⟩ := q
    exact ⟨C, n, fs, h1, h0, h2.ext E, fun i f v hf hv => by obtain ⟨w, e1, e2⟩ := h3 i f v hf hv; exact ⟨w, e1, e2.ext E⟩⟩
  · obtain ⟨c, h1, h2⟩ := q
    exact ⟨c, h1.ext E, h2⟩
theorem oOR.other {sl : Nat} {v : Value} (q : oOR Z h ad KT b o) (W : Wr h h' a sl v) (hne : b ≠ a) : oOR Z h' ad KT b o := by
  rcases o with ⟨k, vs⟩ | ⟨ty, vs⟩
  · obtain ⟨C, n, fs, h1, h0, h2, h3⟩ := q
    exact ⟨C, n, fs, h1, h0, h2.wr W, fun i f v hf hv => by obtain ⟨w, e1, e2⟩ := h3 i f v hf hv; exact ⟨w, e1, e2.other W (Or.inl hne)⟩⟩
  · obtain ⟨c, h1, h2⟩ := q
    exact ⟨c, h1.other W hne, h2⟩
theorem oHR.at (q : oHR Z h n0 ad KT H) {k : Nat} (e : H[k]? = some o) : ∃ a, ad[k]? = some a ∧ oOR Z h ad KT a o := by
  have hk : k < ad.length := by rw [q.1]; exact (List.getElem?_eq_some_iff.mp e).1
  exact ⟨ad[k], List.getElem?_eq_getElem hk, q.2.2.2 k o _ e (List.getElem?_eq_getElem hk)⟩
theorem oHR.put {sl k : Nat} {v : Value} {o' : oObj} (q : oHR Z h n0 ad KT H) (e : H[k]? = some o) (ha : ad[k]? = some a) (W : Wr h h' a sl v) (hn : oOR Z h' ad KT a o') : oHR Z h' n0 ad KT (H.set k o') := by
  refine ⟨by simp [q.1], q.2.1, fun i b hb => by rw [W.size]; exact q.2.2.1 i b hb, fun j o1 b ho hb => ?_⟩
  by_cases ej : k = j
  · subst ej
    rw [List.getElem?_set_self (List.getElem?_eq_some_iff.mp e).1] at ho
    cases ho
    cases ha.symm.trans hb
    exact hn
  · rw [List.getElem?_set_ne ej] at ho
    exact (q.2.2.2 j o1 b ho hb).other W fun hab => ej (q.2.1 k j a ha (hab ▸ hb))
theorem oHR.new {o' : oObj} (q : oHR Z h n0 ad KT H) (hn0 : n0 ≤ h.size) (E : Ext h h') (hlt : h.size < h'.size) (hn : oOR Z h' (ad ++ [h.size]) KT h.size o') : oHR Z h' n0 (ad ++ [h.size]) KT (H ++ [o']) := by
  have key : ∀ (i b : Nat), (ad ++ [h.size])[i]? = some b → (ad[i]? = some b ∧ i < ad.length) ∨ (i = ad.length ∧ b = h.size) := fun i b hb => by
    by_cases hi : i < ad.length
    · rw [List.getElem?_append_left hi] at hb; exact Or.inl ⟨hb, hi⟩
    · rw [List.getElem?_append_right (Nat.le_of_not_lt hi)] at hb
      obtain ⟨h1, h2⟩ := List.getElem?_eq_some_iff.mp hb
      simp only [List.length_singleton, Nat.lt_one_iff] at h1
      refine Or.inr ⟨by omega, ?_⟩
      simp only [h1, List.getElem_singleton] at h2
      exact h2.symm
  refine ⟨by simp [q.1], fun i j b hi hj => ?_, fun i b hi => ?_, fun j o1 b ho hb => ?_⟩
  · rcases key i b hi with ⟨h1, h1'⟩ | ⟨h1, h2⟩ <;> rcases key j b hj with ⟨g1, g1'⟩ | ⟨g1, g2⟩
    · exact q.2.1 i j b h1 g1
    · have := (q.2.2.1 i b h1).2; omega
    · have := (q.2.2.1 j b g1).2; omega
    · omega
  · rcases key i b hi with ⟨h1, h1'⟩ | ⟨h1, h2⟩
    · have := q.2.2.1 i b h1; omega
    · omega
  · rcases key j b hb with ⟨h1, h1'⟩ | ⟨h1, h2⟩
    · rw [List.getElem?_append_left (by rw [← q.1]; exact h1')] at ho
      exact ((q.2.2.2 j o1 b ho h1).ext E).mono (oPre.snoc _ _)
    · subst h1 h2
      rw [List.getElem?_append_right (by rw [q.1]; exact Nat.le_refl _)] at ho
      have e0 : ad.length - H.length = 0 := by rw [q.1]; omega
      rw [e0] at ho
      cases ho
      exact hn
end Heaps

/-! A4. the machine -/
def oLen : Instr → Nat
  | .iload _ | .istore _ | .aload _ | .astore _ | .lload _ | .lstore _ | .bipush _ | .ldc _ | .newarray _ => 2
  | .sipush _ | .goto _ | .if_icmp _ _ | .ifCond _ _ | .if_acmp _ _ | .ifnull _ | .ifnonnull _ | .getfield _ | .putfield _ | .invokestatic _ | .invokespecial _ | .invokevirtual _ | .new _ | .iinc _ _ | .ldc2_w _ | .checkcast _ | .getstatic _ => 3
  | _ => 1
def oSw : Instr → Bool
  | .lookupswitch _ _ => true
  | _ => false
def oRetI : Instr → Bool
  | .ireturn | .lreturn | .areturn | .return_ => true
  | _ => false
def oJmp (pc : Nat) (o : Int) (ls : Array Slot) (r : List Value) : Option (Nat × Array Slot × List Value) := if 0 ≤ (pc : Int) + o then some (((pc : Int) + o).toNat, ls, r) else none
def oB (f : Int32 → Int32 → Int32) (pc : Nat) (ls : Array Slot) : List Value → Option (Nat × Array Slot × List Value)
  | .int y :: .int x :: r => some (pc + 1, ls, .int (f x y) :: r)
  | _ => none
def oBL (f : Int64 → Int64 → Int64) (pc : Nat) (ls : Array Slot) : List Value → Option (Nat × Array Slot × List Value)
  | .long y :: .long x :: r => some (pc + 1, ls, .long (f x y) :: r)
  | _ => none
def oU (f : Int32 → Int32) (pc : Nat) (ls : Array Slot) : List Value → Option (Nat × Array Slot × List Value)
  | .int x :: r => some (pc + 1, ls, .int (f x) :: r)
  | _ => none
def oLdI (n pc : Nat) (ls : Array Slot) (sk : List Value) (k : Nat) : Option (Nat × Array Slot × List Value) :=
  match ls.toList[k]? with
  | some (.val (.int x)) => some (pc + n, ls, .int x :: sk)
  | _ => none
def oLdL (n pc : Nat) (ls : Array Slot) (sk : List Value) (k : Nat) : Option (Nat × Array Slot × List Value) :=
  match ls.toList[k]? with
  | some (.val (.long x)) => some (pc + n, ls, .long x :: sk)
  | _ => none
def oLdA (n pc : Nat) (ls : Array Slot) (sk : List Value) (k : Nat) : Option (Nat × Array Slot × List Value) :=
  match ls.toList[k]? with
  | some (.val (.ref x)) => some (pc + n, ls, .ref x :: sk)
  | some (.val .null) => some (pc + n, ls, .null :: sk)
  | _ => none
def oStI (n pc : Nat) (ls : Array Slot) (k : Nat) : List Value → Option (Nat × Array Slot × List Value)
  | .int x :: r => (storeLocals ls k (.int x)).map fun l' => (pc + n, l', r)
  | _ => none
def oStL (n pc : Nat) (ls : Array Slot) (k : Nat) : List Value → Option (Nat × Array Slot × List Value)
  | .long x :: r => (storeLocals ls k (.long x)).map fun l' => (pc + n, l', r)
  | _ => none
def oStA (n pc : Nat) (ls : Array Slot) (k : Nat) : List Value → Option (Nat × Array Slot × List Value)
  | .ref x :: r => (storeLocals ls k (.ref x)).map fun l' => (pc + n, l', r)
  | .null :: r => (storeLocals ls k .null).map fun l' => (pc + n, l', r)
  | _ => none
def oC1 (v : Value) : Bool := v.category == 1
/-- the steps that touch neither heap nor calls -/
def oStep1 (CT : List Value) (i : Instr) (p1 pc : Nat) (ls : Array Slot) (sk : List Value) : Option (Nat × Array Slot × List Value) :=
  match i with
  | .iload_n k => oLdI 1 pc ls sk k.val
  | .iload k => oLdI 2 pc ls sk k
  | .lload_n k => oLdL 1 pc ls sk k.val
  | .lload k => oLdL 2 pc ls sk k
  | .aload_n k => oLdA 1 pc ls sk k.val
  | .aload k => oLdA 2 pc ls sk k
  | .istore_n k => oStI 1 pc ls k.val sk
  | .istore k => oStI 2 pc ls k sk
  | .lstore_n k => oStL 1 pc ls k.val sk
  | .lstore k => oStL 2 pc ls k sk
  | .astore_n k => oStA 1 pc ls k.val sk
  | .astore k => oStA 2 pc ls k sk
  | .iinc k n => match ls.toList[k]? with
    | some (.val (.int x)) => (storeLocals ls k (.int (x + Int32.ofInt n))).map fun l' => (pc + 3, l', sk)
    | _ => none
  | .iconst n => some (pc + 1, ls, .int (Int32.ofInt n) :: sk)
  | .bipush n => some (pc + 2, ls, .int (Int8.ofInt n).toInt32 :: sk)
  | .sipush n => some (pc + 3, ls, .int (Int16.ofInt n).toInt32 :: sk)
  | .lconst k => some (pc + 1, ls, .long (Int64.ofNat k) :: sk)
  | .aconst_null => some (pc + 1, ls, .null :: sk)
  | .ldc _ => match CT[p1]? with
    | some (.int x) => some (pc + 2, ls, .int x :: sk)
    | _ => none
  | .ldc2_w _ => match CT[p1]? with
    | some (.long x) => some (pc + 3, ls, .long x :: sk)
    | _ => none
  | .iadd => oB (· + ·) pc ls sk
  | .isub => oB (· - ·) pc ls sk
  | .imul => oB (· * ·) pc ls sk
  | .iand => oB (· &&& ·) pc ls sk
  | .ior => oB (· ||| ·) pc ls sk
  | .ixor => oB (· ^^^ ·) pc ls sk
  | .ishl => oB (fun x y => x <<< (y &&& 31)) pc ls sk
  | .ishr => oB (fun x y => x >>> (y &&& 31)) pc ls sk
  | .iushr => oB XT.ushr pc ls sk
  | .ladd => oBL (· + ·) pc ls sk
  | .lsub => oBL (· - ·) pc ls sk
  | .lmul => oBL (· * ·) pc ls sk
  | .land => oBL (· &&& ·) pc ls sk
  | .idiv => match sk with
    | .int y :: .int x :: r => if y = 0 then none else some (pc + 1, ls, .int (x / y) :: r)
    | _ => none
  | .irem => match sk with
    | .int y :: .int x :: r => if y = 0 then none else some (pc + 1, ls, .int (x % y) :: r)
    | _ => none
  | .ldiv => match sk with
    | .long y :: .long x :: r => if y = 0 then none else some (pc + 1, ls, .long (x / y) :: r)
    | _ => none
  | .lshr => match sk with
    | .int y :: .long x :: r => some (pc + 1, ls, .long (x >>> (y &&& 0x3f).toInt64) :: r)
    | _ => none
  | .lcmp => match sk with
    | .long y :: .long x :: r => some (pc + 1, ls, .int (XT.cmpL x y) :: r)
    | _ => none
  | .i2c => oU (fun x => x.toUInt32.toUInt16.toUInt32.toInt32) pc ls sk
  | .i2b => oU (fun x => x.toInt8.toInt32) pc ls sk
  | .i2l => match sk with
    | .int x :: r => some (pc + 1, ls, .long x.toInt64 :: r)
    | _ => none
  | .l2i => match sk with
    | .long x :: r => some (pc + 1, ls, .int x.toInt32 :: r)
    | _ => none
  | .dup => match sk with
    | x :: r => if oC1 x then some (pc + 1, ls, x :: x :: r) else none
    | _ => none
  | .pop => match sk with
    | x :: r => if oC1 x then some (pc + 1, ls, r) else none
    | _ => none
  | .dup_x1 => match sk with
    | x :: y :: r => if oC1 x && oC1 y then some (pc + 1, ls, x :: y :: x :: r) else none
    | _ => none
  | .dup2 => match sk with
    | x :: y :: r => if oC1 x && oC1 y then some (pc + 1, ls, x :: y :: x :: y :: r) else none
    | _ => none
  | .dup_x2 => match sk with
    | x :: y :: z :: r => if oC1 x && (oC1 y && oC1 z) then some (pc + 1, ls, x :: y :: z :: x :: r) else none
    | _ => none
  | .checkcast _ => match sk with
    | .null :: r => some (pc + 3, ls, .null :: r)
    | _ => none
  | .goto o => oJmp pc o ls sk
  | .ifCond cd o => match sk with
    | .int x :: r => if ifCond.holds cd x = true then oJmp pc o ls r else some (pc + 3, ls, r)
    | _ => none
  | .if_icmp cd o => match sk with
    | .int y :: .int x :: r => if if_icmp.holds cd x y = true then oJmp pc o ls r else some (pc + 3, ls, r)
    | _ => none
  | .lookupswitch dflt prs => match sk with
    | .int x :: r => if (prs.toList.zip (prs.toList.drop 1)).all (fun q => decide (q.1.1 < q.2.1)) = true then oJmp pc (lookupswitch.offset prs.toList dflt x.toInt) ls r else none
    | _ => none
  | _ => none
def oFit : FieldType → Value → Bool
  | .boolean, .int _ | .byte, .int _ | .char, .int _ | .short, .int _ | .int, .int _ | .long, .long _ => true
  | .object _, .null | .object _, .ref _ | .array _, .null | .array _, .ref _ => true
  | _, _ => false
def oIn (j : Int32) (n : Nat) : Bool := !decide (j < 0) && decide (j.toNatClampNeg < n)
/-- the steps on the heap -/
def oStep2 (KT : List oKl) (R : Jvm.Room) (i : Instr) (p1 p2 pc : Nat) (sk : List Value) (H : List oObj) (cells slots : Nat) : Option (Nat × List Value × List oObj × Nat × Nat) :=
  match i with
  | .getfield _ => match sk with
    | .ref k :: r => match H[k]? with
      | some (.inl (c, vs)) => if c = p1 then (match vs[p2]? with
        | some v => some (pc + 3, v :: r, H, cells, slots)
        | none => none) else none
      | _ => none
    | _ => none
  | .putfield _ => match sk with
    | v :: .ref k :: r => match H[k]? with
      | some (.inl (c, vs)) => (match KT[p1]? with
        | some (_, _, fs) => (match fs[p2]? with
          | some (_, _, ty, _) => if c = p1 ∧ p2 < vs.length ∧ oFit ty v = true then some (pc + 3, r, H.set k (.inl (c, vs.set p2 (narrow ty v))), cells, slots) else none
          | none => none)
        | none => none)
      | _ => none
    | _ => none
  | .new _ => match KT[p1]? with
    | some (_, n, fs) => if cells + 1 ≤ R.cells ∧ slots + n ≤ R.slots then some (pc + 3, .ref H.length :: sk, H ++ [.inl (p1, fs.map fun f => defaultValue f.2.2.1)], cells + 1, slots + n) else none
    | none => none
  | .newarray t => match sk with
    | .int n :: r => if (t = .int ∨ t = .boolean) ∧ ¬ n < 0 ∧ n.toNatClampNeg * 8 ≤ 536870912 ∧ cells + 1 ≤ R.cells ∧ slots + n.toNatClampNeg ≤ R.slots then some (pc + 2, .ref H.length :: r, H ++ [.inr (newarray.typeOf t, List.replicate n.toNatClampNeg 0)], cells + 1, slots + n.toNatClampNeg) else none
    | _ => none
  | .arraylength => match sk with
    | .ref k :: r => match H[k]? with
      | some (.inr (_, vs)) => some (pc + 1, .int vs.length.toInt32 :: r, H, cells, slots)
      | _ => none
    | _ => none
  | .iaload => match sk with
    | .int j :: .ref k :: r => match H[k]? with
      | some (.inr (.int, vs)) => if j < 0 then none else (match vs[j.toNatClampNeg]? with
        | some x => some (pc + 1, .int x :: r, H, cells, slots)
        | none => none)
      | _ => none
    | _ => none
  | .baload => match sk with
    | .int j :: .ref k :: r => match H[k]? with
      | some (.inr (.boolean, vs)) => if j < 0 then none else (match vs[j.toNatClampNeg]? with
        | some x => some (pc + 1, .int x :: r, H, cells, slots)
        | none => none)
      | _ => none
    | _ => none
  | .iastore => match sk with
    | .int x :: .int j :: .ref k :: r => match H[k]? with
      | some (.inr (.int, vs)) => if oIn j vs.length = true then some (pc + 1, r, H.set k (.inr (.int, vs.set j.toNatClampNeg x)), cells, slots) else none
      | _ => none
    | _ => none
  | .bastore => match sk with
    | .int x :: .int j :: .ref k :: r => match H[k]? with
      | some (.inr (.boolean, vs)) => if oIn j vs.length = true then some (pc + 1, r, H.set k (.inr (.boolean, vs.set j.toNatClampNeg (x &&& 1))), cells, slots) else none
      | _ => none
    | _ => none
  | _ => none
def oCatS (sk : List Value) : Nat := (sk.map fun v => v.category).sum
/-- the calls -/
def oStep3 (KT : List oKl) (MT : List oMt) (callf : oCf) (R : Jvm.Room) (mx : Nat) (i : Instr) (p1 p2 pc : Nat) (ls : Array Slot) (sk : List Value) (H : List oObj) (cells slots : Nat) : Option (Nat × List Value × List oObj × Nat × Nat) :=
  match i with
  | .invokestatic _ => if p2 = 2 then (match sk with
      | .int nn :: .int dp :: .ref b :: .int sp :: .ref a :: r => (match H[a]? with
        | some (.inr (.int, vs)) => (match H[b]? with
          | some (.inr (.int, vd)) => if ls.size = mx ∧ ¬ sp < 0 ∧ ¬ dp < 0 ∧ ¬ nn < 0 ∧ sp.toNatClampNeg + nn.toNatClampNeg ≤ vs.length ∧ dp.toNatClampNeg + nn.toNatClampNeg ≤ vd.length ∧ vs.length < 2147483648 ∧ vd.length < 2147483648 ∧ 1 ≤ R.frames ∧ oCatS r + 18 ≤ R.locals then
              some (pc + 3, r, H.set b (.inr (.int, vd.take dp.toNatClampNeg ++ (vs.drop sp.toNatClampNeg).take nn.toNatClampNeg ++ vd.drop (dp.toNatClampNeg + nn.toNatClampNeg))), cells, slots) else none
          | _ => none)
        | _ => none)
      | _ => none)
    else (match MT[p1]? with
    | some (_, _, maxL, _, rm, n) =>
      if ls.size = mx ∧ n ≤ sk.length ∧ rm.frames + 1 ≤ R.frames ∧ oCatS (sk.drop n) + (maxL + 11) + rm.locals ≤ R.locals ∧ cells + rm.cells ≤ R.cells ∧ slots + rm.slots ≤ R.slots then
        (match callf p1 (sk.take n).reverse H with
        | some (v, H') => some (pc + 3, v.toList ++ sk.drop n, H', cells + rm.cells, slots + rm.slots)
        | none => none)
      else none
    | none => none)
  | .invokespecial _ =>
    if p2 = 1 then (match sk with
      | .ref _ :: r => if ls.size = mx ∧ 1 ≤ R.frames ∧ oCatS r + 12 ≤ R.locals then some (pc + 3, r, H, cells, slots) else none
      | _ => none)
    else (match MT[p1]? with
    | some (_, _, maxL, _, rm, n) => (match sk.drop n with
      | .ref k :: r =>
        if ls.size = mx ∧ rm.frames + 1 ≤ R.frames ∧ oCatS r + (maxL + 11) + rm.locals ≤ R.locals ∧ cells + rm.cells ≤ R.cells ∧ slots + rm.slots ≤ R.slots then
          (match callf p1 (.ref k :: (sk.take n).reverse) H with
          | some (v, H') => some (pc + 3, v.toList ++ r, H', cells + rm.cells, slots + rm.slots)
          | none => none)
        else none
      | _ => none)
    | none => none)
  | .invokevirtual _ => match MT[p1]? with
    | some (_, _, maxL, _, rm, n) => (match sk.drop n with
      | .ref k :: r => (match H[k]? with
        | some (.inl (c, _)) =>
          if c = p2 ∧ ls.size = mx ∧ rm.frames + 1 ≤ R.frames ∧ oCatS r + (maxL + 11) + rm.locals ≤ R.locals ∧ cells + rm.cells ≤ R.cells ∧ slots + rm.slots ≤ R.slots then
            (match callf p1 (.ref k :: (sk.take n).reverse) H with
            | some (v, H') => some (pc + 3, v.toList ++ r, H', cells + rm.cells, slots + rm.slots)
            | none => none)
          else none
        | _ => none)
      | _ => none)
    | none => none
  | _ => none
def oFetch : List oOp → Nat → Option (Instr × Nat × Nat)
  | [], _ => none
  | (q, r) :: t, pc => match Nat.beq q pc with
    | true => some r
    | false => oFetch t pc
def oStep (KT : List oKl) (CT : List Value) (MT : List oMt) (callf : oCf) (R : Jvm.Room) (mx : Nat) (op : Instr × Nat × Nat) : oSt → Option oSt
  | (pc, ls, sk, H, cells, slots) =>
    match oStep1 CT op.1 op.2.1 pc ls sk with
    | some (pc', ls', sk') => some (pc', ls', sk', H, cells, slots)
    | none => match oStep2 KT R op.1 op.2.1 op.2.2 pc sk H cells slots with
      | some (pc', sk', H', c', s') => some (pc', ls, sk', H', c', s')
      | none => match oStep3 KT MT callf R mx op.1 op.2.1 op.2.2 pc ls sk H cells slots with
        | some (pc', sk', H', c', s') => some (pc', ls, sk', H', c', s')
        | none => none
/-- runs till a return stands next, or the fuel is out -/
def oRun (KT : List oKl) (CT : List Value) (MT : List oMt) (callf : oCf) (R : Jvm.Room) (mx : Nat) (ops : List oOp) : Nat → oSt → Option oSt
  | 0, st => some st
  | n + 1, st => match oFetch ops st.1 with
    | none => none
    | some op => if oRetI op.1 = true then some st else match oStep KT CT MT callf R mx op st with
      | none => none
      | some st' => oRun KT CT MT callf R mx ops n st'
def oNar (rt : Option FieldType) (v : Value) : Bool := match rt with
  | some .int => true
  | some t => decide (narrow t v = v)
  | none => false
def oIntT (rt : Option FieldType) : Bool := match rt with
  | some .int | some .boolean | some .byte | some .char | some .short => true
  | _ => false
def oRefT (rt : Option FieldType) : Bool := match rt with
  | some t => t.isReference
  | _ => false
/-- what is returned where a return stands next -/
def oRet (q : oMt) (ops : List oOp) : oSt → Option (Option Value × List oObj)
  | (pc, _, sk, H, cells, slots) => if cells ≤ q.2.2.2.2.1.cells ∧ slots ≤ q.2.2.2.2.1.slots then (match oFetch ops pc with
    | some (.return_, _) => (match q.2.2.2.1, sk with
      | none, [] => some (none, H)
      | _, _ => none)
    | some (.ireturn, _) => (match sk with
      | .int x :: _ => if oIntT q.2.2.2.1 = true ∧ oNar q.2.2.2.1 (.int x) = true then some (some (.int x), H) else none
      | _ => none)
    | some (.lreturn, _) => (match sk with
      | .long x :: _ => if q.2.2.2.1 = some .long then some (some (.long x), H) else none
      | _ => none)
    | some (.areturn, _) => (match sk with
      | .ref k :: _ => if oRefT q.2.2.2.1 = true then some (some (.ref k), H) else none
      | .null :: _ => if oRefT q.2.2.2.1 = true then some (some .null, H) else none
      | _ => none)
    | _ => none) else none
def oBody (KT : List oKl) (CT : List Value) (MT : List oMt) (callf : oCf) (q : oMt) (ops : List oOp) (fuel : Nat) (vs : List Value) (H : List oObj) : Option (Option Value × List oObj) :=
  match oRun KT CT MT callf q.2.2.2.2.1 q.2.2.1 ops fuel (0, argsToLocals vs.toArray q.2.2.1, [], H, 0, 0) with
  | some st => oRet q ops st
  | none => none

/-! A5. what is asked of the tables, by program -/
def oHas (ws : List Jvm.Cond) (d : Jvm.Cond) : Bool := decide (d ∈ ws)
def oKOk (ws : List Jvm.Cond) (q : oKl) : Bool :=
  oHas ws (.instantiable q.1 q.2.1) && oHas ws (.initialized q.1) && q.2.2.all (fun f => oHas ws (if f.2.2.2 then .laysFinal q.1 q.1 f.1 f.2.1 else .lays q.1 q.1 f.1 f.2.1) && decide (parseFieldDescriptor f.2.1 = some f.2.2.1) && (match f.2.2.1 with | .float => false | .double => false | _ => true)) &&
    decide ((q.2.2.map (·.1)).Nodup)
def oNm (z : MethodName) (n : Nat) : Bool := decide (z.cls ≠ "java/lang/invoke/MethodHandle") && decide (z.cls ≠ "java/lang/invoke/VarHandle") && (match parseMethodDescriptor z.desc with | some sig => decide (sig.parameters.length = n) | none => false)
def oOpOk (ws : List Jvm.Cond) (KT : List oKl) (CT : List Value) (MT : List oMt) (y : MethodName) (bytes : ByteArray) (op : oOp) : Bool :=
  (match decode bytes op.1 with
  | .ok (i, n) => decide (i = op.2.1) && (decide (n = oLen op.2.1) || oSw op.2.1)
  | .error _ => false) &&
  (match op.2.1 with
  | .ldc j => (match CT[op.2.2.1]? with
    | some (.int x) => oHas ws (.constant y.cls j x)
    | _ => true)
  | .ldc2_w j => (match CT[op.2.2.1]? with
    | some (.long x) => oHas ws (.constantLong y.cls j x)
    | _ => true)
  | .getfield j => (match KT[op.2.2.1]? with
    | some (C, _, fs) => (match fs[op.2.2.2]? with
      | some (n, d, _, _) => oHas ws (.fieldLink y.cls j C n d)
      | none => true)
    | none => true)
  | .putfield j => (match KT[op.2.2.1]? with
    | some (C, _, fs) => (match fs[op.2.2.2]? with
      | some (n, d, _, fin) => oHas ws (.fieldLink y.cls j C n d) && (!fin || (decide (y.cls = C) && decide (y.name = "<init>")))
      | none => true)
    | none => true)
  | .new j => (match KT[op.2.2.1]? with
    | some (C, _, _) => oHas ws (.classLink y.cls j C)
    | none => true)
  | .newarray t => oHas ws (.arrayClass (newarray.typeOf t))
  | .invokestatic j => if op.2.2.2 = 2 then oHas ws (.methodLink y.cls j Jvm.Stand.acN) && oHas ws (.native Jvm.Stand.acN) && oHas ws (.static Jvm.Stand.acN) && oHas ws (.initialized "java/lang/System") else (match MT[op.2.2.1]? with
    | some (z, b, ml, rt, _, n) => oHas ws (.methodLink y.cls j z) && oHas ws (.static z) && oHas ws (.initialized z.cls) && oHas ws (.code z b ml rt) && oNm z n
    | none => true)
  | .invokespecial j => if op.2.2.2 = 1 then oHas ws (.methodLink y.cls j Lib.objectInit) && oHas ws (.instanceMethod Lib.objectInit) && oHas ws (.code Lib.objectInit ⟨#[0xb1]⟩ 1 none) else (match MT[op.2.2.1]? with
    | some (z, b, ml, rt, _, n) => decide (z.name = "<init>") && decide (rt = none) && oHas ws (.methodLink y.cls j z) && oHas ws (.instanceMethod z) && oHas ws (.initialized z.cls) && oHas ws (.code z b ml none) && oNm z n
    | none => true)
  | .invokevirtual j => (match MT[op.2.2.1]?, KT[op.2.2.2]? with
    | some (z, b, ml, rt, _, n), some (C, _, _) => oHas ws (.methodLink y.cls j z) && oHas ws (.declares z) && oHas ws (.selects C z z) && oHas ws (.instanceMethod z) && oHas ws (.initialized z.cls) && oHas ws (.code z b ml rt) && oNm z n
    | _, _ => true)
  | _ => true)

/-! A6. the model follows the machine: one step -/
section Sound
variable {p : Program} {l : Launch} {e : Env} {R : Jvm.Room} {s : State} {m : MethodId} {args : Array Value} {below : List Frame} {meth : Method} {c : Code} {T : State} {locs : List Loc} {cells slots : Nat} {Z : State} {a0 : Array Value} {n0 : Nat}
  {ws : List Jvm.Cond} {KT : List oKl} {CT : List Value} {MT : List oMt} {ad : List Addr} {own : String} {pc pc' : Nat} {ls ls' Ls : Array Slot} {sk sk' ST : List Value}
def oN1 (p : Program) (e : Env) (below : List Frame) (m : MethodId) (T : State) (ad : List Addr) (pc : Nat) (Ls : Array Slot) (ST : List Value) (q : Nat × Array Slot × List Value) : Prop :=
  ∃ Ls' ST', oLR ad q.2.1 Ls' ∧ oKR ad q.2.2 ST' ∧ ∀ target, Steps p.tables e below (T.setTop (mkF m q.1 Ls' ST')) target → Steps p.tables e below (T.setTop (mkF m pc Ls ST)) target
variable {q : Nat × Array Slot × List Value}
theorem oB_ok {f : Int32 → Int32 → Int32} (law : ∀ (x y : Int32) (r : List Value) (t : State), Steps p.tables e below (T.setTop (mkF m (pc + 1) Ls (.int (f x y) :: r))) t → Steps p.tables e below (T.setTop (mkF m pc Ls (.int y :: .int x :: r))) t)
    (hl : oLR ad ls Ls) (hk : oKR ad sk ST) (h : oB f pc ls sk = some q) : oN1 p e below m T ad pc Ls ST q := by
  unfold oB at h
  split at h
  · obtain ⟨_, _, rfl, rfl, _, _, rfl, rfl, hr⟩ := hk
    cases h
    exact ⟨Ls, _, hl, ⟨_, _, rfl, rfl, hr⟩, fun t k => law _ _ _ t k⟩
  · cases h
theorem oBL_ok {f : Int64 → Int64 → Int64} (law : ∀ (x y : Int64) (r : List Value) (t : State), Steps p.tables e below (T.setTop (mkF m (pc + 1) Ls (.long (f x y) :: r))) t → Steps p.tables e below (T.setTop (mkF m pc Ls (.long y :: .long x :: r))) t)
    (hl : oLR ad ls Ls) (hk : oKR ad sk ST) (h : oBL f pc ls sk = some q) : oN1 p e below m T ad pc Ls ST q := by
  unfold oBL at h
  split at h
  · obtain ⟨_, _, rfl, rfl, _, _, rfl, rfl, hr⟩ := hk
    cases h
    exact ⟨Ls, _, hl, ⟨_, _, rfl, rfl, hr⟩, fun t k => law _ _ _ t k⟩
  · cases h
theorem oU_ok {f : Int32 → Int32} (law : ∀ (x : Int32) (r : List Value) (t : State), Steps p.tables e below (T.setTop (mkF m (pc + 1) Ls (.int (f x) :: r))) t → Steps p.tables e below (T.setTop (mkF m pc Ls (.int x :: r))) t)
    (hl : oLR ad ls Ls) (hk : oKR ad sk ST) (h : oU f pc ls sk = some q) : oN1 p e below m T ad pc Ls ST q := by
  unfold oU at h
  split at h
  · obtain ⟨_, _, rfl, rfl, hr⟩ := hk
    cases h
    exact ⟨Ls, _, hl, ⟨_, _, rfl, rfl, hr⟩, fun t k => law _ _ t k⟩
  · cases h
theorem oLdI_ok {n k : Nat} (law : ∀ (x : Int32) (t : State), Ls[k]? = some (.val (.int x)) → Steps p.tables e below (T.setTop (mkF m (pc + n) Ls (.int x :: ST))) t → Steps p.tables e below (T.setTop (mkF m pc Ls ST)) t)
    (hl : oLR ad ls Ls) (hk : oKR ad sk ST) (h : oLdI n pc ls sk k = some q) : oN1 p e below m T ad pc Ls ST q := by
  unfold oLdI at h
  split at h
  · rename_i hq
    obtain ⟨_, h1, rfl⟩ := hl.ld hq
    cases h
    exact ⟨Ls, _, hl, ⟨_, _, rfl, rfl, hk⟩, fun t k => law _ t h1 k⟩
  · cases h
theorem oLdL_ok {n k : Nat} (law : ∀ (x : Int64) (t : State), Ls[k]? = some (.val (.long x)) → Steps p.tables e below (T.setTop (mkF m (pc + n) Ls (.long x :: ST))) t → Steps p.tables e below (T.setTop (mkF m pc Ls ST)) t)
    (hl : oLR ad ls Ls) (hk : oKR ad sk ST) (h : oLdL n pc ls sk k = some q) : oN1 p e below m T ad pc Ls ST q := by
  unfold oLdL at h
  split at h
  · rename_i hq
    obtain ⟨_, h1, rfl⟩ := hl.ld hq
    cases h
    exact ⟨Ls, _, hl, ⟨_, _, rfl, rfl, hk⟩, fun t k => law _ t h1 k⟩
  · cases h
theorem oLdA_ok {n k : Nat} (law : ∀ (v : Value) (t : State), v.isRef = true → Ls[k]? = some (.val v) → Steps p.tables e below (T.setTop (mkF m (pc + n) Ls (v :: ST))) t → Steps p.tables e below (T.setTop (mkF m pc Ls ST)) t)
    (hl : oLR ad ls Ls) (hk : oKR ad sk ST) (h : oLdA n pc ls sk k = some q) : oN1 p e below m T ad pc Ls ST q := by
  unfold oLdA at h
  split at h
  · rename_i hq
    obtain ⟨_, h1, a, h2, rfl⟩ := hl.ld hq
    cases h
    exact ⟨Ls, _, hl, ⟨_, _, rfl, ⟨a, h2, rfl⟩, hk⟩, fun t k => law _ t rfl h1 k⟩
  · rename_i hq
    obtain ⟨_, h1, rfl⟩ := hl.ld hq
    cases h
    exact ⟨Ls, _, hl, ⟨_, _, rfl, rfl, hk⟩, fun t k => law _ t rfl h1 k⟩
  · cases h
theorem oStI_ok {n k : Nat} (law : ∀ (x : Int32) (r : List Value) (l' : Array Slot) (t : State), storeLocals Ls k (.int x) = some l' → Steps p.tables e below (T.setTop (mkF m (pc + n) l' r)) t → Steps p.tables e below (T.setTop (mkF m pc Ls (.int x :: r))) t)
    (hl : oLR ad ls Ls) (hk : oKR ad sk ST) (h : oStI n pc ls k sk = some q) : oN1 p e below m T ad pc Ls ST q := by
  unfold oStI at h
  split at h
  · obtain ⟨_, _, rfl, rfl, hr⟩ := hk
    obtain ⟨l1, e1, rfl⟩ := Option.map_eq_some_iff.mp h
    obtain ⟨c1, e2, r1⟩ := hl.store (show oVR ad (.int _) (.int _) from rfl) e1
    exact ⟨c1, _, r1, hr, fun t k => law _ _ _ t e2 k⟩
  · cases h
theorem oStL_ok {n k : Nat} (law : ∀ (x : Int64) (r : List Value) (l' : Array Slot) (t : State), storeLocals Ls k (.long x) = some l' → Steps p.tables e below (T.setTop (mkF m (pc + n) l' r)) t → Steps p.tables e below (T.setTop (mkF m pc Ls (.long x :: r))) t)
    (hl : oLR ad ls Ls) (hk : oKR ad sk ST) (h : oStL n pc ls k sk = some q) : oN1 p e below m T ad pc Ls ST q := by
  unfold oStL at h
  split at h
  · obtain ⟨_, _, rfl, rfl, hr⟩ := hk
    obtain ⟨l1, e1, rfl⟩ := Option.map_eq_some_iff.mp h
    obtain ⟨c1, e2, r1⟩ := hl.store (show oVR ad (.long _) (.long _) from rfl) e1
    exact ⟨c1, _, r1, hr, fun t k => law _ _ _ t e2 k⟩
  · cases h
theorem oStA_ok {n k : Nat} (law : ∀ (v : Value) (r : List Value) (l' : Array Slot) (t : State), v.isRef = true → storeLocals Ls k v = some l' → Steps p.tables e below (T.setTop (mkF m (pc + n) l' r)) t → Steps p.tables e below (T.setTop (mkF m pc Ls (v :: r))) t)
    (hl : oLR ad ls Ls) (hk : oKR ad sk ST) (h : oStA n pc ls k sk = some q) : oN1 p e below m T ad pc Ls ST q := by
  unfold oStA at h
  split at h
  · obtain ⟨_, _, rfl, ⟨a, ha, rfl⟩, hr⟩ := hk
    obtain ⟨l1, e1, rfl⟩ := Option.map_eq_some_iff.mp h
    obtain ⟨c1, e2, r1⟩ := hl.store (show oVR ad (.ref _) (.ref a) from ⟨a, ha, rfl⟩) e1
    exact ⟨c1, _, r1, hr, fun t k => law _ _ _ t rfl e2 k⟩
  · obtain ⟨_, _, rfl, rfl, hr⟩ := hk
    obtain ⟨l1, e1, rfl⟩ := Option.map_eq_some_iff.mp h
    obtain ⟨c1, e2, r1⟩ := hl.store (show oVR ad .null .null from rfl) e1
    exact ⟨c1, _, r1, hr, fun t k => law _ _ _ t rfl e2 k⟩
  · cases h
theorem oJmp_ok {o : Int} {r rs : List Value} (law : ∀ t, 0 ≤ (pc : Int) + o → Steps p.tables e below (T.setTop (mkF m ((pc : Int) + o).toNat Ls rs)) t → Steps p.tables e below (T.setTop (mkF m pc Ls ST)) t)
    (hl : oLR ad ls Ls) (hr : oKR ad r rs) (h : oJmp pc o ls r = some q) : oN1 p e below m T ad pc Ls ST q := by
  unfold oJmp at h
  split at h
  · rename_i ho
    cases h
    exact ⟨Ls, _, hl, hr, fun t k => law t ho k⟩
  · cases h
theorem oC1_cat {v w : Value} (h : oC1 v = true) (hv : oVR ad v w) : w.category = 1 := by rw [hv.cat]; simpa [oC1] using h
/-- two laws of our own -/
theorem oDupX2 (X : Stand p l e R s m args below meth c T locs cells slots) (hx : p.tables.exec = Jvm.exec) {g : JFrame} (hg : g.method = m) {x y z : Value} {rest : List Value} (hd : decode c.code g.pc = .ok (.dup_x2, 1)) (hs : g.stack = x :: y :: z :: rest) (h1 : x.category = 1) (h2 : y.category = 1) (h3 : z.category = 1) {target : State}
    (hr : Steps p.tables e below (T.setTop { g with pc := g.pc + 1, stack := x :: y :: z :: x :: rest }) target) : Steps p.tables e below (T.setTop g) target := by
  subst hg
  jvm_step X.here [X.here.top, hx, hd, hs, h1, h2, h3, dup_x2.sem]
  exact hr
theorem oLsw (X : Stand p l e R s m args below meth c T locs cells slots) (hx : p.tables.exec = Jvm.exec) {g : JFrame} (hg : g.method = m) {x : Int32} {rest : List Value} {dflt : Int} {prs : Array (Int × Int)} {n : Nat} (hd : decode c.code g.pc = .ok (.lookupswitch dflt prs, n)) (hs : g.stack = .int x :: rest)
    (hp : (prs.toList.zip (prs.toList.drop 1)).all (fun q => decide (q.1.1 < q.2.1)) = true) (ho : 0 ≤ (g.pc : Int) + lookupswitch.offset prs.toList dflt x.toInt) {target : State}
    (hr : Steps p.tables e below (T.setTop { g with pc := ((g.pc : Int) + lookupswitch.offset prs.toList dflt x.toInt).toNat, stack := rest }) target) : Steps p.tables e below (T.setTop g) target := by
  subst hg
  jvm_step X.here [X.here.top, hx, hd, hs, lookupswitch.wp_chain, hp, ho]
  exact ⟨by simpa using hp, hr⟩
theorem oStep1_ok (X : Stand p l e R s m args below meth c T locs cells slots) (hx : p.tables.exec = Jvm.exec) (hZ : Z.Warmed39 s.vm) (hown : s.vm.findClass own = some m.cls) (hw : ∀ d ∈ ws, d.before a0 Z = true) {i : Instr} {p1 : Nat}
    (hd : ∃ n, decode c.code pc = .ok (i, n) ∧ (n = oLen i ∨ oSw i = true)) (hc : ∀ j, i = .ldc j → ∀ x, CT[p1]? = some (.int x) → (Jvm.Cond.constant own j x) ∈ ws) (hc2 : ∀ j, i = .ldc2_w j → ∀ x, CT[p1]? = some (.long x) → (Jvm.Cond.constantLong own j x) ∈ ws)
    (hl : oLR ad ls Ls) (hk : oKR ad sk ST) (h : oStep1 CT i p1 pc ls sk = some q) : oN1 p e below m T ad pc Ls ST q := by
  obtain ⟨n, hd, hn⟩ := hd
  cases i
  case lookupswitch dflt prs =>
    simp only [oStep1] at h
    split at h
    · obtain ⟨_, _, rfl, rfl, hr⟩ := hk
      split at h
      · rename_i hp
        exact oJmp_ok (fun t ho k => oLsw X hx (g := mkF m pc Ls _) rfl hd rfl hp ho k) hl hr h
      · cases h
    · cases h
  all_goals (have hn' := hn.resolve_right (fun q => Bool.false_ne_true q); subst hn')
  case iload_n k => exact oLdI_ok (fun x t h1 k => XS.iloadN X.here hx rfl hd h1 k) hl hk h
  case iload k => exact oLdI_ok (fun x t h1 k => XS.iload X.here hx rfl hd h1 k) hl hk h
  case lload_n k => exact oLdL_ok (fun x t h1 k => XS.lloadN X.here hx rfl hd h1 k) hl hk h
  case lload k => exact oLdL_ok (fun x t h1 k => XS.lload X.here hx rfl hd h1 k) hl hk h
  case aload_n k => exact oLdA_ok (fun v t hv h1 k => XS.aloadN X.here hx rfl hd h1 hv k) hl hk h
  case aload k => exact oLdA_ok (fun v t hv h1 k => XS.aload X.here hx rfl hd h1 hv k) hl hk h
  case istore_n k => exact oStI_ok (fun x r l' t h1 k => XS.istoreN X.here hx rfl hd rfl h1 k) hl hk h
  case istore k => exact oStI_ok (fun x r l' t h1 k => XS.istore X.here hx rfl hd rfl h1 k) hl hk h
  case lstore_n k => exact oStL_ok (fun x r l' t h1 k => XS.lstoreN X.here hx rfl hd rfl h1 k) hl hk h
  case lstore k => exact oStL_ok (fun x r l' t h1 k => XS.lstore X.here hx rfl hd rfl h1 k) hl hk h
  case astore_n k => exact oStA_ok (fun v r l' t hv h1 k => XS.astoreN X.here hx rfl hd rfl hv h1 k) hl hk h
  case astore k => exact oStA_ok (fun v r l' t hv h1 k => XS.astore X.here hx rfl hd rfl hv h1 k) hl hk h
  case iinc k n =>
    simp only [oStep1] at h
    split at h
    · rename_i hq
      obtain ⟨_, h1, rfl⟩ := hl.ld hq
      obtain ⟨l1, e1, rfl⟩ := Option.map_eq_some_iff.mp h
      obtain ⟨c1, e2, r1⟩ := hl.store (show oVR ad (.int _) (.int _) from rfl) e1
      exact ⟨c1, _, r1, hk, fun t k => XS.iinc X.here hx rfl hd h1 e2 k⟩
    · cases h
  case iconst n => cases h; exact ⟨Ls, _, hl, ⟨_, _, rfl, rfl, hk⟩, fun t k => XS.iconst X.here hx rfl hd k⟩
  case bipush n => cases h; exact ⟨Ls, _, hl, ⟨_, _, rfl, rfl, hk⟩, fun t k => XS.bipush X.here hx rfl hd k⟩
  case sipush n => cases h; exact ⟨Ls, _, hl, ⟨_, _, rfl, rfl, hk⟩, fun t k => XS.sipush X.here hx rfl hd k⟩
  case lconst n => cases h; exact ⟨Ls, _, hl, ⟨_, _, rfl, rfl, hk⟩, fun t k => XT.lconst X.here hx rfl hd k⟩
  case aconst_null => cases h; exact ⟨Ls, _, hl, ⟨_, _, rfl, rfl, hk⟩, fun t k => XS.aconstNull X.here hx rfl hd k⟩
  case ldc j =>
    simp only [oStep1] at h
    split at h
    · rename_i hq
      cases h
      exact ⟨Ls, _, hl, ⟨_, _, rfl, rfl, hk⟩, fun t k => X.ldcInt hx hown (mvT hZ (hw _ (hc _ rfl _ hq))) (g := mkF m pc Ls ST) rfl hd t k⟩
    · cases h
  case ldc2_w j =>
    simp only [oStep1] at h
    split at h
    · rename_i hq
      cases h
      exact ⟨Ls, _, hl, ⟨_, _, rfl, rfl, hk⟩, fun t k => X.ldc2Long hx hown (mvT hZ (hw _ (hc2 _ rfl _ hq))) (g := mkF m pc Ls ST) rfl hd t k⟩
    · cases h
  case iadd => exact oB_ok (fun x y r t k => XS.iadd X.here hx rfl hd rfl k) hl hk h
  case isub => exact oB_ok (fun x y r t k => XS.isub X.here hx rfl hd rfl k) hl hk h
  case imul => exact oB_ok (fun x y r t k => XS.imul X.here hx rfl hd rfl k) hl hk h
  case iand => exact oB_ok (fun x y r t k => XS.iand X.here hx rfl hd rfl k) hl hk h
  case ior => exact oB_ok (fun x y r t k => XT.ior X.here hx rfl hd rfl k) hl hk h
  case ixor => exact oB_ok (fun x y r t k => XT.ixor X.here hx rfl hd rfl k) hl hk h
  case ishl => exact oB_ok (fun x y r t k => XT.ishl X.here hx rfl hd rfl k) hl hk h
  case ishr => exact oB_ok (fun x y r t k => XT.ishr X.here hx rfl hd rfl k) hl hk h
  case iushr => exact oB_ok (fun x y r t k => XT.iushr X.here hx rfl hd rfl k) hl hk h
  case ladd => exact oBL_ok (fun x y r t k => XT.ladd X.here hx rfl hd rfl k) hl hk h
  case lsub => exact oBL_ok (fun x y r t k => XT.lsub X.here hx rfl hd rfl k) hl hk h
  case lmul => exact oBL_ok (fun x y r t k => XT.lmul X.here hx rfl hd rfl k) hl hk h
  case land => exact oBL_ok (fun x y r t k => XT.land X.here hx rfl hd rfl k) hl hk h
  case idiv =>
    simp only [oStep1] at h
    split at h
    · obtain ⟨_, _, rfl, rfl, _, _, rfl, rfl, hr⟩ := hk
      split at h
      · cases h
      · rename_i hy
        cases h
        exact ⟨Ls, _, hl, ⟨_, _, rfl, rfl, hr⟩, fun t k => XS.idiv X.here hx rfl hd rfl hy k⟩
    · cases h
  case irem =>
    simp only [oStep1] at h
    split at h
    · obtain ⟨_, _, rfl, rfl, _, _, rfl, rfl, hr⟩ := hk
      split at h
      · cases h
      · rename_i hy
        cases h
        exact ⟨Ls, _, hl, ⟨_, _, rfl, rfl, hr⟩, fun t k => iremM X hx (g := mkF m pc Ls _) rfl hd rfl hy k⟩
    · cases h
  case ldiv =>
    simp only [oStep1] at h
    split at h
    · obtain ⟨_, _, rfl, rfl, _, _, rfl, rfl, hr⟩ := hk
      split at h
      · cases h
      · rename_i hy
        cases h
        exact ⟨Ls, _, hl, ⟨_, _, rfl, rfl, hr⟩, fun t k => XT.ldiv X.here hx rfl hd rfl hy k⟩
    · cases h
  case lshr =>
    simp only [oStep1] at h
    split at h
    · obtain ⟨_, _, rfl, rfl, _, _, rfl, rfl, hr⟩ := hk
      cases h
      exact ⟨Ls, _, hl, ⟨_, _, rfl, rfl, hr⟩, fun t k => XS.lshr X.here hx rfl hd rfl k⟩
    · cases h
  case lcmp =>
    simp only [oStep1] at h
    split at h
    · obtain ⟨_, _, rfl, rfl, _, _, rfl, rfl, hr⟩ := hk
      cases h
      exact ⟨Ls, _, hl, ⟨_, _, rfl, rfl, hr⟩, fun t k => XT.lcmp X.here hx rfl hd rfl k⟩
    · cases h
  case i2c => exact oU_ok (fun x r t k => XT.i2c X.here hx rfl hd rfl k) hl hk h
  case i2b => exact oU_ok (fun x r t k => XT.i2b X.here hx rfl hd rfl k) hl hk h
  case i2l =>
    simp only [oStep1] at h
    split at h
    · obtain ⟨_, _, rfl, rfl, hr⟩ := hk
      cases h
      exact ⟨Ls, _, hl, ⟨_, _, rfl, rfl, hr⟩, fun t k => XT.i2l X.here hx rfl hd rfl k⟩
    · cases h
  case l2i =>
    simp only [oStep1] at h
    split at h
    · obtain ⟨_, _, rfl, rfl, hr⟩ := hk
      cases h
      exact ⟨Ls, _, hl, ⟨_, _, rfl, rfl, hr⟩, fun t k => XT.l2i X.here hx rfl hd rfl k⟩
    · cases h
  case dup =>
    simp only [oStep1] at h
    split at h
    · obtain ⟨w, _, rfl, hv, hr⟩ := hk
      split at h
      · rename_i h1
        cases h
        exact ⟨Ls, _, hl, ⟨_, _, rfl, hv, _, _, rfl, hv, hr⟩, fun t k => XS.dup X.here hx rfl hd rfl (oC1_cat h1 hv) k⟩
      · cases h
    · cases h
  case pop =>
    simp only [oStep1] at h
    split at h
    · obtain ⟨w, _, rfl, hv, hr⟩ := hk
      split at h
      · rename_i h1
        cases h
        exact ⟨Ls, _, hl, hr, fun t k => XT.pop X.here hx rfl hd rfl (oC1_cat h1 hv) k⟩
      · cases h
    · cases h
  case dup_x1 =>
    simp only [oStep1] at h
    split at h
    · obtain ⟨w, _, rfl, hv, w2, _, rfl, hv2, hr⟩ := hk
      split at h
      · rename_i h1
        rw [Bool.and_eq_true] at h1
        cases h
        exact ⟨Ls, _, hl, ⟨_, _, rfl, hv, _, _, rfl, hv2, _, _, rfl, hv, hr⟩, fun t k => XT.dupX1 X.here hx rfl hd rfl (oC1_cat h1.1 hv) (oC1_cat h1.2 hv2) k⟩
      · cases h
    · cases h
  case dup2 =>
    simp only [oStep1] at h
    split at h
    · obtain ⟨w, _, rfl, hv, w2, _, rfl, hv2, hr⟩ := hk
      split at h
      · rename_i h1
        rw [Bool.and_eq_true] at h1
        cases h
        exact ⟨Ls, _, hl, ⟨_, _, rfl, hv, _, _, rfl, hv2, _, _, rfl, hv, _, _, rfl, hv2, hr⟩, fun t k => XT.dup2 X.here hx rfl hd rfl (oC1_cat h1.1 hv) (oC1_cat h1.2 hv2) k⟩
      · cases h
    · cases h
  case dup_x2 =>
    simp only [oStep1] at h
    split at h
    · obtain ⟨w, _, rfl, hv, w2, _, rfl, hv2, w3, _, rfl, hv3, hr⟩ := hk
      split at h
      · rename_i h1
        rw [Bool.and_eq_true, Bool.and_eq_true] at h1
        cases h
        exact ⟨Ls, _, hl, ⟨_, _, rfl, hv, _, _, rfl, hv2, _, _, rfl, hv3, _, _, rfl, hv, hr⟩, fun t k => oDupX2 X hx (g := mkF m pc Ls _) rfl hd rfl (oC1_cat h1.1 hv) (oC1_cat h1.2.1 hv2) (oC1_cat h1.2.2 hv3) k⟩
      · cases h
    · cases h
  case checkcast j =>
    simp only [oStep1] at h
    split at h
    · obtain ⟨_, _, rfl, rfl, hr⟩ := hk
      cases h
      exact ⟨Ls, _, hl, ⟨_, _, rfl, rfl, hr⟩, fun t k => X.checkcastNull hx (g := mkF m pc Ls _) rfl rfl hd t k⟩
    · cases h
  case goto o => exact oJmp_ok (fun t ho k => XS.goto X.here hx rfl rfl hd ho rfl k) hl hk h
  case ifCond cd o =>
    simp only [oStep1] at h
    split at h
    · obtain ⟨_, _, rfl, rfl, hr⟩ := hk
      split at h
      · rename_i hc
        exact oJmp_ok (fun t ho k => XS.ifYes X.here hx rfl rfl hd rfl hc ho rfl k) hl hr h
      · rename_i hc
        cases h
        exact ⟨Ls, _, hl, hr, fun t k => XS.ifNo X.here hx rfl hd rfl (Bool.eq_false_iff.mpr hc) k⟩
    · cases h
  case if_icmp cd o =>
    simp only [oStep1] at h
    split at h
    · obtain ⟨_, _, rfl, rfl, _, _, rfl, rfl, hr⟩ := hk
      split at h
      · rename_i hc
        exact oJmp_ok (fun t ho k => XS.icmpYes X.here hx rfl rfl hd rfl hc ho rfl k) hl hr h
      · rename_i hc
        cases h
        exact ⟨Ls, _, hl, hr, fun t k => XS.icmpNo X.here hx rfl hd rfl (Bool.eq_false_iff.mpr hc) k⟩
    · cases h
  all_goals exact oNone h
/-! steps on the heap -/
theorem oHas_mem {d : Jvm.Cond} (h : oHas ws d = true) : d ∈ ws := of_decide_eq_true h
theorem oK_facts (hK : KT.all (oKOk ws) = true) {k n : Nat} {C : String} {fs : List oFd} (hk : KT[k]? = some (C, n, fs)) :
    Jvm.Cond.instantiable C n ∈ ws ∧ Jvm.Cond.initialized C ∈ ws ∧ (∀ (i : Nat) (f : oFd), fs[i]? = some f → (if f.2.2.2 = true then Jvm.Cond.laysFinal C C f.1 f.2.1 else Jvm.Cond.lays C C f.1 f.2.1) ∈ ws ∧ parseFieldDescriptor f.2.1 = some f.2.2.1 ∧ f.2.2.1 ≠ .float ∧ f.2.2.1 ≠ .double) ∧
      ∀ (i j : Nat) (f g : oFd), fs[i]? = some f → fs[j]? = some g → i ≠ j → f.1 ≠ g.1 := by
  have h := List.all_eq_true.mp hK _ (List.mem_of_getElem? hk)
  simp only [oKOk, Bool.and_eq_true, decide_eq_true_eq] at h
  obtain ⟨⟨⟨h1, h2⟩, h3⟩, h4⟩ := h
  refine ⟨oHas_mem h1, oHas_mem h2, fun i f hf => ?_, fun i j f g hf hg hij => ?_⟩
  · have q := List.all_eq_true.mp h3 _ (List.mem_of_getElem? hf)
    simp only [Bool.and_eq_true, decide_eq_true_eq] at q
    obtain ⟨⟨q1, q2⟩, q3⟩ := q
    refine ⟨oHas_mem q1, q2, fun e => ?_, fun e => ?_⟩ <;> (rw [e] at q3; cases q3)
  · obtain ⟨hi, ei⟩ := List.getElem?_eq_some_iff.mp hf
    obtain ⟨hj, ej⟩ := List.getElem?_eq_some_iff.mp hg
    have key := List.pairwise_iff_getElem.mp h4
    rcases Nat.lt_or_gt_of_ne hij with q | q
    · have r := key i j (by simpa using hi) (by simpa using hj) q
      simpa [ei, ej] using r
    · have r := key j i (by simpa using hj) (by simpa using hi) q
      simpa [ei, ej] using Ne.symm r
theorem oLaid (hw : ∀ d ∈ ws, d.before a0 Z = true) {C n d : String} {b : Bool} (h : (if b = true then Jvm.Cond.laysFinal C C n d else Jvm.Cond.lays C C n d) ∈ ws) : Laid Z a0 C C n d := by
  cases b
  · exact Or.inl (hw _ h)
  · exact Or.inr (hw _ h)
theorem oOR.putf {h h' : Heap} {a : Addr} {k i n : Nat} {vs : List Value} {C : String} {fs : List oFd} {f : oFd} {v' w' : Value} (hK : KT.all (oKOk ws) = true) (hw : ∀ d ∈ ws, d.before a0 Z = true) (o : oOR Z h ad KT a (.inl (k, vs))) (hk : KT[k]? = some (C, n, fs)) (hf : fs[i]? = some f)
    (W : Wr h h' a (Jvm.RoadKit.slotOf Z C f.1 f.2.1) w') (hv : oVR ad v' w') : oOR Z h' ad KT a (.inl (k, vs.set i v')) := by
  obtain ⟨C1, n1, fs1, e1, e0, E, F⟩ := o
  cases hk.symm.trans e1
  obtain ⟨-, -, K3, K4⟩ := oK_facts hK hk
  refine ⟨C, n, fs, hk, by rw [List.length_set]; exact e0, E.wr W, fun j g v hg hj => ?_⟩
  by_cases ij : i = j
  · subst ij
    cases hf.symm.trans hg
    have hlt : i < vs.length := by
      have := (List.getElem?_eq_some_iff.mp hj).1
      simpa using this
    rw [List.getElem?_set_self hlt] at hj
    cases hj
    obtain ⟨w0, -, F0⟩ := F i f vs[i] hf (List.getElem?_eq_getElem hlt)
    exact ⟨w', hv, F0.same W⟩
  · rw [List.getElem?_set_ne ij] at hj
    obtain ⟨w0, q1, F0⟩ := F j g v hg hj
    obtain ⟨r1, r2, -⟩ := K3 j g hg
    obtain ⟨t1, t2, -⟩ := K3 i f hf
    exact ⟨w0, q1, F0.other W (Or.inr (slot_ne (oLaid hw r1) (oLaid hw t1) (K4 j i g f hg hf (Ne.symm ij)) r2 t2))⟩
theorem oVR.nar {v w : Value} {ty : FieldType} (hf : oFit ty v = true) (hv : oVR ad v w) : oVR ad (narrow ty v) (narrow ty w) ∧ fits ty (narrow ty w) = true := by
  cases v
  case int x =>
    have e : w = .int x := hv
    subst e
    cases ty
    case boolean => exact ⟨rfl, fits_nar_bool x⟩
    case byte => exact ⟨rfl, fits_nar_byte x⟩
    case char => exact ⟨rfl, fits_nar_char x⟩
    case short => exact ⟨rfl, fits_nar_short x⟩
    case int => exact ⟨rfl, rfl⟩
    all_goals exact absurd hf Bool.false_ne_true
  case long x =>
    have e : w = .long x := hv
    subst e
    cases ty
    case long => exact ⟨rfl, rfl⟩
    all_goals exact absurd hf Bool.false_ne_true
  case null =>
    have e : w = .null := hv
    subst e
    cases ty
    case object => exact ⟨rfl, rfl⟩
    case array => exact ⟨rfl, rfl⟩
    all_goals exact absurd hf Bool.false_ne_true
  case ref k =>
    obtain ⟨a, h1, e⟩ : ∃ a, ad[k]? = some a ∧ w = .ref a := hv
    subst e
    cases ty
    case object => exact ⟨⟨a, h1, rfl⟩, rfl⟩
    case array => exact ⟨⟨a, h1, rfl⟩, rfl⟩
    all_goals exact absurd hf Bool.false_ne_true
  all_goals (cases ty <;> exact absurd hf Bool.false_ne_true)
theorem oDef {ty : FieldType} (h1 : ty ≠ .float) (h2 : ty ≠ .double) : oVR ad (defaultValue ty) (defaultValue ty) := by
  cases ty <;> first | rfl | (exact absurd rfl h1) | (exact absurd rfl h2)
theorem oSz {c : Cell} {vs : List Int32} (h : c.slots = (vs.map Value.int).toArray) : c.slots.size = vs.length := by rw [h]; simp
theorem oAt' {c : Cell} {vs : List Int32} (h : c.slots = (vs.map Value.int).toArray) (j : Nat) : c.slots[j]? = (vs[j]?).map Value.int := by rw [h]; simp
theorem oSet {c : Cell} {vs : List Int32} (h : c.slots = (vs.map Value.int).toArray) (j : Nat) (x : Int32) : (c.setSlot j (.int x)).slots = ((vs.set j x).map Value.int).toArray := by
  show c.slots.setIfInBounds j (.int x) = _
  rw [h, List.setIfInBounds_toArray, List.map_set]
theorem oIn_spec {j : Int32} {n : Nat} (h : oIn j n = true) : ¬ j < 0 ∧ j.toNatClampNeg < n := by simpa [oIn] using h
theorem oBnd {j : Int32} {c : Cell} {vs : List Int32} (h : c.slots = (vs.map Value.int).toArray) (h1 : ¬ j < 0) (h2 : j.toNatClampNeg < vs.length) : ¬ (j < 0 ∨ c.slots.size ≤ j.toNatClampNeg) := by
  rw [oSz h]; rintro (q | q)
  · exact h1 q
  · omega
variable {H : List oObj}
def oN2 (p : Program) (l : Launch) (e : Env) (R : Jvm.Room) (s : State) (m : MethodId) (args : Array Value) (below : List Frame) (meth : Method) (c : Code) (Z : State) (n0 : Nat) (KT : List oKl) (T : State) (ad : List Addr) (pc : Nat) (Ls : Array Slot) (ST : List Value) (q : Nat × List Value × List oObj × Nat × Nat) : Prop :=
  ∃ T' locs' ST' ad', Stand p l e R s m args below meth c T' locs' q.2.2.2.1 q.2.2.2.2 ∧ Fr n0 locs' ∧ n0 ≤ T'.heap.size ∧ oPre ad ad' ∧ oKR ad' q.2.1 ST' ∧ oHR Z T'.heap n0 ad' KT q.2.2.1 ∧
    ∀ target, Steps p.tables e below (T'.setTop (mkF m q.1 Ls ST')) target → Steps p.tables e below (T.setTop (mkF m pc Ls ST)) target
variable {y : MethodName} {bytes : ByteArray} {j p1 p2 : Nat}
/-! what 'oOpOk' says, by the instruction -/
theorem oOk_dec {i : Instr} (h : oOpOk ws KT CT MT y bytes (pc, i, p1, p2) = true) : ∃ n, decode bytes pc = .ok (i, n) ∧ (n = oLen i ∨ oSw i = true) := by
  have h1 := (Bool.and_eq_true_iff.mp h).1
  dsimp only at h1
  split at h1
  · rename_i i' n' hdec
    simp only [Bool.and_eq_true, decide_eq_true_eq, Bool.or_eq_true] at h1
    obtain ⟨rfl, h2⟩ := h1
    exact ⟨n', hdec, h2⟩
  · cases h1
theorem oOk_ldc (h : oOpOk ws KT CT MT y bytes (pc, .ldc j, p1, p2) = true) {x : Int32} (hk : CT[p1]? = some (.int x)) : Jvm.Cond.constant y.cls j x ∈ ws := by
  have h2 := (Bool.and_eq_true_iff.mp h).2
  simp only [hk] at h2
  exact oHas_mem h2
theorem oOk_ldc2 (h : oOpOk ws KT CT MT y bytes (pc, .ldc2_w j, p1, p2) = true) {x : Int64} (hk : CT[p1]? = some (.long x)) : Jvm.Cond.constantLong y.cls j x ∈ ws := by
  have h2 := (Bool.and_eq_true_iff.mp h).2
  simp only [hk] at h2
  exact oHas_mem h2
theorem oOk_get (h : oOpOk ws KT CT MT y bytes (pc, .getfield j, p1, p2) = true) {C : String} {n : Nat} {fs : List oFd} {f : oFd} (hk : KT[p1]? = some (C, n, fs)) (hf : fs[p2]? = some f) : Jvm.Cond.fieldLink y.cls j C f.1 f.2.1 ∈ ws := by
  have h2 := (Bool.and_eq_true_iff.mp h).2
  obtain ⟨f1, f2, f3, f4⟩ := f
  simp only [hk, hf] at h2
  exact oHas_mem h2
theorem oOk_put (h : oOpOk ws KT CT MT y bytes (pc, .putfield j, p1, p2) = true) {C : String} {n : Nat} {fs : List oFd} {f : oFd} (hk : KT[p1]? = some (C, n, fs)) (hf : fs[p2]? = some f) : Jvm.Cond.fieldLink y.cls j C f.1 f.2.1 ∈ ws ∧ (f.2.2.2 = true → y.cls = C ∧ y.name = "<init>") := by
  have h2 := (Bool.and_eq_true_iff.mp h).2
  obtain ⟨f1, f2, f3, f4⟩ := f
  simp only [hk, hf, Bool.and_eq_true, Bool.or_eq_true, Bool.not_eq_true', decide_eq_true_eq] at h2
  refine ⟨oHas_mem h2.1, fun q => ?_⟩
  rcases h2.2 with r | r
  · dsimp only at q; rw [q] at r; cases r
  · exact r
theorem oOk_new (h : oOpOk ws KT CT MT y bytes (pc, .new j, p1, p2) = true) {C : String} {n : Nat} {fs : List oFd} (hk : KT[p1]? = some (C, n, fs)) : Jvm.Cond.classLink y.cls j C ∈ ws := by
  have h2 := (Bool.and_eq_true_iff.mp h).2
  simp only [hk] at h2
  exact oHas_mem h2
theorem oOk_newarr {t : ArrayType} (h : oOpOk ws KT CT MT y bytes (pc, .newarray t, p1, p2) = true) : Jvm.Cond.arrayClass (newarray.typeOf t) ∈ ws := oHas_mem (Bool.and_eq_true_iff.mp h).2
theorem oNm_spec {z : MethodName} {n : Nat} (h : oNm z n = true) : (z.cls ≠ "java/lang/invoke/MethodHandle" ∧ z.cls ≠ "java/lang/invoke/VarHandle") ∧ ∀ sig, parseMethodDescriptor z.desc = some sig → sig.parameters.length = n := by
  simp only [oNm, Bool.and_eq_true, decide_eq_true_eq] at h
  refine ⟨h.1, fun sig hs => ?_⟩
  have h2 := h.2
  rw [hs] at h2
  exact of_decide_eq_true h2
variable {z : MethodName} {zb : ByteArray} {ml zn : Nat} {rt : Option FieldType} {rm : Jvm.Room}
theorem oOk_copy (h : oOpOk ws KT CT MT y bytes (pc, .invokestatic j, p1, 2) = true) :
    Jvm.Cond.methodLink y.cls j Jvm.Stand.acN ∈ ws ∧ Jvm.Cond.native Jvm.Stand.acN ∈ ws ∧ Jvm.Cond.static Jvm.Stand.acN ∈ ws ∧ Jvm.Cond.initialized "java/lang/System" ∈ ws := by
  have h2 := (Bool.and_eq_true_iff.mp h).2
  simp only [if_true, Bool.and_eq_true] at h2
  exact ⟨oHas_mem h2.1.1.1, oHas_mem h2.1.1.2, oHas_mem h2.1.2, oHas_mem h2.2⟩
theorem oOk_static (h : oOpOk ws KT CT MT y bytes (pc, .invokestatic j, p1, p2) = true) (hp : ¬ p2 = 2) (hk : MT[p1]? = some (z, zb, ml, rt, rm, zn)) :
    Jvm.Cond.methodLink y.cls j z ∈ ws ∧ Jvm.Cond.static z ∈ ws ∧ Jvm.Cond.initialized z.cls ∈ ws ∧ Jvm.Cond.code z zb ml rt ∈ ws ∧ oNm z zn = true := by
  have h2 := (Bool.and_eq_true_iff.mp h).2
  simp only [hk, if_neg hp, Bool.and_eq_true] at h2
  obtain ⟨⟨⟨⟨q1, q2⟩, q3⟩, q4⟩, q5⟩ := h2
  exact ⟨oHas_mem q1, oHas_mem q2, oHas_mem q3, oHas_mem q4, q5⟩
theorem oOk_init (h : oOpOk ws KT CT MT y bytes (pc, .invokespecial j, p1, 1) = true) :
    Jvm.Cond.methodLink y.cls j Lib.objectInit ∈ ws ∧ Jvm.Cond.instanceMethod Lib.objectInit ∈ ws ∧ Jvm.Cond.code Lib.objectInit ⟨#[0xb1]⟩ 1 none ∈ ws := by
  have h2 := (Bool.and_eq_true_iff.mp h).2
  simp only [if_true, Bool.and_eq_true] at h2
  exact ⟨oHas_mem h2.1.1, oHas_mem h2.1.2, oHas_mem h2.2⟩
theorem oOk_special (h : oOpOk ws KT CT MT y bytes (pc, .invokespecial j, p1, p2) = true) (hp : ¬ p2 = 1) (hk : MT[p1]? = some (z, zb, ml, rt, rm, zn)) :
    z.name = "<init>" ∧ rt = none ∧ Jvm.Cond.methodLink y.cls j z ∈ ws ∧ Jvm.Cond.instanceMethod z ∈ ws ∧ Jvm.Cond.initialized z.cls ∈ ws ∧ Jvm.Cond.code z zb ml none ∈ ws ∧ oNm z zn = true := by
  have h2 := (Bool.and_eq_true_iff.mp h).2
  simp only [hk, if_neg hp, Bool.and_eq_true, decide_eq_true_eq] at h2
  obtain ⟨⟨⟨⟨⟨⟨q1, q2⟩, q3⟩, q4⟩, q5⟩, q6⟩, q7⟩ := h2
  exact ⟨q1, q2, oHas_mem q3, oHas_mem q4, oHas_mem q5, oHas_mem q6, q7⟩
theorem oOk_virtual (h : oOpOk ws KT CT MT y bytes (pc, .invokevirtual j, p1, p2) = true) (hk : MT[p1]? = some (z, zb, ml, rt, rm, zn)) {C : String} {n : Nat} {fs : List oFd} (hC : KT[p2]? = some (C, n, fs)) :
    Jvm.Cond.methodLink y.cls j z ∈ ws ∧ Jvm.Cond.declares z ∈ ws ∧ Jvm.Cond.selects C z z ∈ ws ∧ Jvm.Cond.instanceMethod z ∈ ws ∧ Jvm.Cond.initialized z.cls ∈ ws ∧ Jvm.Cond.code z zb ml rt ∈ ws ∧ oNm z zn = true := by
  have h2 := (Bool.and_eq_true_iff.mp h).2
  simp only [hk, hC, Bool.and_eq_true] at h2
  obtain ⟨⟨⟨⟨⟨⟨q1, q2⟩, q3⟩, q4⟩, q5⟩, q6⟩, q7⟩ := h2
  exact ⟨oHas_mem q1, oHas_mem q2, oHas_mem q3, oHas_mem q4, oHas_mem q5, oHas_mem q6, q7⟩
/-! the steps on the heap, one law each -/
variable {q : Nat × List Value × List oObj × Nat × Nat}
theorem oGet_ok (X : Stand p l e R s m args below meth c T locs cells slots) (hx : p.tables.exec = Jvm.exec) (hZ : Z.Warmed39 s.vm) (hown : s.vm.findClass y.cls = some m.cls) (hw : ∀ d ∈ ws, d.before a0 Z = true)
    (hd : decode c.code pc = .ok (.getfield j, 3)) (hop : oOpOk ws KT CT MT y bytes (pc, .getfield j, p1, p2) = true) (N : Fr n0 locs) (hn0 : n0 ≤ T.heap.size) (hk : oKR ad sk ST) (hH : oHR Z T.heap n0 ad KT H) (h : oStep2 KT R (.getfield j) p1 p2 pc sk H cells slots = some q) :
    oN2 p l e R s m args below meth c Z n0 KT T ad pc Ls ST q := by
  simp only [oStep2] at h
  split at h
  · obtain ⟨_, ST', rfl, ⟨a, ha, rfl⟩, hr⟩ := hk
    split at h
    · rename_i hq
      split at h
      · rename_i hcp
        subst hcp
        split at h
        · rename_i v hv
          cases h
          obtain ⟨C, n, fs, k1, k2, E, F⟩ := hH.2.2.2 _ _ _ hq ha
          have hlt : p2 < fs.length := by rw [← k2]; exact (List.getElem?_eq_some_iff.mp hv).1
          have hf := List.getElem?_eq_getElem hlt
          obtain ⟨w, hvw, Fw⟩ := F p2 _ v hf hv
          obtain ⟨T', X', eT, st⟩ := getF X hx hZ hown (host := "") (Or.inl (hw _ (oOk_get hop k1 hf))) Via.refl rfl Fw (g := mkF m pc Ls (.ref a :: ST')) rfl rfl hd
          exact ⟨T', locs, w :: ST', ad, X', N, by rw [eT]; exact hn0, oPre.rfl' ad, ⟨w, ST', rfl, hvw, hr⟩, by rw [eT]; exact hH, st⟩
        · cases h
      · cases h
    · cases h
  · cases h
theorem oPut_ok (X : Stand p l e R s m args below meth c T locs cells slots) (hx : p.tables.exec = Jvm.exec) (hZ : Z.Warmed39 s.vm) (hown : s.vm.findClass y.cls = some m.cls) (hnm : meth.name = y.name) (hw : ∀ d ∈ ws, d.before a0 Z = true) (hK : KT.all (oKOk ws) = true)
    (hd : decode c.code pc = .ok (.putfield j, 3)) (hop : oOpOk ws KT CT MT y bytes (pc, .putfield j, p1, p2) = true) (N : Fr n0 locs) (hn0 : n0 ≤ T.heap.size) (hk : oKR ad sk ST) (hH : oHR Z T.heap n0 ad KT H) (h : oStep2 KT R (.putfield j) p1 p2 pc sk H cells slots = some q) :
    oN2 p l e R s m args below meth c Z n0 KT T ad pc Ls ST q := by
  simp only [oStep2] at h
  split at h
  · rename_i v k r
    obtain ⟨w, _, rfl, hv, _, ST', rfl, ⟨a, ha, rfl⟩, hr⟩ := hk
    split at h
    · rename_i c1 vs hq
      split at h
      · rename_i C n fs hKp
        split at h
        · rename_i nm ds ty fin hf
          split at h
          · rename_i hcond
            obtain ⟨rfl, hlt, hfit⟩ := hcond
            cases h
            obtain ⟨C', n', fs', k1, k2, E, F⟩ := hH.2.2.2 _ _ _ hq ha
            cases hKp.symm.trans k1
            obtain ⟨w0, -, F0⟩ := F p2 _ vs[p2] hf (List.getElem?_eq_getElem hlt)
            obtain ⟨o1, o2⟩ := oOk_put hop k1 hf
            obtain ⟨K1, -, K3, -⟩ := oK_facts hK k1
            obtain ⟨r1, r2, -⟩ := K3 p2 _ hf
            obtain ⟨hv', hfit'⟩ := oVR.nar (ad := ad) (v := v) (w := w) hfit hv
            have hL : (Jvm.Cond.lays C C nm ds).before a0 Z = true ∨ ((Jvm.Cond.laysFinal C C nm ds).before a0 Z = true ∧ y.cls = C ∧ meth.name = "<init>") := by
              cases fin
              · exact Or.inl (hw _ r1)
              · exact Or.inr ⟨hw _ r1, (o2 rfl).1, hnm.trans (o2 rfl).2⟩
            obtain ⟨T', h', X', eT, W, st⟩ := putFN X hx hZ hown (hw _ o1) Via.refl rfl F0 E hL (hw _ K1) r2 rfl hfit' (g := mkF m pc Ls (w :: .ref a :: ST')) rfl rfl hd
            subst eT
            refine ⟨T', _, ST', ad, X', N.app (fun z hz => by cases List.mem_singleton.mp hz; exact (hH.2.2.1 _ _ ha).1), by rw [W.size]; exact hn0, oPre.rfl' ad, hr, hH.put hq ha W (oOR.putf hK hw (hH.2.2.2 _ _ _ hq ha) k1 hf W hv'), st⟩
          · cases h
        · cases h
      · cases h
    · cases h
  · cases h
theorem oNew_ok (X : Stand p l e R s m args below meth c T locs cells slots) (hx : p.tables.exec = Jvm.exec) (hZ : Z.Warmed39 s.vm) (hown : s.vm.findClass y.cls = some m.cls) (hw : ∀ d ∈ ws, d.before a0 Z = true) (hK : KT.all (oKOk ws) = true)
    (hd : decode c.code pc = .ok (.new j, 3)) (hop : oOpOk ws KT CT MT y bytes (pc, .new j, p1, p2) = true) (N : Fr n0 locs) (hn0 : n0 ≤ T.heap.size) (hk : oKR ad sk ST) (hH : oHR Z T.heap n0 ad KT H) (h : oStep2 KT R (.new j) p1 p2 pc sk H cells slots = some q) :
    oN2 p l e R s m args below meth c Z n0 KT T ad pc Ls ST q := by
  simp only [oStep2] at h
  split at h
  · rename_i C n fs hKp
    split at h
    · rename_i hcond
      cases h
      obtain ⟨K1, K2, K3, -⟩ := oK_facts hK hKp
      obtain ⟨T', h', X', eT, E, A, D, -, st⟩ := newO X hx hZ hown (hw _ (oOk_new hop hKp)) (hw _ K1) (hw _ K2) rfl (g := mkF m pc Ls ST) rfl hd hcond.1 hcond.2
      subst eT
      refine ⟨T', locs, _, ad ++ [T.heap.size], X', N, Nat.le_trans hn0 E.1, oPre.snoc _ _, ⟨_, _, rfl, ⟨T.heap.size, ?_, rfl⟩, hk.mono (oPre.snoc _ _)⟩, hH.new hn0 E A.lt ⟨C, n, fs, hKp, by simp, A, fun i f v hf hv => ?_⟩, st⟩
      · rw [← hH.1, List.getElem?_append_right (Nat.le_refl _)]; simp
      · rw [List.getElem?_map, hf] at hv
        cases hv
        obtain ⟨r1, r2, r3, r4⟩ := K3 i f hf
        exact ⟨_, oDef r3 r4, D (oLaid hw r1) r2⟩
    · cases h
  · cases h
theorem oNewA_ok {t : ArrayType} (X : Stand p l e R s m args below meth c T locs cells slots) (hx : p.tables.exec = Jvm.exec) (hZ : Z.Warmed39 s.vm) (hw : ∀ d ∈ ws, d.before a0 Z = true)
    (hd : decode c.code pc = .ok (.newarray t, 2)) (hop : oOpOk ws KT CT MT y bytes (pc, .newarray t, p1, p2) = true) (N : Fr n0 locs) (hn0 : n0 ≤ T.heap.size) (hk : oKR ad sk ST) (hH : oHR Z T.heap n0 ad KT H) (h : oStep2 KT R (.newarray t) p1 p2 pc sk H cells slots = some q) :
    oN2 p l e R s m args below meth c Z n0 KT T ad pc Ls ST q := by
  simp only [oStep2] at h
  split at h
  · rename_i n r
    obtain ⟨_, ST', rfl, rfl, hr⟩ := hk
    split at h
    · rename_i hcond
      obtain ⟨ht, hn, hb, hc, hs⟩ := hcond
      cases h
      obtain ⟨T', h', cA, X', eT, E, A, st⟩ := newP X hx hZ (hw _ (oOk_newarr hop)) rfl (g := mkF m pc Ls (.int n :: ST')) rfl hd rfl hn (cap := n.toNatClampNeg) (Nat.le_refl _) hb hc hs
      subst eT
      refine ⟨T', locs, _, ad ++ [T.heap.size], X', N, Nat.le_trans hn0 E.1, oPre.snoc _ _, ⟨_, _, rfl, ⟨T.heap.size, ?_, rfl⟩, hr.mono (oPre.snoc _ _)⟩, hH.new hn0 E A.lt ⟨_, A, ?_⟩, st⟩
      · rw [← hH.1, List.getElem?_append_right (Nat.le_refl _)]; simp
      · rcases ht with rfl | rfl <;> simp [newA, newarray.typeOf, defaultValue]
    · cases h
  · cases h
theorem oALen_ok (X : Stand p l e R s m args below meth c T locs cells slots) (hx : p.tables.exec = Jvm.exec) (hZ : Z.Warmed39 s.vm)
    (hd : decode c.code pc = .ok (.arraylength, 1)) (N : Fr n0 locs) (hn0 : n0 ≤ T.heap.size) (hk : oKR ad sk ST) (hH : oHR Z T.heap n0 ad KT H) (h : oStep2 KT R .arraylength p1 p2 pc sk H cells slots = some q) :
    oN2 p l e R s m args below meth c Z n0 KT T ad pc Ls ST q := by
  simp only [oStep2] at h
  split at h
  · obtain ⟨_, ST', rfl, ⟨a, ha, rfl⟩, hr⟩ := hk
    split at h
    · rename_i ty vs hq
      cases h
      obtain ⟨cl, A, hsl⟩ := hH.2.2.2 _ _ _ hq ha
      refine ⟨T, locs, _, ad, X, N, hn0, oPre.rfl' ad, ⟨_, _, rfl, rfl, hr⟩, hH, fun t k => X.arraylength hx A.1 (State.isArrayOf_alike hZ.alike A.2.1) (g := mkF m pc Ls (.ref a :: ST')) rfl rfl hd t ?_⟩
      rw [oSz hsl]
      exact k
    · cases h
  · cases h
theorem oILd_ok (X : Stand p l e R s m args below meth c T locs cells slots) (hx : p.tables.exec = Jvm.exec) (hZ : Z.Warmed39 s.vm)
    (hd : decode c.code pc = .ok (.iaload, 1)) (N : Fr n0 locs) (hn0 : n0 ≤ T.heap.size) (hk : oKR ad sk ST) (hH : oHR Z T.heap n0 ad KT H) (h : oStep2 KT R .iaload p1 p2 pc sk H cells slots = some q) :
    oN2 p l e R s m args below meth c Z n0 KT T ad pc Ls ST q := by
  simp only [oStep2] at h
  split at h
  · obtain ⟨_, _, rfl, rfl, _, ST', rfl, ⟨a, ha, rfl⟩, hr⟩ := hk
    split at h
    · rename_i vs hq
      split at h
      · cases h
      · rename_i hj
        split at h
        · rename_i x hv
          cases h
          obtain ⟨cl, A, hsl⟩ := hH.2.2.2 _ _ _ hq ha
          exact ⟨T, locs, _, ad, X, N, hn0, oPre.rfl' ad, ⟨_, _, rfl, rfl, hr⟩, hH, fun t k => X.iaload hx A.1 (State.isArrayOf_alike hZ.alike A.2.1) A.2.2 (oBnd hsl hj (List.getElem?_eq_some_iff.mp hv).1) (by rw [oAt' hsl, hv]; rfl) (g := mkF m pc Ls _) rfl rfl hd t k⟩
        · cases h
    · cases h
  · cases h
theorem oBLd_ok (X : Stand p l e R s m args below meth c T locs cells slots) (hx : p.tables.exec = Jvm.exec) (hZ : Z.Warmed39 s.vm)
    (hd : decode c.code pc = .ok (.baload, 1)) (N : Fr n0 locs) (hn0 : n0 ≤ T.heap.size) (hk : oKR ad sk ST) (hH : oHR Z T.heap n0 ad KT H) (h : oStep2 KT R .baload p1 p2 pc sk H cells slots = some q) :
    oN2 p l e R s m args below meth c Z n0 KT T ad pc Ls ST q := by
  simp only [oStep2] at h
  split at h
  · obtain ⟨_, _, rfl, rfl, _, ST', rfl, ⟨a, ha, rfl⟩, hr⟩ := hk
    split at h
    · rename_i vs hq
      split at h
      · cases h
      · rename_i hj
        split at h
        · rename_i x hv
          cases h
          obtain ⟨cl, A, hsl⟩ := hH.2.2.2 _ _ _ hq ha
          exact ⟨T, locs, _, ad, X, N, hn0, oPre.rfl' ad, ⟨_, _, rfl, rfl, hr⟩, hH, fun t k => X.baloadBooleans hx A.1 (State.isArrayOf_alike hZ.alike A.2.1) A.2.2 (oBnd hsl hj (List.getElem?_eq_some_iff.mp hv).1) (by rw [oAt' hsl, hv]; rfl) (g := mkF m pc Ls _) rfl rfl hd t k⟩
        · cases h
    · cases h
  · cases h
theorem oISt_ok (X : Stand p l e R s m args below meth c T locs cells slots) (hx : p.tables.exec = Jvm.exec) (hZ : Z.Warmed39 s.vm)
    (hd : decode c.code pc = .ok (.iastore, 1)) (N : Fr n0 locs) (hn0 : n0 ≤ T.heap.size) (hk : oKR ad sk ST) (hH : oHR Z T.heap n0 ad KT H) (h : oStep2 KT R .iastore p1 p2 pc sk H cells slots = some q) :
    oN2 p l e R s m args below meth c Z n0 KT T ad pc Ls ST q := by
  simp only [oStep2] at h
  split at h
  · obtain ⟨_, _, rfl, rfl, _, _, rfl, rfl, _, ST', rfl, ⟨a, ha, rfl⟩, hr⟩ := hk
    split at h
    · rename_i vs hq
      split at h
      · rename_i hin
        cases h
        obtain ⟨hj, hlt⟩ := oIn_spec hin
        obtain ⟨cl, A, hsl⟩ := hH.2.2.2 _ _ _ hq ha
        obtain ⟨T', h', X', eT, W, st⟩ := stI X hx hZ rfl A (oBnd hsl hj hlt) (g := mkF m pc Ls _) rfl rfl hd
        subst eT
        exact ⟨T', _, ST', ad, X', N.app (fun z hz => by cases List.mem_singleton.mp hz; exact (hH.2.2.1 _ _ ha).1), by rw [W.size]; exact hn0, oPre.rfl' ad, hr, hH.put hq ha W ⟨_, A.same W, oSet hsl _ _⟩, st⟩
      · cases h
    · cases h
  · cases h
theorem oBSt_ok (X : Stand p l e R s m args below meth c T locs cells slots) (hx : p.tables.exec = Jvm.exec) (hZ : Z.Warmed39 s.vm)
    (hd : decode c.code pc = .ok (.bastore, 1)) (N : Fr n0 locs) (hn0 : n0 ≤ T.heap.size) (hk : oKR ad sk ST) (hH : oHR Z T.heap n0 ad KT H) (h : oStep2 KT R .bastore p1 p2 pc sk H cells slots = some q) :
    oN2 p l e R s m args below meth c Z n0 KT T ad pc Ls ST q := by
  simp only [oStep2] at h
  split at h
  · obtain ⟨_, _, rfl, rfl, _, _, rfl, rfl, _, ST', rfl, ⟨a, ha, rfl⟩, hr⟩ := hk
    split at h
    · rename_i vs hq
      split at h
      · rename_i hin
        cases h
        obtain ⟨hj, hlt⟩ := oIn_spec hin
        obtain ⟨cl, A, hsl⟩ := hH.2.2.2 _ _ _ hq ha
        obtain ⟨T', h', X', eT, W, st⟩ := stZ X hx hZ rfl A (oBnd hsl hj hlt) (g := mkF m pc Ls _) rfl rfl hd
        subst eT
        exact ⟨T', _, ST', ad, X', N.app (fun z hz => by cases List.mem_singleton.mp hz; exact (hH.2.2.1 _ _ ha).1), by rw [W.size]; exact hn0, oPre.rfl' ad, hr, hH.put hq ha W ⟨_, A.same W, oSet hsl _ _⟩, st⟩
      · cases h
    · cases h
  · cases h
theorem oStep2_ok (X : Stand p l e R s m args below meth c T locs cells slots) (hx : p.tables.exec = Jvm.exec) (hZ : Z.Warmed39 s.vm) (hown : s.vm.findClass y.cls = some m.cls) (hnm : meth.name = y.name) (hw : ∀ d ∈ ws, d.before a0 Z = true) (hK : KT.all (oKOk ws) = true) {i : Instr} (hby : c.code = bytes)
    (hop : oOpOk ws KT CT MT y bytes (pc, i, p1, p2) = true) (N : Fr n0 locs) (hn0 : n0 ≤ T.heap.size) (hk : oKR ad sk ST) (hH : oHR Z T.heap n0 ad KT H) (h : oStep2 KT R i p1 p2 pc sk H cells slots = some q) :
    oN2 p l e R s m args below meth c Z n0 KT T ad pc Ls ST q := by
  obtain ⟨n, hd, hn⟩ := oOk_dec hop
  rw [← hby] at hd
  cases i
  all_goals (first | exact oNone h | (have hn' := hn.resolve_right (fun q => Bool.false_ne_true q); subst hn'))
  case getfield j => exact oGet_ok X hx hZ hown hw hd hop N hn0 hk hH h
  case putfield j => exact oPut_ok X hx hZ hown hnm hw hK hd hop N hn0 hk hH h
  case new j => exact oNew_ok X hx hZ hown hw hK hd hop N hn0 hk hH h
  case newarray t => exact oNewA_ok X hx hZ hw hd hop N hn0 hk hH h
  case arraylength => exact oALen_ok X hx hZ hd N hn0 hk hH h
  case iaload => exact oILd_ok X hx hZ hd N hn0 hk hH h
  case baload => exact oBLd_ok X hx hZ hd N hn0 hk hH h
  case iastore => exact oISt_ok X hx hZ hd N hn0 hk hH h
  case bastore => exact oBSt_ok X hx hZ hd N hn0 hk hH h
/-! calls: by the callee's contract -/
def oOV (ad : List Addr) : Option Value → Option Value → Prop
  | none, v => v = none
  | some x, v => ∃ w, v = some w ∧ oVR ad x w
def oQ (Z : State) (n0 : Nat) (KT : List oKl) (ad : List Addr) (H' : List oObj) (r : Option Value) (v : Option Value) (h : Heap) (L : List Loc) : Prop :=
  Fr n0 L ∧ n0 ≤ h.size ∧ ∃ ad', oPre ad ad' ∧ oHR Z h n0 ad' KT H' ∧ oOV ad' r v
/-- a method's contract: called on what stands for vs and H it returns what stands for r and leaves what stands for H' -/
def oMet (l : Launch) (Z : State) (n0 : Nat) (KT : List oKl) (q : oMt) (vs : List Value) (H : List oObj) (r : Option Value) (H' : List oObj) : Prop :=
  ∀ (wv : List Value) (h0 : Heap) (ad : List Addr), oKR ad vs wv → oHR Z h0 n0 ad KT H → n0 ≤ h0.size → ∀ ws0 : List Jvm.Cond,
    MetFree l q.1 (head1 (Jvm.Cond.code q.1 q.2.1 q.2.2.1 q.2.2.2.1 :: ws0) q.2.2.2.2.1) (fun a U => a = wv.toArray ∧ Z.Warmed39 U.vm ∧ U.heap = h0) (fun _ _ _ _ _ => True)
      (fun _ U o U' => ∃ v L, o = .returned v ∧ oQ Z n0 KT ad H' r v U'.heap L ∧ FrameEnd U o U' L q.2.2.2.2.1.cells q.2.2.2.2.1.slots)
def oCallOk (l : Launch) (Z : State) (n0 : Nat) (KT : List oKl) (q : oMt) (f : List Value → List oObj → Option (Option Value × List oObj)) : Prop :=
  ∀ vs H r H', f vs H = some (r, H') → oMet l Z n0 KT q vs H r H'
theorem oOV.kr {ad : List Addr} {r v : Option Value} (h : oOV ad r v) : oKR ad r.toList v.toList := by
  cases r with
  | none => cases h; rfl
  | some x => obtain ⟨w, rfl, hw⟩ := h; exact ⟨w, [], rfl, hw, rfl⟩
variable {callf : oCf} {mx : Nat}
theorem oStatic_ok (hC : ∀ (k : Nat) (q : oMt), MT[k]? = some q → oCallOk l Z n0 KT q (callf k)) (X : Stand p l e R s m args below meth c T locs cells slots) (hx : p.tables.exec = Jvm.exec) (hZ : Z.Warmed39 s.vm) (hown : s.vm.findClass y.cls = some m.cls) (hw : ∀ d ∈ ws, d.before a0 Z = true) (hmx : c.maxLocals = mx) (hp2 : ¬ p2 = 2)
    (hd : decode c.code pc = .ok (.invokestatic j, 3)) (hop : oOpOk ws KT CT MT y bytes (pc, .invokestatic j, p1, p2) = true) (N : Fr n0 locs) (hn0 : n0 ≤ T.heap.size) (hl : oLR ad ls Ls) (hk : oKR ad sk ST) (hH : oHR Z T.heap n0 ad KT H) (h : oStep3 KT MT callf R mx (.invokestatic j) p1 p2 pc ls sk H cells slots = some q) :
    oN2 p l e R s m args below meth c Z n0 KT T ad pc Ls ST q := by
  simp only [oStep3, if_neg hp2] at h
  split at h
  · rename_i z zb ml rt rm zn hq
    split at h
    · rename_i hcond
      obtain ⟨hsz, hlen, hfr, hlo, hce, hsl⟩ := hcond
      split at h
      · rename_i r H' hcall
        cases h
        obtain ⟨q1, q2, q3, q4, q5⟩ := oOk_static hop hp2 hq
        obtain ⟨n1, n2⟩ := oNm_spec q5
        have hM := hC p1 _ hq _ _ _ _ hcall (ST.take zn).reverse T.heap ad (hk.take zn).rev hH hn0 []
        have hW : 2 * (mkF m pc Ls ST).monitorRoom + ((ST.drop zn).map fun v => v.category).sum ≤ oCatS (sk.drop zn) := by
          rw [(hk.drop zn).cats]; exact Nat.le_of_eq (Nat.zero_add _)
        obtain ⟨v, vm1, ⟨T', L', k', n'⟩, -, X', ⟨Lc, hQ, l1, y1, z1⟩, st⟩ := Jvm.LawKit.callS X hx (y := z) hown (mvT hZ (hw _ q1)) (mvT hZ (hw _ q2)) (mvT hZ (hw _ q3)) (mvT hZ (hw _ q4)) n1
          (backOf (W := oCatS (sk.drop zn)) hM hZ (hw _ q4) (hw _ q3) hfr hlo) (g := mkF m pc Ls ST) rfl (by rw [hmx, ← hsz]; exact hl.1.symm) (argsL := (ST.take zn).reverse) (rest := ST.drop zn)
          (fun sig hs => by rw [n2 sig hs, List.length_reverse, List.length_take, hk.len]; omega) (by show ST = _; rw [List.reverse_reverse, List.take_append_drop]) hW hd (fun _ _ => ⟨rfl, rfl, hce, hsl⟩)
        dsimp only [Pt.U, Pt.locs, Pt.cells, Pt.slots] at X' l1 y1 z1 st hQ
        subst l1 y1 z1
        obtain ⟨N', hn', ad', pr, hH', hv⟩ := hQ
        exact ⟨T', _, _, ad', X', N.app N', hn', pr, oKR.app ((hk.drop zn).mono pr) hv.kr, hH', st⟩
      · cases h
    · cases h
  · cases h
theorem oN31 {n : Nat} (h : n < 2147483648) : ¬ n.toInt32 < 0 ∧ n.toInt32.toNatClampNeg = n := by
  have q : n.toInt32.toInt = n := len_toInt (by omega)
  constructor
  · rw [Int32.lt_iff_toInt_lt, q]; simp only [Int32.reduceToInt]; omega
  · simp only [Int32.toNatClampNeg, q]; omega
theorem oArv {h : Heap} {a : Addr} {cl : Cell} {vs : List Int32} (A : Arr Z h a cl .int) (hs : cl.slots = (vs.map Value.int).toArray) (hn : vs.length < 2147483648) : Arv Z h a cl.cls .int vs.length.toInt32 (vs.map Value.int) (.int 0) := by
  obtain ⟨h1, h2⟩ := oN31 hn
  refine ⟨cl, A, rfl, by rw [h2]; exact oSz hs, h1, fun k hk => ?_, fun i hi => ?_⟩
  · rw [oSz hs] at hk
    rw [oAt' hs, List.getElem?_eq_getElem hk, List.getD_eq_getElem?_getD, List.getElem?_map, List.getElem?_eq_getElem hk]; rfl
  · rw [oSz hs] at hi
    rw [List.getD_eq_getElem?_getD, List.getElem?_map, List.getElem?_eq_getElem hi]; rfl
theorem oOR.keep {h h' : Heap} {a : Addr} {o : oObj} {us : List Addr} (q : oOR Z h ad KT a o) (K : Keep h h' us) (hn : a ∉ us) : oOR Z h' ad KT a o := by
  rcases o with ⟨k, vs⟩ | ⟨ty, vs⟩
  · obtain ⟨C, n, fs, h1, h0, h2, h3⟩ := q
    exact ⟨C, n, fs, h1, h0, h2.keep K, fun i f v hf hv => by obtain ⟨w, e1, e2⟩ := h3 i f v hf hv; exact ⟨w, e1, e2.keep K hn⟩⟩
  · obtain ⟨c, h1, h2⟩ := q
    exact ⟨c, ⟨K.2.1 _ _ h1.1 hn, h1.2⟩, h2⟩
theorem oHR.keep {h h' : Heap} {b : Addr} {k : Nat} {o o' : oObj} (q : oHR Z h n0 ad KT H) (e : H[k]? = some o) (hb : ad[k]? = some b) (K : Keep h h' [b]) (hn : oOR Z h' ad KT b o') : oHR Z h' n0 ad KT (H.set k o') := by
  refine ⟨by simp [q.1], q.2.1, fun i c hc => ⟨(q.2.2.1 i c hc).1, Nat.lt_of_lt_of_le (q.2.2.1 i c hc).2 K.1⟩, fun j o1 c ho hc => ?_⟩
  by_cases ej : k = j
  · subst ej
    rw [List.getElem?_set_self (List.getElem?_eq_some_iff.mp e).1] at ho
    cases ho
    cases hb.symm.trans hc
    exact hn
  · rw [List.getElem?_set_ne ej] at ho
    exact (q.2.2.2 j o1 c ho hc).keep K (ninS (fun hab => ej (q.2.1 k j b hb (hab ▸ hc))) nin0)
theorem oUs (vs : List Int32) (a n : Nat) (h : a + n ≤ vs.length) : ((List.range n).map fun i => (vs.map Value.int).getD (a + i) (.int 0)) = ((vs.drop a).take n).map Value.int := by
  refine List.ext_getElem? fun i => ?_
  by_cases hi : i < n
  · simp only [List.getElem?_map, List.getElem?_range hi, List.getElem?_take_of_lt hi, List.getElem?_drop, Option.map_some, List.getD_eq_getElem?_getD]
    rw [List.getElem?_eq_getElem (by omega : a + i < vs.length)]; rfl
  · rw [List.getElem?_eq_none (by simpa using Nat.le_of_not_lt hi), List.getElem?_eq_none (by simp; omega)]
theorem oCopy_ok (X : Stand p l e R s m args below meth c T locs cells slots) (hx : p.tables.exec = Jvm.exec) (hZ : Z.Warmed39 s.vm) (hown : s.vm.findClass y.cls = some m.cls) (hw : ∀ d ∈ ws, d.before a0 Z = true) (hmx : c.maxLocals = mx)
    (hd : decode c.code pc = .ok (.invokestatic j, 3)) (hop : oOpOk ws KT CT MT y bytes (pc, .invokestatic j, p1, 2) = true) (N : Fr n0 locs) (hn0 : n0 ≤ T.heap.size) (hl : oLR ad ls Ls) (hk : oKR ad sk ST) (hH : oHR Z T.heap n0 ad KT H) (h : oStep3 KT MT callf R mx (.invokestatic j) p1 2 pc ls sk H cells slots = some q) :
    oN2 p l e R s m args below meth c Z n0 KT T ad pc Ls ST q := by
  simp only [oStep3, if_true] at h
  split at h
  · rename_i nn dp b sp a r
    obtain ⟨_, _, rfl, rfl, _, _, rfl, rfl, _, _, rfl, ⟨ab, hb, rfl⟩, _, _, rfl, rfl, _, ST', rfl, ⟨aa, ha, rfl⟩, hr⟩ := hk
    split at h
    · rename_i vs hA
      split at h
      · rename_i vd hB
        split at h
        · rename_i hcond
          obtain ⟨hsz, h1, h2, h3, h4, h5, h6, h7, h8, h9⟩ := hcond
          cases h
          obtain ⟨q1, q2, q3, q4⟩ := oOk_copy hop
          obtain ⟨ca, Aa, sa⟩ := hH.2.2.2 _ _ _ hA ha
          obtain ⟨cb, Ab, sb⟩ := hH.2.2.2 _ _ _ hB hb
          obtain ⟨z1, z2⟩ := oN31 h6
          obtain ⟨z3, z4⟩ := oN31 h7
          obtain ⟨T', h', L, X', eT, N', K, V', st⟩ := cpA X hx hZ hown (hw _ q1) (hw _ q2) (hw _ q3) (hw _ q4) rfl (oArv Aa sa h6) (oArv Ab sb h7) (us := ((vs.drop sp.toNatClampNeg).take nn.toNatClampNeg).map Value.int) (Or.inl ⟨rfl, rfl⟩) h1 h2 h3 (by rw [z2]; exact h4) (by rw [z4]; exact h5)
            (oUs vs _ _ h4).symm (by rw [List.length_map]; exact h5) N (hH.2.2.1 _ _ hb).1 (g := mkF m pc Ls _) rfl (by rw [hmx, ← hsz]; exact hl.1.symm) (rest := ST') rfl hd h8 (W := oCatS r) (by rw [hr.cats]; exact Nat.le_of_eq (Nat.zero_add _)) (by rw [show nativeFrameWords "java/lang/System" "arraycopy" 5 = 7 from by decide]; exact h9)
          subst eT
          refine ⟨T', L, ST', ad, X', N', Nat.le_trans hn0 K.1, oPre.rfl' ad, hr, hH.keep hB hb K ?_, st⟩
          obtain ⟨c', A', -, S', -, Hs, -⟩ := V'
          rw [z4] at S'
          have hlen : (vd.take dp.toNatClampNeg ++ (vs.drop sp.toNatClampNeg).take nn.toNatClampNeg ++ vd.drop (dp.toNatClampNeg + nn.toNatClampNeg)).length = vd.length := by simp; omega
          refine ⟨c', A', Array.ext (by rw [S', List.size_toArray, List.length_map, hlen]) fun i hi1 hi2 => ?_⟩
          have e1 := Hs i hi1
          rw [Array.getElem?_eq_getElem hi1] at e1
          have e2 := Option.some.inj e1
          rw [e2, ← List.map_take, ← List.map_drop, ← List.map_append, ← List.map_append, List.getD_eq_getElem?_getD]
          rw [List.getElem?_eq_getElem (by rw [List.length_map, hlen, ← S']; exact hi1)]
          simp
        · cases h
      · cases h
    · cases h
  · cases h
theorem oInit_ok (X : Stand p l e R s m args below meth c T locs cells slots) (hx : p.tables.exec = Jvm.exec) (hZ : Z.Warmed39 s.vm) (hown : s.vm.findClass y.cls = some m.cls) (hw : ∀ d ∈ ws, d.before a0 Z = true) (hmx : c.maxLocals = mx)
    (hd : decode c.code pc = .ok (.invokespecial j, 3)) (hop : oOpOk ws KT CT MT y bytes (pc, .invokespecial j, p1, 1) = true) (N : Fr n0 locs) (hn0 : n0 ≤ T.heap.size) (hl : oLR ad ls Ls) (hk : oKR ad sk ST) (hH : oHR Z T.heap n0 ad KT H) (h : oStep3 KT MT callf R mx (.invokespecial j) p1 1 pc ls sk H cells slots = some q) :
    oN2 p l e R s m args below meth c Z n0 KT T ad pc Ls ST q := by
  simp only [oStep3, if_true] at h
  split at h
  · obtain ⟨_, ST', rfl, ⟨a, ha, rfl⟩, hr⟩ := hk
    split at h
    · rename_i hcond
      obtain ⟨hsz, hfr, hlo⟩ := hcond
      cases h
      obtain ⟨q1, q2, q3⟩ := oOk_init hop
      obtain ⟨T', X', eT, st⟩ := initO X hx hZ hown (hw _ q1) (hw _ q2) (hw _ q3) rfl (g := mkF m pc Ls (.ref a :: ST')) rfl (by rw [hmx, ← hsz]; exact hl.1.symm) rfl hd hfr (by rw [hr.cats]; exact Nat.le_of_eq (Nat.zero_add _)) hlo
      exact ⟨T', locs, ST', ad, X', N, by rw [eT]; exact hn0, oPre.rfl' ad, hr, by rw [eT]; exact hH, st⟩
    · cases h
  · cases h
theorem oSpecial_ok (hC : ∀ (k : Nat) (q : oMt), MT[k]? = some q → oCallOk l Z n0 KT q (callf k)) (X : Stand p l e R s m args below meth c T locs cells slots) (hx : p.tables.exec = Jvm.exec) (hZ : Z.Warmed39 s.vm) (hown : s.vm.findClass y.cls = some m.cls) (hw : ∀ d ∈ ws, d.before a0 Z = true) (hmx : c.maxLocals = mx) (hp2 : ¬ p2 = 1)
    (hd : decode c.code pc = .ok (.invokespecial j, 3)) (hop : oOpOk ws KT CT MT y bytes (pc, .invokespecial j, p1, p2) = true) (N : Fr n0 locs) (hn0 : n0 ≤ T.heap.size) (hl : oLR ad ls Ls) (hk : oKR ad sk ST) (hH : oHR Z T.heap n0 ad KT H) (h : oStep3 KT MT callf R mx (.invokespecial j) p1 p2 pc ls sk H cells slots = some q) :
    oN2 p l e R s m args below meth c Z n0 KT T ad pc Ls ST q := by
  simp only [oStep3, if_neg hp2] at h
  split at h
  · rename_i z zb ml rt rm zn hq
    split at h
    · rename_i k r hdrop
      have hkd := hk.drop zn
      rw [hdrop] at hkd
      obtain ⟨_, ST', hST, ⟨a, ha, rfl⟩, hr⟩ := hkd
      split at h
      · rename_i hcond
        obtain ⟨hsz, hfr, hlo, hce, hsl⟩ := hcond
        split at h
        · rename_i rv H' hcall
          cases h
          obtain ⟨q0, rfl, q1, q2, q3, q4, q5⟩ := oOk_special hop hp2 hq
          obtain ⟨n1, n2⟩ := oNm_spec q5
          have hlen : zn ≤ ST.length := by
            have := congrArg List.length hST
            simp only [List.length_drop, List.length_cons] at this
            omega
          have hM := hC p1 _ hq _ _ _ _ hcall (.ref a :: (ST.take zn).reverse) T.heap ad ⟨_, _, rfl, ⟨a, ha, rfl⟩, (hk.take zn).rev⟩ hH hn0 []
          have hW : 2 * (mkF m pc Ls ST).monitorRoom + (ST'.map fun v => v.category).sum ≤ oCatS r := by
            rw [hr.cats]; exact Nat.le_of_eq (Nat.zero_add _)
          obtain ⟨v, vm1, ⟨T', L', k', n'⟩, -, X', ⟨Lc, hQ, l1, y1, z1⟩, st⟩ := Jvm.LawKit.callI X hx (y := z) hown q0 (mvT hZ (hw _ q1)) (mvT hZ (hw _ q2)) (mvT hZ (hw _ q4)) n1
            (backOf (W := oCatS r) hM hZ (hw _ q4) (hw _ q3) hfr hlo) (g := mkF m pc Ls ST) rfl (by rw [hmx, ← hsz]; exact hl.1.symm) (a := a) (argsL := (ST.take zn).reverse) (rest := ST')
            (fun sig hs => by rw [n2 sig hs, List.length_reverse, List.length_take]; omega) (by show ST = _; rw [List.reverse_reverse, ← hST, List.take_append_drop]) hW hd (fun _ _ => ⟨rfl, rfl, hce, hsl⟩)
          dsimp only [Pt.U, Pt.locs, Pt.cells, Pt.slots] at X' l1 y1 z1 st hQ
          subst l1 y1 z1
          obtain ⟨N', hn', ad', pr, hH', hv⟩ := hQ
          exact ⟨T', _, _, ad', X', N.app N', hn', pr, oKR.app (hr.mono pr) hv.kr, hH', st⟩
        · cases h
      · cases h
    · cases h
  · cases h
theorem oVirtual_ok (hC : ∀ (k : Nat) (q : oMt), MT[k]? = some q → oCallOk l Z n0 KT q (callf k)) (X : Stand p l e R s m args below meth c T locs cells slots) (hx : p.tables.exec = Jvm.exec) (hZ : Z.Warmed39 s.vm) (hown : s.vm.findClass y.cls = some m.cls) (hw : ∀ d ∈ ws, d.before a0 Z = true) (hmx : c.maxLocals = mx)
    (hd : decode c.code pc = .ok (.invokevirtual j, 3)) (hop : oOpOk ws KT CT MT y bytes (pc, .invokevirtual j, p1, p2) = true) (N : Fr n0 locs) (hn0 : n0 ≤ T.heap.size) (hl : oLR ad ls Ls) (hk : oKR ad sk ST) (hH : oHR Z T.heap n0 ad KT H) (h : oStep3 KT MT callf R mx (.invokevirtual j) p1 p2 pc ls sk H cells slots = some q) :
    oN2 p l e R s m args below meth c Z n0 KT T ad pc Ls ST q := by
  simp only [oStep3] at h
  split at h
  · rename_i z zb ml rt rm zn hq
    split at h
    · rename_i k r hdrop
      have hkd := hk.drop zn
      rw [hdrop] at hkd
      obtain ⟨_, ST', hST, ⟨a, ha, rfl⟩, hr⟩ := hkd
      split at h
      · rename_i c1 vs1 hHk
        split at h
        · rename_i hcond
          obtain ⟨rfl, hsz, hfr, hlo, hce, hsl⟩ := hcond
          split at h
          · rename_i rv H' hcall
            cases h
            obtain ⟨C, nC, fs, k1, -, E, -⟩ := hH.2.2.2 _ _ _ hHk ha
            obtain ⟨q1, q2, q3, q4, q5, q6, q7⟩ := oOk_virtual hop hq k1
            obtain ⟨n1, n2⟩ := oNm_spec q7
            have hlen : zn ≤ ST.length := by
              have := congrArg List.length hST
              simp only [List.length_drop, List.length_cons] at this
              omega
            have hM := hC p1 _ hq _ _ _ _ hcall (.ref a :: (ST.take zn).reverse) T.heap ad ⟨_, _, rfl, ⟨a, ha, rfl⟩, (hk.take zn).rev⟩ hH hn0 []
            have hW : 2 * (mkF m pc Ls ST).monitorRoom + (ST'.map fun v => v.category).sum ≤ oCatS r := by
              rw [hr.cats]; exact Nat.le_of_eq (Nat.zero_add _)
            obtain ⟨cB, kB, b1, b2, b3⟩ := isOf (T := T) hZ rfl E
            obtain ⟨v, vm1, ⟨T', L', k', n'⟩, -, X', ⟨Lc, hQ, l1, y1, z1⟩, st⟩ := X.virtualBack hx (y := z) (z := z) hown (mvT hZ (hw _ q1)) (mvT hZ (hw _ q2)) (notFace_of_selects (args := #[]) (mvT hZ (hw _ q3))) (mvT hZ (hw _ q3)) (mvT hZ (hw _ q4)) n1
              (backOf (W := oCatS r) hM hZ (hw _ q6) (hw _ q5) hfr hlo) b1 b3 (g := mkF m pc Ls ST) rfl (by rw [hmx, ← hsz]; exact hl.1.symm) (Steps.refl _) (argsL := (ST.take zn).reverse) (rest := ST')
              (fun sig hs => by rw [n2 sig hs, List.length_reverse, List.length_take]; omega) (by show ST = _; rw [List.reverse_reverse, ← hST, List.take_append_drop]) hW hd (fun _ _ => ⟨rfl, rfl, hce, hsl⟩)
            dsimp only [Pt.U, Pt.locs, Pt.cells, Pt.slots] at X' l1 y1 z1 st hQ
            subst l1 y1 z1
            obtain ⟨N', hn', ad', pr, hH', hv⟩ := hQ
            exact ⟨T', _, _, ad', X', N.app N', hn', pr, oKR.app (hr.mono pr) hv.kr, hH', fun t k => st.trans k⟩
          · cases h
        · cases h
      · cases h
    · cases h
  · cases h
theorem oStep3_ok (hC : ∀ (k : Nat) (q : oMt), MT[k]? = some q → oCallOk l Z n0 KT q (callf k)) (X : Stand p l e R s m args below meth c T locs cells slots) (hx : p.tables.exec = Jvm.exec) (hZ : Z.Warmed39 s.vm) (hown : s.vm.findClass y.cls = some m.cls) (hw : ∀ d ∈ ws, d.before a0 Z = true) (hmx : c.maxLocals = mx) {i : Instr} (hby : c.code = bytes)
    (hop : oOpOk ws KT CT MT y bytes (pc, i, p1, p2) = true) (N : Fr n0 locs) (hn0 : n0 ≤ T.heap.size) (hl : oLR ad ls Ls) (hk : oKR ad sk ST) (hH : oHR Z T.heap n0 ad KT H) (h : oStep3 KT MT callf R mx i p1 p2 pc ls sk H cells slots = some q) :
    oN2 p l e R s m args below meth c Z n0 KT T ad pc Ls ST q := by
  obtain ⟨n, hd, hn⟩ := oOk_dec hop
  rw [← hby] at hd
  cases i
  all_goals (first | exact oNone h | (have hn' := hn.resolve_right (fun q => Bool.false_ne_true q); subst hn'))
  case invokestatic j =>
    by_cases hp : p2 = 2
    · subst hp
      exact oCopy_ok X hx hZ hown hw hmx hd hop N hn0 hl hk hH h
    · exact oStatic_ok hC X hx hZ hown hw hmx hp hd hop N hn0 hl hk hH h
  case invokespecial j =>
    by_cases hp : p2 = 1
    · subst hp
      exact oInit_ok X hx hZ hown hw hmx hd hop N hn0 hl hk hH h
    · exact oSpecial_ok hC X hx hZ hown hw hmx hp hd hop N hn0 hl hk hH h
  case invokevirtual j => exact oVirtual_ok hC X hx hZ hown hw hmx hd hop N hn0 hl hk hH h
end Sound

/-! A7. many steps; a method's contract -/
def oAt (p : Program) (l : Launch) (e : Env) (R : Jvm.Room) (s : State) (m : MethodId) (args : Array Value) (below : List Frame) (meth : Method) (c : Code) (Z : State) (n0 : Nat) (KT : List oKl) (T : State) (st : oSt) (Ls : Array Slot) (ST : List Value) (ad : List Addr) : Prop :=
  ∃ locs, Stand p l e R s m args below meth c T locs st.2.2.2.2.1 st.2.2.2.2.2 ∧ Fr n0 locs ∧ n0 ≤ T.heap.size ∧ oLR ad st.2.1 Ls ∧ oKR ad st.2.2.1 ST ∧ oHR Z T.heap n0 ad KT st.2.2.2.1
def oReach (l : Launch) (Z : State) (n0 : Nat) (KT : List oKl) (q : oMt) (st st' : oSt) : Prop :=
  ∀ (p : Program) (e : Env) (s : State) (m : MethodId) (args : Array Value) (below : List Frame) (meth : Method) (c : Code), p.tables.exec = Jvm.exec → Z.Warmed39 s.vm → s.vm.findClass q.1.cls = some m.cls → meth.name = q.1.name → c.code = q.2.1 → c.maxLocals = q.2.2.1 →
    ∀ (T : State) (Ls : Array Slot) (ST : List Value) (ad : List Addr), oAt p l e q.2.2.2.2.1 s m args below meth c Z n0 KT T st Ls ST ad →
      ∃ T' Ls' ST' ad', oAt p l e q.2.2.2.2.1 s m args below meth c Z n0 KT T' st' Ls' ST' ad' ∧ oPre ad ad' ∧
        ∀ target, Steps p.tables e below (T'.setTop (mkF m st'.1 Ls' ST')) target → Steps p.tables e below (T.setTop (mkF m st.1 Ls ST)) target
section Many
variable {l : Launch} {Z : State} {a0 : Array Value} {n0 : Nat} {ws : List Jvm.Cond} {KT : List oKl} {CT : List Value} {MT : List oMt} {callf : oCf} {q : oMt} {st st' st'' : oSt} {ops : List oOp}
theorem oReach.rfl' : oReach l Z n0 KT q st st := fun p e s m args below meth c _ _ _ _ _ _ T Ls ST ad h => ⟨T, Ls, ST, ad, h, oPre.rfl' ad, fun _ k => k⟩
theorem oReach.trans (h : oReach l Z n0 KT q st st') (h' : oReach l Z n0 KT q st' st'') : oReach l Z n0 KT q st st'' :=
  fun p e s m args below meth c a1 a2 a3 a4 a5 a6 T Ls ST ad hA => by
    obtain ⟨T1, Ls1, ST1, ad1, hA1, pr1, k1⟩ := h p e s m args below meth c a1 a2 a3 a4 a5 a6 T Ls ST ad hA
    obtain ⟨T2, Ls2, ST2, ad2, hA2, pr2, k2⟩ := h' p e s m args below meth c a1 a2 a3 a4 a5 a6 T1 Ls1 ST1 ad1 hA1
    exact ⟨T2, Ls2, ST2, ad2, hA2, pr1.trans pr2, fun t k => k1 t (k2 t k)⟩
theorem oReach.step (hw : ∀ d ∈ ws, d.before a0 Z = true) (hK : KT.all (oKOk ws) = true) (hC : ∀ (k : Nat) (q : oMt), MT[k]? = some q → oCallOk l Z n0 KT q (callf k)) {op : Instr × Nat × Nat} (hop : oOpOk ws KT CT MT q.1 q.2.1 (st.1, op) = true)
    (h : oStep KT CT MT callf q.2.2.2.2.1 q.2.2.1 op st = some st') : oReach l Z n0 KT q st st' := by
  intro p e s m args below meth c hx hZ hown hnm hby hmx T Ls ST ad ⟨locs, X, N, hn0, hl, hk, hH⟩
  obtain ⟨pc, ls, sk, H, cells, slots⟩ := st
  obtain ⟨i, p1, p2⟩ := op
  dsimp only at hop X N hn0 hl hk hH ⊢
  simp only [oStep] at h
  split at h
  · rename_i pc' ls' sk' h1
    cases h
    have hd := oOk_dec hop
    rw [← hby] at hd
    obtain ⟨Ls', ST', r1, r2, r3⟩ := oStep1_ok X hx hZ hown hw hd (fun j hj x hx' => by subst hj; exact oOk_ldc hop hx') (fun j hj x hx' => by subst hj; exact oOk_ldc2 hop hx') hl hk h1
    exact ⟨T, Ls', ST', ad, ⟨locs, X, N, hn0, r1, r2, hH⟩, oPre.rfl' ad, r3⟩
  · split at h
    · rename_i pc' sk' H' c' s' h2
      cases h
      obtain ⟨T', locs', ST', ad', X', N', hn', pr, hk', hH', k⟩ := oStep2_ok (Ls := Ls) X hx hZ hown hnm hw hK hby hop N hn0 hk hH h2
      exact ⟨T', Ls, ST', ad', ⟨locs', X', N', hn', hl.mono pr, hk', hH'⟩, pr, k⟩
    · split at h
      · rename_i pc' sk' H' c' s' h3
        cases h
        obtain ⟨T', locs', ST', ad', X', N', hn', pr, hk', hH', k⟩ := oStep3_ok hC X hx hZ hown hw hmx hby hop N hn0 hl hk hH h3
        exact ⟨T', Ls, ST', ad', ⟨locs', X', N', hn', hl.mono pr, hk', hH'⟩, pr, k⟩
      · cases h
theorem oFetch_mem : ∀ {ops : List oOp} {pc : Nat} {op : Instr × Nat × Nat}, oFetch ops pc = some op → (pc, op) ∈ ops
  | [], _, _, h => by cases h
  | (a, r) :: t, pc, op, h => by
    cases hb : Nat.beq a pc with
    | true =>
      simp only [oFetch, hb] at h
      cases h
      rw [Nat.eq_of_beq_eq_true hb]
      exact List.mem_cons_self ..
    | false =>
      simp only [oFetch, hb] at h
      exact List.mem_cons_of_mem _ (oFetch_mem h)
theorem oReach.run (hw : ∀ d ∈ ws, d.before a0 Z = true) (hK : KT.all (oKOk ws) = true) (hC : ∀ (k : Nat) (q : oMt), MT[k]? = some q → oCallOk l Z n0 KT q (callf k)) (hops : ops.all (oOpOk ws KT CT MT q.1 q.2.1) = true) :
    ∀ {n : Nat} {st st' : oSt}, oRun KT CT MT callf q.2.2.2.2.1 q.2.2.1 ops n st = some st' → oReach l Z n0 KT q st st'
  | 0, st, st', h => by cases h; exact oReach.rfl'
  | n + 1, st, st', h => by
    simp only [oRun] at h
    split at h
    · cases h
    · rename_i op hf
      split at h
      · cases h; exact oReach.rfl'
      · split at h
        · cases h
        · rename_i st1 h1
          exact (oReach.step hw hK hC (List.all_eq_true.mp hops _ (oFetch_mem hf)) h1).trans (oReach.run hw hK hC hops h)
theorem oRet_dec (hops : ops.all (oOpOk ws KT CT MT q.1 q.2.1) = true) {pc : Nat} {i : Instr} {r : Nat × Nat} (h : oFetch ops pc = some (i, r)) (hs : oLen i = 1) (hns : oSw i = false) : decode q.2.1 pc = .ok (i, 1) := by
  obtain ⟨p1, p2⟩ := r
  obtain ⟨n, h1, h2⟩ := oOk_dec (List.all_eq_true.mp hops _ (oFetch_mem h))
  rcases h2 with rfl | h2
  · rw [h1, hs]
  · rw [hns] at h2; cases h2
theorem oMet_of_reach0 (hpn : plainFor q.1 = true) (hops : ops.all (oOpOk ws KT CT MT q.1 q.2.1) = true) {vs : List Value} {H H' : List oObj} {r : Option Value} (hR : oReach l Z n0 KT q (0, argsToLocals vs.toArray q.2.2.1, [], H, 0, 0) st') (hret : oRet q ops st' = some (r, H')) :
    oMet l Z n0 KT q vs H r H' := by
  intro wv h0 ad hk hH hn ws0
  refine MetFree.of_bodySF hpn hisR ?_
  intro p e s m args below meth c s₁ Bd hml0 hP hK
  obtain ⟨rfl, hZ, hh⟩ := hP
  have hx := Bd.exec
  have hby := Bd.bytes
  have hown : s.vm.findClass q.1.cls = some m.cls := findClass_of_methodNamed Bd.named
  have hnm := (name_of_methodNamed Bd.named Bd.method).1
  have X0 : Stand p l e q.2.2.2.2.1 s m wv.toArray below meth c s₁ [] 0 0 := Stand.of_body Bd
  have e0 : s₁.heap = h0 := by rw [← hh, Bd.state]; rfl
  obtain ⟨T', Ls', ST', ad', ⟨locs', X', N', hn', hl', hk', hH'⟩, pr, st⟩ := hR p e s m _ below meth c hx hZ hown hnm hby hml0 s₁ (argsToLocals wv.toArray q.2.2.1) [] ad ⟨[], X0, Fr.nil n0, by rw [e0]; exact hn, oLR.entry hk _, rfl, by rw [e0]; exact hH⟩
  obtain ⟨pc, ls, sk, H1, cells, slots⟩ := st'
  dsimp only at X' N' hn' hl' hk' hH' st
  simp only [oRet] at hret
  split at hret
  · rename_i hroom
    split at hret
    · rename_i r1 hf
      have hd := oRet_dec hops hf rfl rfl
      rw [← hby] at hd
      split at hret
      · rename_i hrt
        cases hret
        cases hk'
        have hrt' := Bd.returns
        rw [hrt] at hrt'
        obtain ⟨fs, hr, hrun, hended, hW, hsame⟩ := X'.leave (v := none) (fun _ => rfl)
        exact ⟨_, _, st _ (X'.returnOut hx hrt' hd hr), hrun, hended, _, _, rfl, ⟨N', hn', ad', pr, hH', rfl⟩, ⟨_, rfl⟩, hW, hsame.mono hroom.1 hroom.2⟩
      · cases hret
    · rename_i r1 hf
      have hd := oRet_dec hops hf rfl rfl
      rw [← hby] at hd
      split at hret
      · rename_i x rest
        obtain ⟨_, ST1, rfl, rfl, hr1⟩ := hk'
        split at hret
        · rename_i hc
          cases hret
          have hrt' := Bd.returns
          obtain ⟨c1, c2⟩ := hc
          have ht : ∃ t, q.2.2.2.1 = some t ∧ (t = .int ∨ t = .boolean ∨ t = .byte ∨ t = .char ∨ t = .short) ∧ narrow t (.int x) = .int x := by
            cases hq : q.2.2.2.1 with
            | none => rw [hq] at c1; cases c1
            | some t =>
              rw [hq] at c1 c2
              refine ⟨t, rfl, ?_, by cases t <;> first | rfl | exact of_decide_eq_true c2⟩
              cases t <;> first | exact Or.inl rfl | exact Or.inr (Or.inl rfl) | exact Or.inr (Or.inr (Or.inl rfl)) | exact Or.inr (Or.inr (Or.inr (Or.inl rfl))) | exact Or.inr (Or.inr (Or.inr (Or.inr rfl))) | cases c1
          obtain ⟨t, hq, ht1, ht2⟩ := ht
          rw [hq] at hrt'
          obtain ⟨fs, hr, hrun, hended, hW, hsame⟩ := X'.leave (v := some (.int x)) (fun h => by rw [hrt'] at h; cases h)
          exact ⟨_, _, st _ (retOut X' hx hrt' ht2 (Or.inl ⟨rfl, ht1, x, rfl⟩) hd hr), hrun, hended, _, _, rfl, ⟨N', hn', ad', pr, hH', _, rfl, rfl⟩, ⟨_, rfl⟩, hW, hsame.mono hroom.1 hroom.2⟩
        · cases hret
      · cases hret
    · rename_i r1 hf
      have hd := oRet_dec hops hf rfl rfl
      rw [← hby] at hd
      split at hret
      · rename_i x rest
        obtain ⟨_, ST1, rfl, rfl, hr1⟩ := hk'
        split at hret
        · rename_i hc
          cases hret
          have hrt' := Bd.returns
          rw [hc] at hrt'
          obtain ⟨fs, hr, hrun, hended, hW, hsame⟩ := X'.leave (v := some (.long x)) (fun h => by rw [hrt'] at h; cases h)
          exact ⟨_, _, st _ (retOut X' hx hrt' rfl (Or.inr (Or.inl ⟨rfl, rfl, x, rfl⟩)) hd hr), hrun, hended, _, _, rfl, ⟨N', hn', ad', pr, hH', _, rfl, rfl⟩, ⟨_, rfl⟩, hW, hsame.mono hroom.1 hroom.2⟩
        · cases hret
      · cases hret
    · rename_i r1 hf
      have hd := oRet_dec hops hf rfl rfl
      rw [← hby] at hd
      have key : ∀ (v w : Value) (rest ST1 : List Value), ST' = w :: ST1 → oVR ad' v w → w.isRef = true → oRefT q.2.2.2.1 = true → r = some v → H' = H1 →
          ∃ s₂ o, Steps p.tables e below (s₁.setTop (entryFrame m wv.toArray q.2.2.1)) s₂ ∧ s₂.status = .running ∧ Ended s₂ below o ∧ ∃ v L, o = .returned v ∧ oQ Z n0 KT ad H' r v s₂.heap L ∧ FrameEnd s o s₂ L q.2.2.2.2.1.cells q.2.2.2.2.1.slots := by
        intro v w rest ST1 e1 hv href hT e2 e3
        subst e1 e2 e3
        have hrt' := Bd.returns
        have ht : ∃ t, q.2.2.2.1 = some t ∧ t.isReference = true := by
          cases hq : q.2.2.2.1 with
          | none => rw [hq] at hT; cases hT
          | some t => rw [hq] at hT; exact ⟨t, rfl, hT⟩
        obtain ⟨t, hq, ht1⟩ := ht
        rw [hq] at hrt'
        have hnw : narrow t w = w := by
          rcases ref_cases href with rfl | ⟨a, rfl⟩ <;> cases t <;> rfl
        obtain ⟨fs, hr, hrun, hended, hW, hsame⟩ := X'.leave (v := some w) (fun h => by rw [hrt'] at h; cases h)
        exact ⟨_, _, st _ (retOut X' hx hrt' hnw (Or.inr (Or.inr (Or.inr (Or.inr ⟨rfl, ht1, href⟩)))) hd hr), hrun, hended, _, _, rfl, ⟨N', hn', ad', pr, hH', _, rfl, hv⟩, ⟨_, rfl⟩, hW, hsame.mono hroom.1 hroom.2⟩
      split at hret
      · rename_i k rest
        obtain ⟨w, ST1, e1, ⟨a, ha, rfl⟩, hr1⟩ := hk'
        split at hret
        · rename_i hc
          cases hret
          exact key (.ref k) _ rest ST1 e1 ⟨a, ha, rfl⟩ rfl hc rfl rfl
        · cases hret
      · rename_i rest
        obtain ⟨w, ST1, e1, rfl, hr1⟩ := hk'
        split at hret
        · rename_i hc
          cases hret
          exact key .null _ rest ST1 e1 rfl rfl hc rfl rfl
        · cases hret
      · cases hret
    · cases hret
  · cases hret
theorem oBody_ok {fuel : Nat} (hw : ∀ d ∈ ws, d.before a0 Z = true) (hK : KT.all (oKOk ws) = true) (hC : ∀ (k : Nat) (q : oMt), MT[k]? = some q → oCallOk l Z n0 KT q (callf k)) (hpn : plainFor q.1 = true) (hops : ops.all (oOpOk ws KT CT MT q.1 q.2.1) = true) :
    oCallOk l Z n0 KT q (oBody KT CT MT callf q ops fuel) := fun vs H r H' h => by
  unfold oBody at h
  split at h
  · rename_i st hst
    exact oMet_of_reach0 hpn hops (oReach.run hw hK hC hops hst) h
  · cases h
/-! the table of what is proved of the callees -/
def oCall (fs : List (List Value → List oObj → Option (Option Value × List oObj))) : oCf := fun k => match fs[k]? with
  | some f => f
  | none => fun _ _ => none
def oFsOk (l : Launch) (Z : State) (n0 : Nat) (KT : List oKl) (MT : List oMt) (fs : List (List Value → List oObj → Option (Option Value × List oObj))) : Prop := ∀ (k : Nat) (q : oMt) (f : List Value → List oObj → Option (Option Value × List oObj)), MT[k]? = some q → fs[k]? = some f → oCallOk l Z n0 KT q f
theorem oFsOk.nil : oFsOk l Z n0 KT MT [] := fun k q f _ h => by simp at h
theorem oFsOk.snoc {fs : List (List Value → List oObj → Option (Option Value × List oObj))} {f : List Value → List oObj → Option (Option Value × List oObj)} (h : oFsOk l Z n0 KT MT fs) (hq : MT[fs.length]? = some q) (hf : oCallOk l Z n0 KT q f) : oFsOk l Z n0 KT MT (fs ++ [f]) := fun k q' g hk hg => by
  by_cases hlt : k < fs.length
  · rw [List.getElem?_append_left hlt] at hg
    exact h k q' g hk hg
  · rw [List.getElem?_append_right (Nat.le_of_not_lt hlt)] at hg
    obtain ⟨h1, h2⟩ := List.getElem?_eq_some_iff.mp hg
    simp only [List.length_singleton, Nat.lt_one_iff] at h1
    have hk' : k = fs.length := by omega
    subst hk'
    cases hq.symm.trans hk
    simp only [Nat.sub_self, List.getElem_singleton] at h2
    subst h2
    exact hf
theorem oFsOk.call {fs : List (List Value → List oObj → Option (Option Value × List oObj))} (h : oFsOk l Z n0 KT MT fs) : ∀ (k : Nat) (q : oMt), MT[k]? = some q → oCallOk l Z n0 KT q (oCall fs k) := fun k q hk => by
  unfold oCall
  split
  · rename_i f hf
    exact h k q f hk hf
  · intro vs H r H' hh; cases hh
/-! forgetting what local variables hold -/
def oHv : List Bool → List Slot → List Slot
  | true :: ms, .val v :: ls => (if v.category = 2 then .val (.double 0) else .val (.retAddr 0)) :: oHv ms ls
  | _ :: ms, x :: ls => x :: oHv ms ls
  | [], ls => ls
  | _, [] => []
theorem oHv_len : ∀ (ms : List Bool) (ls : List Slot), (oHv ms ls).length = ls.length
  | [], _ => by simp [oHv]
  | _ :: _, [] => by simp [oHv]
  | b :: ms, x :: ls => by cases b <;> cases x <;> simp [oHv, oHv_len ms ls]
theorem oHv_at {ad : List Addr} : ∀ (ms : List Bool) (ls : List Slot) (i : Nat) (x' y : Slot), (oHv ms ls)[i]? = some x' → (∀ x, ls[i]? = some x → oSR ad x y) → oSR ad x' y
  | [], ls, i, x', y, h, k => by simp only [oHv] at h; exact k _ h
  | b :: ms, [], i, x', y, h, k => by simp [oHv] at h
  | b :: ms, x :: ls, 0, x', y, h, k => by
    have kx := k x rfl
    cases b <;> cases x <;> simp only [oHv, List.getElem?_cons_zero, Option.some.injEq] at h
    all_goals first | (subst h; exact kx) | skip
    obtain ⟨w, rfl, hw⟩ := kx
    split at h
    · rename_i hc
      subst h
      exact ⟨w, rfl, hw.cat.trans hc⟩
    · rename_i hc
      subst h
      refine ⟨w, rfl, ?_⟩
      show w.category = 1
      rw [hw.cat]
      revert hc
      rename_i v
      cases v <;> simp [Value.category]
  | b :: ms, x :: ls, i + 1, x', y, h, k => by
    cases b <;> cases x <;> simp only [oHv, List.getElem?_cons_succ] at h <;> exact oHv_at ms ls i x' y h (fun z hz => k z (by simpa using hz))
theorem oReach.hav (ms : List Bool) {pc : Nat} {ls : Array Slot} {sk : List Value} {H : List oObj} {cl sl : Nat} : oReach l Z n0 KT q (pc, ls, sk, H, cl, sl) (pc, (oHv ms ls.toList).toArray, sk, H, cl, sl) :=
  fun p e s m args below meth c _ _ _ _ _ _ T Ls ST ad ⟨locs, X, N, hn0, hl, hk, hH⟩ => by
    refine ⟨T, Ls, ST, ad, ⟨locs, X, N, hn0, ⟨?_, fun i x' hx' => ?_⟩, hk, hH⟩, oPre.rfl' ad, fun _ k => k⟩
    · dsimp only
      rw [List.size_toArray, oHv_len, Array.length_toList]
      exact hl.1
    · dsimp only at hx'
      rw [List.getElem?_toArray] at hx'
      have hi : i < ls.size := by
        have := (List.getElem?_eq_some_iff.mp hx').1
        rw [oHv_len, Array.length_toList] at this
        exact this
      obtain ⟨y, hy, -⟩ := hl.2 i _ (Array.getElem?_eq_getElem hi)
      refine ⟨y, hy, oHv_at ms ls.toList i x' y hx' fun x hx => ?_⟩
      rw [Array.getElem?_toList] at hx
      obtain ⟨y', hy', hr⟩ := hl.2 i x hx
      cases hy.symm.trans hy'
      exact hr
theorem oHR.nil {h : Heap} : oHR Z h n0 [] KT [] := ⟨rfl, fun i j a hi _ => by simp at hi, fun i a hi => by simp at hi, fun k o a hk _ => by simp at hk⟩
end Many
/-! A8. single steps that ask something of symbols -/
section Single
variable {l : Launch} {Z : State} {a0 : Array Value} {n0 : Nat} {ws : List Jvm.Cond} {KT : List oKl} {CT : List Value} {MT : List oMt} {callf : oCf} {q : oMt} {ops : List oOp} {pc pc' : Nat} {ls : Array Slot} {r : List Value} {H : List oObj} {cl sl : Nat} {pp : Nat × Nat}
theorem oReach.one (hw : ∀ d ∈ ws, d.before a0 Z = true) (hK : KT.all (oKOk ws) = true) (hC : ∀ (k : Nat) (q : oMt), MT[k]? = some q → oCallOk l Z n0 KT q (callf k)) (hops : ops.all (oOpOk ws KT CT MT q.1 q.2.1) = true) {st st' : oSt} {op : Instr × Nat × Nat} (hf : oFetch ops st.1 = some op) (h : oStep KT CT MT callf q.2.2.2.2.1 q.2.2.1 op st = some st') : oReach l Z n0 KT q st st' :=
  oReach.step hw hK hC (List.all_eq_true.mp hops _ (oFetch_mem hf)) h
theorem oReach.icmpY (hw : ∀ d ∈ ws, d.before a0 Z = true) (hK : KT.all (oKOk ws) = true) (hC : ∀ (k : Nat) (q : oMt), MT[k]? = some q → oCallOk l Z n0 KT q (callf k)) (hops : ops.all (oOpOk ws KT CT MT q.1 q.2.1) = true) {cd : ClassFile.Cond} {o : Int} {x y : Int32}
    (hf : oFetch ops pc = some (.if_icmp cd o, pp)) (h : if_icmp.holds cd x y = true) (ho : 0 ≤ (pc : Int) + o) (hp : ((pc : Int) + o).toNat = pc') : oReach l Z n0 KT q (pc, ls, .int y :: .int x :: r, H, cl, sl) (pc', ls, r, H, cl, sl) :=
  oReach.one (callf := callf) hw hK hC hops hf (by simp only [oStep, oStep1, if_pos h, oJmp, if_pos ho, hp])
theorem oReach.icmpN (hw : ∀ d ∈ ws, d.before a0 Z = true) (hK : KT.all (oKOk ws) = true) (hC : ∀ (k : Nat) (q : oMt), MT[k]? = some q → oCallOk l Z n0 KT q (callf k)) (hops : ops.all (oOpOk ws KT CT MT q.1 q.2.1) = true) {cd : ClassFile.Cond} {o : Int} {x y : Int32}
    (hf : oFetch ops pc = some (.if_icmp cd o, pp)) (h : ¬ if_icmp.holds cd x y = true) : oReach l Z n0 KT q (pc, ls, .int y :: .int x :: r, H, cl, sl) (pc + 3, ls, r, H, cl, sl) :=
  oReach.one (callf := callf) hw hK hC hops hf (by simp only [oStep, oStep1, if_neg h])
theorem oReach.ifY (hw : ∀ d ∈ ws, d.before a0 Z = true) (hK : KT.all (oKOk ws) = true) (hC : ∀ (k : Nat) (q : oMt), MT[k]? = some q → oCallOk l Z n0 KT q (callf k)) (hops : ops.all (oOpOk ws KT CT MT q.1 q.2.1) = true) {cd : ClassFile.Cond} {o : Int} {x : Int32}
    (hf : oFetch ops pc = some (.ifCond cd o, pp)) (h : ifCond.holds cd x = true) (ho : 0 ≤ (pc : Int) + o) (hp : ((pc : Int) + o).toNat = pc') : oReach l Z n0 KT q (pc, ls, .int x :: r, H, cl, sl) (pc', ls, r, H, cl, sl) :=
  oReach.one (callf := callf) hw hK hC hops hf (by simp only [oStep, oStep1, if_pos h, oJmp, if_pos ho, hp])
theorem oReach.ifN (hw : ∀ d ∈ ws, d.before a0 Z = true) (hK : KT.all (oKOk ws) = true) (hC : ∀ (k : Nat) (q : oMt), MT[k]? = some q → oCallOk l Z n0 KT q (callf k)) (hops : ops.all (oOpOk ws KT CT MT q.1 q.2.1) = true) {cd : ClassFile.Cond} {o : Int} {x : Int32}
    (hf : oFetch ops pc = some (.ifCond cd o, pp)) (h : ¬ ifCond.holds cd x = true) : oReach l Z n0 KT q (pc, ls, .int x :: r, H, cl, sl) (pc + 3, ls, r, H, cl, sl) :=
  oReach.one (callf := callf) hw hK hC hops hf (by simp only [oStep, oStep1, if_neg h])
theorem oReach.sw (hw : ∀ d ∈ ws, d.before a0 Z = true) (hK : KT.all (oKOk ws) = true) (hC : ∀ (k : Nat) (q : oMt), MT[k]? = some q → oCallOk l Z n0 KT q (callf k)) (hops : ops.all (oOpOk ws KT CT MT q.1 q.2.1) = true) {dflt o : Int} {prs : Array (Int × Int)} {x : Int32}
    (hf : oFetch ops pc = some (.lookupswitch dflt prs, pp)) (hs : (prs.toList.zip (prs.toList.drop 1)).all (fun q => decide (q.1.1 < q.2.1)) = true) (h : lookupswitch.offset prs.toList dflt x.toInt = o) (ho : 0 ≤ (pc : Int) + o) (hp : ((pc : Int) + o).toNat = pc') :
    oReach l Z n0 KT q (pc, ls, .int x :: r, H, cl, sl) (pc', ls, r, H, cl, sl) :=
  oReach.one (callf := callf) hw hK hC hops hf (by simp only [oStep, oStep1, if_pos hs, h, oJmp, if_pos ho, hp])
theorem oReach.iald (hw : ∀ d ∈ ws, d.before a0 Z = true) (hK : KT.all (oKOk ws) = true) (hC : ∀ (k : Nat) (q : oMt), MT[k]? = some q → oCallOk l Z n0 KT q (callf k)) (hops : ops.all (oOpOk ws KT CT MT q.1 q.2.1) = true) {k : Nat} {j x : Int32} {vs : List Int32}
    (hf : oFetch ops pc = some (.iaload, pp)) (hH : H[k]? = some (.inr (.int, vs))) (hj : ¬ j < 0) (hx : vs[j.toNatClampNeg]? = some x) : oReach l Z n0 KT q (pc, ls, .int j :: .ref k :: r, H, cl, sl) (pc + 1, ls, .int x :: r, H, cl, sl) :=
  oReach.one (callf := callf) hw hK hC hops hf (by simp only [oStep, oStep1, oStep2, hH, if_neg hj, hx])
theorem oReach.getf (hw : ∀ d ∈ ws, d.before a0 Z = true) (hK : KT.all (oKOk ws) = true) (hC : ∀ (k : Nat) (q : oMt), MT[k]? = some q → oCallOk l Z n0 KT q (callf k)) (hops : ops.all (oOpOk ws KT CT MT q.1 q.2.1) = true) {j k p1 p2 : Nat} {v : Value} {vs : List Value}
    (hf : oFetch ops pc = some (.getfield j, p1, p2)) (hH : H[k]? = some (.inl (p1, vs))) (hv : vs[p2]? = some v) : oReach l Z n0 KT q (pc, ls, .ref k :: r, H, cl, sl) (pc + 3, ls, v :: r, H, cl, sl) :=
  oReach.one (callf := callf) hw hK hC hops hf (by simp only [oStep, oStep1, oStep2, hH, hv, if_true])
theorem oReach.bald (hw : ∀ d ∈ ws, d.before a0 Z = true) (hK : KT.all (oKOk ws) = true) (hC : ∀ (k : Nat) (q : oMt), MT[k]? = some q → oCallOk l Z n0 KT q (callf k)) (hops : ops.all (oOpOk ws KT CT MT q.1 q.2.1) = true) {k : Nat} {j x : Int32} {vs : List Int32}
    (hf : oFetch ops pc = some (.baload, pp)) (hH : H[k]? = some (.inr (.boolean, vs))) (hj : ¬ j < 0) (hx : vs[j.toNatClampNeg]? = some x) : oReach l Z n0 KT q (pc, ls, .int j :: .ref k :: r, H, cl, sl) (pc + 1, ls, .int x :: r, H, cl, sl) :=
  oReach.one (callf := callf) hw hK hC hops hf (by simp only [oStep, oStep1, oStep2, hH, if_neg hj, hx])
theorem oReach.bast (hw : ∀ d ∈ ws, d.before a0 Z = true) (hK : KT.all (oKOk ws) = true) (hC : ∀ (k : Nat) (q : oMt), MT[k]? = some q → oCallOk l Z n0 KT q (callf k)) (hops : ops.all (oOpOk ws KT CT MT q.1 q.2.1) = true) {k : Nat} {j x : Int32} {vs : List Int32}
    (hf : oFetch ops pc = some (.bastore, pp)) (hH : H[k]? = some (.inr (.boolean, vs))) (hin : oIn j vs.length = true) : oReach l Z n0 KT q (pc, ls, .int x :: .int j :: .ref k :: r, H, cl, sl) (pc + 1, ls, r, H.set k (.inr (.boolean, vs.set j.toNatClampNeg (x &&& 1))), cl, sl) :=
  oReach.one (callf := callf) hw hK hC hops hf (by simp only [oStep, oStep1, oStep2, hH, if_pos hin])
theorem oReach.havS {sk : List Value} (n : Nat) : oReach l Z n0 KT q (pc, ls, sk, H, cl, sl) (pc, ls, sk.take n ++ (sk.drop n).map (fun v => if v.category = 2 then .double 0 else .retAddr 0), H, cl, sl) :=
  fun p e s m args below meth c _ _ _ _ _ _ T Ls ST ad ⟨locs, X, N, hn0, hl, hk, hH⟩ => by
    refine ⟨T, Ls, ST, ad, ⟨locs, X, N, hn0, hl, ?_, hH⟩, oPre.rfl' ad, fun _ k => k⟩
    have key : ∀ {vs ws : List Value}, oKR ad vs ws → oKR ad (vs.map (fun v => if v.category = 2 then .double 0 else .retAddr 0)) ws := by
      intro vs
      induction vs with
      | nil => intro ws h; exact h
      | cons v vs ih =>
        intro ws h
        obtain ⟨w, ws', rfl, hv, hr⟩ := h
        refine ⟨w, ws', rfl, ?_, ih hr⟩
        show oVR ad (if v.category = 2 then .double 0 else .retAddr 0) w
        split
        · rename_i hc
          exact hv.cat.trans hc
        · rename_i hc
          show w.category = 1
          rw [hv.cat]
          revert hc
          cases v <;> simp [Value.category]
    have h1 := oKR.app (key (hk.drop n)) (hk.take n)
    rw [List.take_append_drop] at h1
    exact h1
end Single
/-! A10. a call by what is proved of that one call -/
section Calls
variable {l : Launch} {Z : State} {a0 : Array Value} {n0 : Nat} {ws : List Jvm.Cond} {KT : List oKl} {CT : List Value} {MT : List oMt} {q : oMt} {ops : List oOp} {pc : Nat} {ls : Array Slot} {sk : List Value} {H : List oObj} {cl sl : Nat}
theorem oPick {p1 : Nat} {z : oMt} {vs : List Value} {H' : List oObj} {v : Option Value} (hm : MT[p1]? = some z) (hM : oMet l Z n0 KT z vs H v H') : ∃ g : oCf, g p1 vs H = some (v, H') ∧ ∀ (k : Nat) (q : oMt), MT[k]? = some q → oCallOk l Z n0 KT q (g k) := by
  refine ⟨fun k us H1 => @ite (Option (Option Value × List oObj)) (k = p1 ∧ us = vs ∧ H1 = H) (Classical.propDecidable _) (some (v, H')) none, ?_, fun k q hk us H1 r H2 h => ?_⟩
  · exact if_pos ⟨rfl, rfl, rfl⟩
  · have h0 : @ite (Option (Option Value × List oObj)) (k = p1 ∧ us = vs ∧ H1 = H) (Classical.propDecidable _) (some (v, H')) none = some (r, H2) := h
    by_cases hc : k = p1 ∧ us = vs ∧ H1 = H
    · rw [if_pos hc] at h0
      cases h0
      obtain ⟨rfl, rfl, rfl⟩ := hc
      cases hm.symm.trans hk
      exact hM
    · rw [if_neg hc] at h0
      cases h0
theorem oReach.mS (hw : ∀ d ∈ ws, d.before a0 Z = true) (hK : KT.all (oKOk ws) = true) (hops : ops.all (oOpOk ws KT CT MT q.1 q.2.1) = true) {j p1 p2 : Nat} {z : oMt} {vs : List Value} {v : Option Value} {H' : List oObj}
    (hM : oMet l Z n0 KT z vs H v H') (hf : oFetch ops pc = some (.invokestatic j, p1, p2)) (hp : ¬ p2 = 2) (hm : MT[p1]? = some z) (hv : (sk.take z.2.2.2.2.2).reverse = vs)
    (hc : decide (ls.size = q.2.2.1 ∧ z.2.2.2.2.2 ≤ sk.length ∧ z.2.2.2.2.1.frames + 1 ≤ q.2.2.2.2.1.frames ∧ oCatS (sk.drop z.2.2.2.2.2) + (z.2.2.1 + 11) + z.2.2.2.2.1.locals ≤ q.2.2.2.2.1.locals ∧ cl + z.2.2.2.2.1.cells ≤ q.2.2.2.2.1.cells ∧ sl + z.2.2.2.2.1.slots ≤ q.2.2.2.2.1.slots) = true) :
    oReach l Z n0 KT q (pc, ls, sk, H, cl, sl) (pc + 3, ls, v.toList ++ sk.drop z.2.2.2.2.2, H', cl + z.2.2.2.2.1.cells, sl + z.2.2.2.2.1.slots) := by
  obtain ⟨z0, zb, ml, rt, rm, zn⟩ := z
  obtain ⟨g, hg, hC⟩ := oPick hm hM
  subst hv
  have hc' := of_decide_eq_true hc
  dsimp only at hc' hg ⊢
  exact oReach.one (callf := g) hw hK hC hops hf (by simp only [oStep, oStep1, oStep2, oStep3, if_neg hp, hm, if_pos hc', hg])
theorem oReach.mI (hw : ∀ d ∈ ws, d.before a0 Z = true) (hK : KT.all (oKOk ws) = true) (hops : ops.all (oOpOk ws KT CT MT q.1 q.2.1) = true) {j k p1 p2 : Nat} {z : oMt} {vs r : List Value} {v : Option Value} {H' : List oObj}
    (hM : oMet l Z n0 KT z (.ref k :: vs) H v H') (hf : oFetch ops pc = some (.invokespecial j, p1, p2)) (hp : ¬ p2 = 1) (hm : MT[p1]? = some z) (hd : sk.drop z.2.2.2.2.2 = .ref k :: r) (hv : (sk.take z.2.2.2.2.2).reverse = vs)
    (hc : decide (ls.size = q.2.2.1 ∧ z.2.2.2.2.1.frames + 1 ≤ q.2.2.2.2.1.frames ∧ oCatS r + (z.2.2.1 + 11) + z.2.2.2.2.1.locals ≤ q.2.2.2.2.1.locals ∧ cl + z.2.2.2.2.1.cells ≤ q.2.2.2.2.1.cells ∧ sl + z.2.2.2.2.1.slots ≤ q.2.2.2.2.1.slots) = true) :
    oReach l Z n0 KT q (pc, ls, sk, H, cl, sl) (pc + 3, ls, v.toList ++ r, H', cl + z.2.2.2.2.1.cells, sl + z.2.2.2.2.1.slots) := by
  obtain ⟨z0, zb, ml, rt, rm, zn⟩ := z
  obtain ⟨g, hg, hC⟩ := oPick hm hM
  subst hv
  have hc' := of_decide_eq_true hc
  dsimp only at hc' hg hd ⊢
  exact oReach.one (callf := g) hw hK hC hops hf (by simp only [oStep, oStep1, oStep2, oStep3, if_neg hp, hm, hd, if_pos hc', hg])
theorem oReach.mV (hw : ∀ d ∈ ws, d.before a0 Z = true) (hK : KT.all (oKOk ws) = true) (hops : ops.all (oOpOk ws KT CT MT q.1 q.2.1) = true) {j k c p1 p2 : Nat} {z : oMt} {vs r us : List Value} {v : Option Value} {H' : List oObj}
    (hM : oMet l Z n0 KT z (.ref k :: vs) H v H') (hf : oFetch ops pc = some (.invokevirtual j, p1, p2)) (hm : MT[p1]? = some z) (hd : sk.drop z.2.2.2.2.2 = .ref k :: r) (hH : H[k]? = some (.inl (c, us))) (hv : (sk.take z.2.2.2.2.2).reverse = vs)
    (hc : decide (c = p2 ∧ ls.size = q.2.2.1 ∧ z.2.2.2.2.1.frames + 1 ≤ q.2.2.2.2.1.frames ∧ oCatS r + (z.2.2.1 + 11) + z.2.2.2.2.1.locals ≤ q.2.2.2.2.1.locals ∧ cl + z.2.2.2.2.1.cells ≤ q.2.2.2.2.1.cells ∧ sl + z.2.2.2.2.1.slots ≤ q.2.2.2.2.1.slots) = true) :
    oReach l Z n0 KT q (pc, ls, sk, H, cl, sl) (pc + 3, ls, v.toList ++ r, H', cl + z.2.2.2.2.1.cells, sl + z.2.2.2.2.1.slots) := by
  obtain ⟨z0, zb, ml, rt, rm, zn⟩ := z
  obtain ⟨g, hg, hC⟩ := oPick hm hM
  subst hv
  have hc' := of_decide_eq_true hc
  dsimp only at hc' hg hd ⊢
  exact oReach.one (callf := g) hw hK hC hops hf (by simp only [oStep, oStep1, oStep2, oStep3, hm, hd, hH, if_pos hc', hg])
end Calls
/-! what a branch's condition says of numbers -/
def oRel : ClassFile.Cond → Int → Int → Prop
  | .eq, a, b => a = b
  | .ne, a, b => a ≠ b
  | .lt, a, b => a < b
  | .ge, a, b => b ≤ a
  | .gt, a, b => b < a
  | .le, a, b => a ≤ b
theorem oRel_iff (cd : ClassFile.Cond) (x y : Int32) : if_icmp.holds cd x y = true ↔ oRel cd x.toInt y.toInt := by
  cases cd <;> simp only [if_icmp.holds, oRel, beq_iff_eq, bne_iff_ne, ne_eq, decide_eq_true_eq, Int32.toInt_inj, Int32.lt_iff_toInt_lt, Int32.le_iff_toInt_le, GE.ge, GT.gt]
theorem oI_t {cd : ClassFile.Cond} {x y : Int32} {a b : Int} (hx : x.toInt = a) (hy : y.toInt = b) (h : if_icmp.holds cd x y = true) : oRel cd a b := by subst hx hy; exact (oRel_iff cd x y).mp h
theorem oI_f {cd : ClassFile.Cond} {x y : Int32} {a b : Int} (hx : x.toInt = a) (hy : y.toInt = b) (h : ¬ if_icmp.holds cd x y = true) : ¬ oRel cd a b := by subst hx hy; exact fun q => h ((oRel_iff cd x y).mpr q)
theorem oC_t {cd : ClassFile.Cond} {x : Int32} {a : Int} (hx : x.toInt = a) (h : ifCond.holds cd x = true) : oRel cd a 0 := oI_t (y := 0) hx rfl ((if0 cd x) ▸ h)
theorem oC_f {cd : ClassFile.Cond} {x : Int32} {a : Int} (hx : x.toInt = a) (h : ¬ ifCond.holds cd x = true) : ¬ oRel cd a 0 := oI_f (y := 0) hx rfl ((if0 cd x) ▸ h)
theorem oSelfT {cd : ClassFile.Cond} (x : Int32) (h : oRel cd 0 0 := by first | rfl | exact Int.le_refl _) : if_icmp.holds cd x x = true := (oRel_iff cd x x).mpr (by cases cd <;> simp [oRel] at h ⊢)
theorem oSelfF {cd : ClassFile.Cond} (x : Int32) (h : ¬ oRel cd 0 0 := by simp [oRel]) : ¬ if_icmp.holds cd x x = true := fun q => by
  have := (oRel_iff cd x x).mp q
  cases cd <;> simp [oRel] at h this
/-! A9. the end of a law by evaluation: what is left is closed -/
def oRes (q : oMt) (ops : List oOp) : Option oSt → Bool
  | some st => (match oRet q ops st with
    | some (some (.int v), _) => decide (v = 1)
    | _ => false)
  | none => false
theorem oLaw_of_res0 {l : Launch} {Z : State} {a0 : Array Value} {n0 : Nat} {ws : List Jvm.Cond} {KT : List oKl} {CT : List Value} {MT : List oMt} {callf : oCf} {q : oMt} {ops : List oOp} (hw : ∀ d ∈ ws, d.before a0 Z = true) (hK : KT.all (oKOk ws) = true) (hC : ∀ (k : Nat) (q : oMt), MT[k]? = some q → oCallOk l Z n0 KT q (callf k))
    (hpn : plainFor q.1 = true) (hops : ops.all (oOpOk ws KT CT MT q.1 q.2.1) = true) {n : Nat} {st : oSt} {vs : List Value} {H : List oObj} (hR : oReach l Z n0 KT q (0, argsToLocals vs.toArray q.2.2.1, [], H, 0, 0) st)
    (h : oRes q ops (oRun KT CT MT callf q.2.2.2.2.1 q.2.2.1 ops n st) = true) : ∃ H', oMet l Z n0 KT q vs H (some (.int 1)) H' := by
  cases hr : oRun KT CT MT callf q.2.2.2.2.1 q.2.2.1 ops n st with
  | none => rw [hr] at h; cases h
  | some st' =>
    rw [hr] at h
    simp only [oRes] at h
    split at h
    · rename_i v H' he
      have hv := of_decide_eq_true h
      subst hv
      exact ⟨H', oMet_of_reach0 hpn hops (hR.trans (oReach.run hw hK hC hops hr)) he⟩
    · cases h
/-! what local variables a call begins with, as a list -/
def oEnt : List Value → List Slot
  | [] => []
  | v :: r => match v.category with
    | 2 => .val v :: .second :: oEnt r
    | _ => .val v :: oEnt r
theorem oEnt_fold : ∀ (vs : List Value) (l : Array Slot), vs.foldl (fun acc v => if v.category = 2 then (acc.push (.val v)).push .second else acc.push (.val v)) l = (l.toList ++ oEnt vs).toArray
  | [], l => by simp [oEnt]
  | v :: vs, l => by
    rw [List.foldl_cons, oEnt_fold vs]
    cases v <;> simp [oEnt, Value.category]
theorem oEnt_eq (vs : List Value) (n : Nat) {L : List Slot} (h : oEnt vs ++ List.replicate (n - (oEnt vs).length) .unset = L) : argsToLocals vs.toArray n = L.toArray := by
  subst h
  unfold argsToLocals
  rw [List.foldl_toArray]
  dsimp only
  rw [oEnt_fold]
  simp
theorem oMet_of_reach {l : Launch} {Z : State} {n0 : Nat} {ws : List Jvm.Cond} {KT : List oKl} {CT : List Value} {MT : List oMt} {q : oMt} {ops : List oOp} {st' : oSt} {L : List Slot} (hpn : plainFor q.1 = true) (hops : ops.all (oOpOk ws KT CT MT q.1 q.2.1) = true) {vs : List Value} {H H' : List oObj} {r : Option Value}
    (hR : oReach l Z n0 KT q (0, L.toArray, [], H, 0, 0) st') (hret : oRet q ops st' = some (r, H')) (he : oEnt vs ++ List.replicate (q.2.2.1 - (oEnt vs).length) .unset = L := by rfl) : oMet l Z n0 KT q vs H r H' := by
  rw [← oEnt_eq vs q.2.2.1 he] at hR
  exact oMet_of_reach0 hpn hops hR hret
theorem oLaw_of_res {l : Launch} {Z : State} {a0 : Array Value} {n0 : Nat} {ws : List Jvm.Cond} {KT : List oKl} {CT : List Value} {MT : List oMt} {callf : oCf} {q : oMt} {ops : List oOp} {L : List Slot} (hw : ∀ d ∈ ws, d.before a0 Z = true) (hK : KT.all (oKOk ws) = true) (hC : ∀ (k : Nat) (q : oMt), MT[k]? = some q → oCallOk l Z n0 KT q (callf k))
    (hpn : plainFor q.1 = true) (hops : ops.all (oOpOk ws KT CT MT q.1 q.2.1) = true) {n : Nat} {st : oSt} {vs : List Value} {H : List oObj} (hR : oReach l Z n0 KT q (0, L.toArray, [], H, 0, 0) st)
    (h : oRes q ops (oRun KT CT MT callf q.2.2.2.2.1 q.2.2.1 ops n st) = true) (he : oEnt vs ++ List.replicate (q.2.2.1 - (oEnt vs).length) .unset = L := by rfl) : ∃ H', oMet l Z n0 KT q vs H (some (.int 1)) H' := by
  rw [← oEnt_eq vs q.2.2.1 he] at hR
  exact oLaw_of_res0 hw hK hC hpn hops hR h
theorem oMask (x m : Int32) (k : Nat) (hm : 0 ≤ m.toInt) (hk : m.toInt < k) : ∃ a : Fin k, x &&& m = Int32.ofNat a.val := by
  have h := c_and x m hm
  have h2 := Int32.toInt_lt m
  refine ⟨⟨(x &&& m).toInt.toNat, by omega⟩, Int32.toInt_inj.mp ?_⟩
  rw [Int32.toInt_ofNat_of_lt (by show (x &&& m).toInt.toNat < 2 ^ 31; omega)]
  show _ = ((x &&& m).toInt.toNat : Int)
  omega
/-! A11. the same machine with a quicker way to the instruction -/
abbrev oFt : Type := Nat → Option (Instr × Nat × Nat)
def oRunF (KT : List oKl) (CT : List Value) (MT : List oMt) (callf : oCf) (R : Jvm.Room) (mx : Nat) (F : oFt) : Nat → oSt → Option oSt
  | 0, st => some st
  | n + 1, st => match F st.1 with
    | none => none
    | some op => if oRetI op.1 = true then some st else match oStep KT CT MT callf R mx op st with
      | none => none
      | some st' => oRunF KT CT MT callf R mx F n st'
def oSame (F : oFt) (ops : List oOp) : Prop := ∀ (pc : Nat) (op : Instr × Nat × Nat), F pc = some op → oFetch ops pc = some op
theorem oRunF_run {KT : List oKl} {CT : List Value} {MT : List oMt} {callf : oCf} {R : Jvm.Room} {mx : Nat} {F : oFt} {ops : List oOp} (hF : oSame F ops) : ∀ (n : Nat) (st st' : oSt), oRunF KT CT MT callf R mx F n st = some st' → oRun KT CT MT callf R mx ops n st = some st'
  | 0, _, _, h => h
  | n + 1, st, st', h => by
    unfold oRunF at h
    unfold oRun
    split at h
    · cases h
    · rename_i op hop
      rw [hF _ _ hop]
      dsimp only
      split at h
      · rename_i hr
        rw [if_pos hr]
        exact h
      · rename_i hr
        rw [if_neg hr]
        split at h
        · cases h
        · rename_i st1 hs
          try rw [hs]
          exact oRunF_run hF n st1 st' h
def oRetF (q : oMt) (F : oFt) (st : oSt) : Option (Option Value × List oObj) := match F st.1 with
  | some op => oRet q [(st.1, op)] st
  | none => none
theorem oRetF_ret {q : oMt} {F : oFt} {ops : List oOp} (hF : oSame F ops) {st : oSt} {x : Option Value × List oObj} (h : oRetF q F st = some x) : oRet q ops st = some x := by
  unfold oRetF at h
  split at h
  · rename_i op hop
    obtain ⟨pc, ls, sk, H, c, s⟩ := st
    have e1 : oFetch [(pc, op)] pc = some op := by simp only [oFetch, Nat.beq_refl]
    have e2 : oFetch ops pc = some op := hF _ _ hop
    simp only [oRet, e1] at h
    simp only [oRet, e2]
    exact h
  · cases h
def oStart (q : oMt) (vs : List Value) (H : List oObj) : oSt := (0, (oEnt vs ++ List.replicate (q.2.2.1 - (oEnt vs).length) Slot.unset).toArray, [], H, 0, 0)
def oBodyF (KT : List oKl) (CT : List Value) (MT : List oMt) (callf : oCf) (q : oMt) (F : oFt) (fuel : Nat) (vs : List Value) (H : List oObj) : Option (Option Value × List oObj) :=
  match oRunF KT CT MT callf q.2.2.2.2.1 q.2.2.1 F fuel (oStart q vs H) with
  | some st => oRetF q F st
  | none => none
theorem oBodyF_ok {l : Launch} {Z : State} {a0 : Array Value} {n0 : Nat} {ws : List Jvm.Cond} {KT : List oKl} {CT : List Value} {MT : List oMt} {callf : oCf} {q : oMt} {F : oFt} {ops : List oOp} {fuel : Nat} (hF : oSame F ops) (hw : ∀ d ∈ ws, d.before a0 Z = true) (hK : KT.all (oKOk ws) = true) (hC : ∀ (k : Nat) (q : oMt), MT[k]? = some q → oCallOk l Z n0 KT q (callf k)) (hpn : plainFor q.1 = true) (hops : ops.all (oOpOk ws KT CT MT q.1 q.2.1) = true) :
    oCallOk l Z n0 KT q (oBodyF KT CT MT callf q F fuel) := fun vs H r H' h => by
  unfold oBodyF at h
  split at h
  · rename_i st hst
    exact oMet_of_reach hpn hops (oReach.run hw hK hC hops (oRunF_run hF _ _ _ hst)) (oRetF_ret hF h) rfl
  · cases h
def oResF (q : oMt) (F : oFt) : Option oSt → Bool
  | some st => (match oRetF q F st with
    | some (some (.int v), _) => decide (v = 1)
    | _ => false)
  | none => false
theorem oRes_of_resF {KT : List oKl} {CT : List Value} {MT : List oMt} {callf : oCf} {R : Jvm.Room} {mx : Nat} {q : oMt} {F : oFt} {ops : List oOp} {n : Nat} {st : oSt} (hF : oSame F ops) (h : oResF q F (oRunF KT CT MT callf R mx F n st) = true) : oRes q ops (oRun KT CT MT callf R mx ops n st) = true := by
  cases hr : oRunF KT CT MT callf R mx F n st with
  | none => rw [hr] at h; cases h
  | some st' =>
    rw [hr] at h
    rw [oRunF_run hF _ _ _ hr]
    simp only [oResF] at h
    simp only [oRes]
    split at h
    · rename_i v H' he
      rw [oRetF_ret hF he]
      exact h
    · cases h
def oUpto (F : oFt) (N : Nat) : oFt := fun pc => bif Nat.blt pc N then F pc else none
def oEqI (a b : Option (Instr × Nat × Nat)) : Bool := decide (a = b)
theorem oSame_of {F : oFt} {N : Nat} {ops : List oOp} (h : (List.range N).all (fun pc => oEqI (F pc) (oFetch ops pc)) = true) : oSame (oUpto F N) ops := fun pc op e => by
  unfold oUpto at e
  cases hb : Nat.blt pc N with
  | false => rw [hb] at e; cases e
  | true =>
    rw [hb] at e
    have hp : pc < N := by simpa [Nat.blt_eq] using hb
    have := List.all_eq_true.mp h pc (List.mem_range.mpr hp)
    rw [← of_decide_eq_true (show decide (F pc = oFetch ops pc) = true from this)]
    exact e

/-! ## PART B. this claim -/
def oKT : List oKl := []
def oCT : List Value := [.int (2147483647)]
def oM0 : oMt := (⟨"com/example/inclined_branches/inclinedbranches/TreeFirstVertexOffRootPinLaw", "entry", "(II)I"⟩, method_3_code, 2, (some .int), { frames := 0, cells := 0, slots := 0, locals := 0 }, 2)
def oM1 : oMt := (⟨"com/example/inclined_branches/inclinedbranches/TreeFirstVertexOffRootPinLaw", "make", "(IIIIII)[I"⟩, method_4_code, 6, (some (.array .int)), { frames := 0, cells := 1, slots := 5, locals := 0 }, 6)
def oM2 : oMt := (⟨"com/example/inclined_branches/inclinedbranches/TreeFirstVertexOffRootPinLaw", "step", "([II)I"⟩, method_5_code, 2, (some .int), { frames := 0, cells := 0, slots := 0, locals := 0 }, 2)
def oM3 : oMt := (⟨"com/example/inclined_branches/inclinedbranches/TreeFirstVertexOffRootPinLaw", "leads", "([II)Z"⟩, method_6_code, 3, (some .boolean), { frames := 1, cells := 0, slots := 0, locals := 13 }, 2)
def oM4 : oMt := (⟨"com/example/inclined_branches/inclinedbranches/TreeFirstVertexOffRootPinLaw", "reference", "([II)I"⟩, method_7_code, 2, (some .int), { frames := 2, cells := 0, slots := 0, locals := 27 }, 2)
def oM5 : oMt := (⟨"com/example/inclined_branches/inclinedbranches/Tree", "firstVertexOffRoot", "([I)I"⟩, prog_83_method_13_code, 7, (some .int), { frames := 0, cells := 2, slots := 10, locals := 0 }, 1)
def oMx : oMt := (x, code, maxLocals, ret, room_1, 6)
def oMT : List oMt := [oM0, oM1, oM2, oM3, oM4, oM5]
def oP0 : List oOp := [(0, .iload_n 0, 0, 0), (1, .ldc 7, 0, 0), (3, .iand, 0, 0), (4, .iload_n 1, 0, 0), (5, .iconst 1, 0, 0), (6, .iadd, 0, 0), (7, .irem, 0, 0), (8, .iconst 1, 0, 0), (9, .isub, 0, 0), (10, .ireturn, 0, 0)]
def oP1 : List oOp := [(0, .iload_n 0, 0, 0), (1, .ifCond .ne 7, 0, 0), (4, .iconst 0, 0, 0), (5, .newarray .int, 0, 0), (7, .areturn, 0, 0), (8, .iload_n 0, 0, 0), (9, .iconst 1, 0, 0), (10, .if_icmp .ne 11, 0, 0), (13, .iconst 1, 0, 0), (14, .newarray .int, 0, 0), (16, .dup, 0, 0), (17, .iconst 0, 0, 0), (18, .iload_n 1, 0, 0), (19, .iastore, 0, 0), (20, .areturn, 0, 0), (21, .iload_n 0, 0, 0), (22, .iconst 2, 0, 0), (23, .if_icmp .ne 15, 0, 0), (26, .iconst 2, 0, 0), (27, .newarray .int, 0, 0), (29, .dup, 0, 0), (30, .iconst 0, 0, 0), (31, .iload_n 1, 0, 0), (32, .iastore, 0, 0), (33, .dup, 0, 0), (34, .iconst 1, 0, 0), (35, .iload_n 2, 0, 0), (36, .iastore, 0, 0), (37, .areturn, 0, 0), (38, .iload_n 0, 0, 0), (39, .iconst 3, 0, 0), (40, .if_icmp .ne 19, 0, 0), (43, .iconst 3, 0, 0), (44, .newarray .int, 0, 0), (46, .dup, 0, 0), (47, .iconst 0, 0, 0), (48, .iload_n 1, 0, 0), (49, .iastore, 0, 0), (50, .dup, 0, 0), (51, .iconst 1, 0, 0), (52, .iload_n 2, 0, 0), (53, .iastore, 0, 0), (54, .dup, 0, 0), (55, .iconst 2, 0, 0), (56, .iload_n 3, 0, 0), (57, .iastore, 0, 0), (58, .areturn, 0, 0), (59, .iload_n 0, 0, 0), (60, .iconst 4, 0, 0), (61, .if_icmp .ne 24, 0, 0), (64, .iconst 4, 0, 0), (65, .newarray .int, 0, 0), (67, .dup, 0, 0), (68, .iconst 0, 0, 0), (69, .iload_n 1, 0, 0), (70, .iastore, 0, 0), (71, .dup, 0, 0), (72, .iconst 1, 0, 0), (73, .iload_n 2, 0, 0), (74, .iastore, 0, 0), (75, .dup, 0, 0), (76, .iconst 2, 0, 0), (77, .iload_n 3, 0, 0), (78, .iastore, 0, 0), (79, .dup, 0, 0), (80, .iconst 3, 0, 0), (81, .iload 4, 0, 0), (83, .iastore, 0, 0), (84, .areturn, 0, 0), (85, .iconst 5, 0, 0), (86, .newarray .int, 0, 0), (88, .dup, 0, 0), (89, .iconst 0, 0, 0), (90, .iload_n 1, 0, 0), (91, .iastore, 0, 0), (92, .dup, 0, 0), (93, .iconst 1, 0, 0), (94, .iload_n 2, 0, 0), (95, .iastore, 0, 0), (96, .dup, 0, 0), (97, .iconst 2, 0, 0), (98, .iload_n 3, 0, 0), (99, .iastore, 0, 0), (100, .dup, 0, 0), (101, .iconst 3, 0, 0), (102, .iload 4, 0, 0), (104, .iastore, 0, 0), (105, .dup, 0, 0), (106, .iconst 4, 0, 0), (107, .iload 5, 0, 0), (109, .iastore, 0, 0), (110, .areturn, 0, 0)]
def oP2 : List oOp := [(0, .iload_n 1, 0, 0), (1, .ifCond .ge 7, 0, 0), (4, .iconst (-1), 0, 0), (5, .goto 6, 0, 0), (8, .aload_n 0, 0, 0), (9, .iload_n 1, 0, 0), (10, .iaload, 0, 0), (11, .ireturn, 0, 0)]
def oP3 : List oOp := [(0, .iload_n 1, 0, 0), (1, .istore_n 2, 0, 0), (2, .aload_n 0, 0, 0), (3, .iload_n 2, 0, 0), (4, .invokestatic 28, 2, 0), (7, .istore_n 2, 0, 0), (8, .aload_n 0, 0, 0), (9, .iload_n 2, 0, 0), (10, .invokestatic 28, 2, 0), (13, .istore_n 2, 0, 0), (14, .aload_n 0, 0, 0), (15, .iload_n 2, 0, 0), (16, .invokestatic 28, 2, 0), (19, .istore_n 2, 0, 0), (20, .aload_n 0, 0, 0), (21, .iload_n 2, 0, 0), (22, .invokestatic 28, 2, 0), (25, .istore_n 2, 0, 0), (26, .aload_n 0, 0, 0), (27, .iload_n 2, 0, 0), (28, .invokestatic 28, 2, 0), (31, .istore_n 2, 0, 0), (32, .iload_n 2, 0, 0), (33, .ifCond .ge 7, 0, 0), (36, .iconst 1, 0, 0), (37, .goto 4, 0, 0), (40, .iconst 0, 0, 0), (41, .ireturn, 0, 0)]
def oP4 : List oOp := [(0, .iload_n 1, 0, 0), (1, .ifCond .le 13, 0, 0), (4, .aload_n 0, 0, 0), (5, .iconst 0, 0, 0), (6, .invokestatic 31, 3, 0), (9, .ifCond .ne 5, 0, 0), (12, .iconst 0, 0, 0), (13, .ireturn, 0, 0), (14, .iload_n 1, 0, 0), (15, .iconst 1, 0, 0), (16, .if_icmp .le 13, 0, 0), (19, .aload_n 0, 0, 0), (20, .iconst 1, 0, 0), (21, .invokestatic 31, 3, 0), (24, .ifCond .ne 5, 0, 0), (27, .iconst 1, 0, 0), (28, .ireturn, 0, 0), (29, .iload_n 1, 0, 0), (30, .iconst 2, 0, 0), (31, .if_icmp .le 13, 0, 0), (34, .aload_n 0, 0, 0), (35, .iconst 2, 0, 0), (36, .invokestatic 31, 3, 0), (39, .ifCond .ne 5, 0, 0), (42, .iconst 2, 0, 0), (43, .ireturn, 0, 0), (44, .iload_n 1, 0, 0), (45, .iconst 3, 0, 0), (46, .if_icmp .le 13, 0, 0), (49, .aload_n 0, 0, 0), (50, .iconst 3, 0, 0), (51, .invokestatic 31, 3, 0), (54, .ifCond .ne 5, 0, 0), (57, .iconst 3, 0, 0), (58, .ireturn, 0, 0), (59, .iload_n 1, 0, 0), (60, .iconst 4, 0, 0), (61, .if_icmp .le 13, 0, 0), (64, .aload_n 0, 0, 0), (65, .iconst 4, 0, 0), (66, .invokestatic 31, 3, 0), (69, .ifCond .ne 5, 0, 0), (72, .iconst 4, 0, 0), (73, .ireturn, 0, 0), (74, .iconst (-1), 0, 0), (75, .ireturn, 0, 0)]
def oP5 : List oOp := [(0, .aload_n 0, 0, 0), (1, .arraylength, 0, 0), (2, .istore_n 1, 0, 0), (3, .iload_n 1, 0, 0), (4, .newarray .boolean, 0, 0), (6, .astore_n 2, 0, 0), (7, .iload_n 1, 0, 0), (8, .newarray .boolean, 0, 0), (10, .astore_n 3, 0, 0), (11, .iconst 0, 0, 0), (12, .istore 4, 0, 0), (14, .iload 4, 0, 0), (16, .iload_n 1, 0, 0), (17, .if_icmp .ge 96, 0, 0), (20, .iload 4, 0, 0), (22, .istore 5, 0, 0), (24, .iload 5, 0, 0), (26, .ifCond .lt 31, 0, 0), (29, .aload_n 2, 0, 0), (30, .iload 5, 0, 0), (32, .baload, 0, 0), (33, .ifCond .ne 24, 0, 0), (36, .aload_n 3, 0, 0), (37, .iload 5, 0, 0), (39, .baload, 0, 0), (40, .ifCond .ne 17, 0, 0), (43, .aload_n 3, 0, 0), (44, .iload 5, 0, 0), (46, .iconst 1, 0, 0), (47, .bastore, 0, 0), (48, .aload_n 0, 0, 0), (49, .iload 5, 0, 0), (51, .iaload, 0, 0), (52, .istore 5, 0, 0), (54, .goto (-30), 0, 0), (57, .iload 5, 0, 0), (59, .ifCond .lt 13, 0, 0), (62, .aload_n 2, 0, 0), (63, .iload 5, 0, 0), (65, .baload, 0, 0), (66, .ifCond .ne 6, 0, 0), (69, .iload 4, 0, 0), (71, .ireturn, 0, 0), (72, .iload 4, 0, 0), (74, .istore 6, 0, 0), (76, .iload 6, 0, 0), (78, .ifCond .lt 29, 0, 0), (81, .aload_n 3, 0, 0), (82, .iload 6, 0, 0), (84, .baload, 0, 0), (85, .ifCond .eq 22, 0, 0), (88, .aload_n 3, 0, 0), (89, .iload 6, 0, 0), (91, .iconst 0, 0, 0), (92, .bastore, 0, 0), (93, .aload_n 2, 0, 0), (94, .iload 6, 0, 0), (96, .iconst 1, 0, 0), (97, .bastore, 0, 0), (98, .aload_n 0, 0, 0), (99, .iload 6, 0, 0), (101, .iaload, 0, 0), (102, .istore 6, 0, 0), (104, .goto (-28), 0, 0), (107, .iinc 4 1, 0, 0), (110, .goto (-96), 0, 0), (113, .iconst (-1), 0, 0), (114, .ireturn, 0, 0)]
def oPx : List oOp := [(0, .iload_n 0, 0, 0), (1, .ldc 7, 0, 0), (3, .iand, 0, 0), (4, .bipush 6, 0, 0), (6, .irem, 0, 0), (7, .istore 6, 0, 0), (9, .iload 6, 0, 0), (11, .iload_n 1, 0, 0), (12, .iload 6, 0, 0), (14, .invokestatic 8, 0, 0), (17, .iload_n 2, 0, 0), (18, .iload 6, 0, 0), (20, .invokestatic 8, 0, 0), (23, .iload_n 3, 0, 0), (24, .iload 6, 0, 0), (26, .invokestatic 8, 0, 0), (29, .iload 4, 0, 0), (31, .iload 6, 0, 0), (33, .invokestatic 8, 0, 0), (36, .iload 5, 0, 0), (38, .iload 6, 0, 0), (40, .invokestatic 8, 0, 0), (43, .invokestatic 14, 1, 0), (46, .astore 7, 0, 0), (48, .aload 7, 0, 0), (50, .iload 6, 0, 0), (52, .invokestatic 18, 4, 0), (55, .istore 8, 0, 0), (57, .aload 7, 0, 0), (59, .invokestatic 22, 5, 0), (62, .istore 9, 0, 0), (64, .iload 9, 0, 0), (66, .iload 8, 0, 0), (68, .if_icmp .ne 7, 0, 0), (71, .iconst 1, 0, 0), (72, .goto 4, 0, 0), (75, .iconst 0, 0, 0), (76, .ireturn, 0, 0)]
set_option maxRecDepth 65536 in
theorem oK_ok : oKT.all (oKOk tables_1) = true := by decide +kernel
set_option maxRecDepth 65536 in
theorem ops0 : oP0.all (oOpOk tables_1 oKT oCT oMT oM0.1 oM0.2.1) = true := by decide +kernel
theorem pn0 : plainFor oM0.1 = true := plainFor_of_name (by
  show plainName "com/example/inclined_branches/inclinedbranches/TreeFirstVertexOffRootPinLaw" = true
  first | (simp [plainName, overriddenIn]; done) | decide +kernel)
set_option maxRecDepth 65536 in
theorem ops1 : oP1.all (oOpOk tables_1 oKT oCT oMT oM1.1 oM1.2.1) = true := by decide +kernel
theorem pn1 : plainFor oM1.1 = true := plainFor_of_name (by
  show plainName "com/example/inclined_branches/inclinedbranches/TreeFirstVertexOffRootPinLaw" = true
  first | (simp [plainName, overriddenIn]; done) | decide +kernel)
set_option maxRecDepth 65536 in
theorem ops2 : oP2.all (oOpOk tables_1 oKT oCT oMT oM2.1 oM2.2.1) = true := by decide +kernel
theorem pn2 : plainFor oM2.1 = true := plainFor_of_name (by
  show plainName "com/example/inclined_branches/inclinedbranches/TreeFirstVertexOffRootPinLaw" = true
  first | (simp [plainName, overriddenIn]; done) | decide +kernel)
set_option maxRecDepth 65536 in
theorem ops3 : oP3.all (oOpOk tables_1 oKT oCT oMT oM3.1 oM3.2.1) = true := by decide +kernel
theorem pn3 : plainFor oM3.1 = true := plainFor_of_name (by
  show plainName "com/example/inclined_branches/inclinedbranches/TreeFirstVertexOffRootPinLaw" = true
  first | (simp [plainName, overriddenIn]; done) | decide +kernel)
set_option maxRecDepth 65536 in
theorem ops4 : oP4.all (oOpOk tables_1 oKT oCT oMT oM4.1 oM4.2.1) = true := by decide +kernel
theorem pn4 : plainFor oM4.1 = true := plainFor_of_name (by
  show plainName "com/example/inclined_branches/inclinedbranches/TreeFirstVertexOffRootPinLaw" = true
  first | (simp [plainName, overriddenIn]; done) | decide +kernel)
set_option maxRecDepth 65536 in
theorem ops5 : oP5.all (oOpOk tables_1 oKT oCT oMT oM5.1 oM5.2.1) = true := by decide +kernel
theorem pn5 : plainFor oM5.1 = true := plainFor_of_name (by
  show plainName "com/example/inclined_branches/inclinedbranches/Tree" = true
  first | (simp [plainName, overriddenIn]; done) | decide +kernel)
set_option maxRecDepth 65536 in
theorem opsx : oPx.all (oOpOk tables_1 oKT oCT oMT oMx.1 oMx.2.1) = true := by decide +kernel
theorem pnx : plainFor oMx.1 = true := plainFor_of_name (by
  show plainName "com/example/inclined_branches/inclinedbranches/TreeFirstVertexOffRootPinLaw" = true
  first | (simp [plainName, overriddenIn]; done) | decide +kernel)
def oF4_0 (pc : Nat) : Option (Instr × Nat × Nat) := (bif Nat.beq pc 0 then some (.iload_n 1, 0, 0) else (bif Nat.beq pc 1 then some (.ifCond .le 13, 0, 0) else (bif Nat.beq pc 4 then some (.aload_n 0, 0, 0) else (bif Nat.beq pc 5 then some (.iconst 0, 0, 0) else (bif Nat.beq pc 6 then some (.invokestatic 31, 3, 0) else none)))))
def oF4_5 (pc : Nat) : Option (Instr × Nat × Nat) := (bif Nat.beq pc 9 then some (.ifCond .ne 5, 0, 0) else (bif Nat.beq pc 12 then some (.iconst 0, 0, 0) else (bif Nat.beq pc 13 then some (.ireturn, 0, 0) else none)))
def oF4_8 (pc : Nat) : Option (Instr × Nat × Nat) := (bif Nat.beq pc 14 then some (.iload_n 1, 0, 0) else (bif Nat.beq pc 15 then some (.iconst 1, 0, 0) else (bif Nat.beq pc 16 then some (.if_icmp .le 13, 0, 0) else none)))
def oF4_5_11 (pc : Nat) : Option (Instr × Nat × Nat) := bif Nat.blt pc 14 then oF4_5 pc else oF4_8 pc
def oF4_0_11 (pc : Nat) : Option (Instr × Nat × Nat) := bif Nat.blt pc 9 then oF4_0 pc else oF4_5_11 pc
def oF4_11 (pc : Nat) : Option (Instr × Nat × Nat) := (bif Nat.beq pc 19 then some (.aload_n 0, 0, 0) else (bif Nat.beq pc 20 then some (.iconst 1, 0, 0) else (bif Nat.beq pc 21 then some (.invokestatic 31, 3, 0) else none)))
def oF4_14 (pc : Nat) : Option (Instr × Nat × Nat) := (bif Nat.beq pc 24 then some (.ifCond .ne 5, 0, 0) else (bif Nat.beq pc 27 then some (.iconst 1, 0, 0) else (bif Nat.beq pc 28 then some (.ireturn, 0, 0) else none)))
def oF4_11_17 (pc : Nat) : Option (Instr × Nat × Nat) := bif Nat.blt pc 24 then oF4_11 pc else oF4_14 pc
def oF4_17 (pc : Nat) : Option (Instr × Nat × Nat) := (bif Nat.beq pc 29 then some (.iload_n 1, 0, 0) else (bif Nat.beq pc 30 then some (.iconst 2, 0, 0) else (bif Nat.beq pc 31 then some (.if_icmp .le 13, 0, 0) else none)))
def oF4_20 (pc : Nat) : Option (Instr × Nat × Nat) := (bif Nat.beq pc 34 then some (.aload_n 0, 0, 0) else (bif Nat.beq pc 35 then some (.iconst 2, 0, 0) else (bif Nat.beq pc 36 then some (.invokestatic 31, 3, 0) else none)))
def oF4_17_23 (pc : Nat) : Option (Instr × Nat × Nat) := bif Nat.blt pc 34 then oF4_17 pc else oF4_20 pc
def oF4_11_23 (pc : Nat) : Option (Instr × Nat × Nat) := bif Nat.blt pc 29 then oF4_11_17 pc else oF4_17_23 pc
def oF4_0_23 (pc : Nat) : Option (Instr × Nat × Nat) := bif Nat.blt pc 19 then oF4_0_11 pc else oF4_11_23 pc
def oF4_23 (pc : Nat) : Option (Instr × Nat × Nat) := (bif Nat.beq pc 39 then some (.ifCond .ne 5, 0, 0) else (bif Nat.beq pc 42 then some (.iconst 2, 0, 0) else (bif Nat.beq pc 43 then some (.ireturn, 0, 0) else (bif Nat.beq pc 44 then some (.iload_n 1, 0, 0) else (bif Nat.beq pc 45 then some (.iconst 3, 0, 0) else none)))))
def oF4_28 (pc : Nat) : Option (Instr × Nat × Nat) := (bif Nat.beq pc 46 then some (.if_icmp .le 13, 0, 0) else (bif Nat.beq pc 49 then some (.aload_n 0, 0, 0) else (bif Nat.beq pc 50 then some (.iconst 3, 0, 0) else none)))
def oF4_31 (pc : Nat) : Option (Instr × Nat × Nat) := (bif Nat.beq pc 51 then some (.invokestatic 31, 3, 0) else (bif Nat.beq pc 54 then some (.ifCond .ne 5, 0, 0) else (bif Nat.beq pc 57 then some (.iconst 3, 0, 0) else none)))
def oF4_28_34 (pc : Nat) : Option (Instr × Nat × Nat) := bif Nat.blt pc 51 then oF4_28 pc else oF4_31 pc
def oF4_23_34 (pc : Nat) : Option (Instr × Nat × Nat) := bif Nat.blt pc 46 then oF4_23 pc else oF4_28_34 pc
def oF4_34 (pc : Nat) : Option (Instr × Nat × Nat) := (bif Nat.beq pc 58 then some (.ireturn, 0, 0) else (bif Nat.beq pc 59 then some (.iload_n 1, 0, 0) else (bif Nat.beq pc 60 then some (.iconst 4, 0, 0) else none)))
def oF4_37 (pc : Nat) : Option (Instr × Nat × Nat) := (bif Nat.beq pc 61 then some (.if_icmp .le 13, 0, 0) else (bif Nat.beq pc 64 then some (.aload_n 0, 0, 0) else (bif Nat.beq pc 65 then some (.iconst 4, 0, 0) else none)))
def oF4_34_40 (pc : Nat) : Option (Instr × Nat × Nat) := bif Nat.blt pc 61 then oF4_34 pc else oF4_37 pc
def oF4_40 (pc : Nat) : Option (Instr × Nat × Nat) := (bif Nat.beq pc 66 then some (.invokestatic 31, 3, 0) else (bif Nat.beq pc 69 then some (.ifCond .ne 5, 0, 0) else (bif Nat.beq pc 72 then some (.iconst 4, 0, 0) else none)))
def oF4_43 (pc : Nat) : Option (Instr × Nat × Nat) := (bif Nat.beq pc 73 then some (.ireturn, 0, 0) else (bif Nat.beq pc 74 then some (.iconst (-1), 0, 0) else (bif Nat.beq pc 75 then some (.ireturn, 0, 0) else none)))
def oF4_40_46 (pc : Nat) : Option (Instr × Nat × Nat) := bif Nat.blt pc 73 then oF4_40 pc else oF4_43 pc
def oF4_34_46 (pc : Nat) : Option (Instr × Nat × Nat) := bif Nat.blt pc 66 then oF4_34_40 pc else oF4_40_46 pc
def oF4_23_46 (pc : Nat) : Option (Instr × Nat × Nat) := bif Nat.blt pc 58 then oF4_23_34 pc else oF4_34_46 pc
def oF4_0_46 (pc : Nat) : Option (Instr × Nat × Nat) := bif Nat.blt pc 39 then oF4_0_23 pc else oF4_23_46 pc
def oF4 : oFt := oUpto (fun pc => oF4_0_46 pc) 76
set_option maxRecDepth 65536 in
theorem oS4 : oSame oF4 oP4 := oSame_of (by decide +kernel)
def oFx_0 (pc : Nat) : Option (Instr × Nat × Nat) := (bif Nat.beq pc 0 then some (.iload_n 0, 0, 0) else (bif Nat.beq pc 1 then some (.ldc 7, 0, 0) else (bif Nat.beq pc 3 then some (.iand, 0, 0) else (bif Nat.beq pc 4 then some (.bipush 6, 0, 0) else none))))
def oFx_4 (pc : Nat) : Option (Instr × Nat × Nat) := (bif Nat.beq pc 6 then some (.irem, 0, 0) else (bif Nat.beq pc 7 then some (.istore 6, 0, 0) else (bif Nat.beq pc 9 then some (.iload 6, 0, 0) else (bif Nat.beq pc 11 then some (.iload_n 1, 0, 0) else (bif Nat.beq pc 12 then some (.iload 6, 0, 0) else none)))))
def oFx_0_9 (pc : Nat) : Option (Instr × Nat × Nat) := bif Nat.blt pc 6 then oFx_0 pc else oFx_4 pc
def oFx_9 (pc : Nat) : Option (Instr × Nat × Nat) := (bif Nat.beq pc 14 then some (.invokestatic 8, 0, 0) else (bif Nat.beq pc 17 then some (.iload_n 2, 0, 0) else (bif Nat.beq pc 18 then some (.iload 6, 0, 0) else (bif Nat.beq pc 20 then some (.invokestatic 8, 0, 0) else (bif Nat.beq pc 23 then some (.iload_n 3, 0, 0) else none)))))
def oFx_14 (pc : Nat) : Option (Instr × Nat × Nat) := (bif Nat.beq pc 24 then some (.iload 6, 0, 0) else (bif Nat.beq pc 26 then some (.invokestatic 8, 0, 0) else (bif Nat.beq pc 29 then some (.iload 4, 0, 0) else (bif Nat.beq pc 31 then some (.iload 6, 0, 0) else (bif Nat.beq pc 33 then some (.invokestatic 8, 0, 0) else none)))))
def oFx_9_19 (pc : Nat) : Option (Instr × Nat × Nat) := bif Nat.blt pc 24 then oFx_9 pc else oFx_14 pc
def oFx_0_19 (pc : Nat) : Option (Instr × Nat × Nat) := bif Nat.blt pc 14 then oFx_0_9 pc else oFx_9_19 pc
def oFx_19 (pc : Nat) : Option (Instr × Nat × Nat) := (bif Nat.beq pc 36 then some (.iload 5, 0, 0) else (bif Nat.beq pc 38 then some (.iload 6, 0, 0) else (bif Nat.beq pc 40 then some (.invokestatic 8, 0, 0) else (bif Nat.beq pc 43 then some (.invokestatic 14, 1, 0) else none))))
def oFx_23 (pc : Nat) : Option (Instr × Nat × Nat) := (bif Nat.beq pc 46 then some (.astore 7, 0, 0) else (bif Nat.beq pc 48 then some (.aload 7, 0, 0) else (bif Nat.beq pc 50 then some (.iload 6, 0, 0) else (bif Nat.beq pc 52 then some (.invokestatic 18, 4, 0) else (bif Nat.beq pc 55 then some (.istore 8, 0, 0) else none)))))
def oFx_19_28 (pc : Nat) : Option (Instr × Nat × Nat) := bif Nat.blt pc 46 then oFx_19 pc else oFx_23 pc
def oFx_28 (pc : Nat) : Option (Instr × Nat × Nat) := (bif Nat.beq pc 57 then some (.aload 7, 0, 0) else (bif Nat.beq pc 59 then some (.invokestatic 22, 5, 0) else (bif Nat.beq pc 62 then some (.istore 9, 0, 0) else (bif Nat.beq pc 64 then some (.iload 9, 0, 0) else (bif Nat.beq pc 66 then some (.iload 8, 0, 0) else none)))))
def oFx_33 (pc : Nat) : Option (Instr × Nat × Nat) := (bif Nat.beq pc 68 then some (.if_icmp .ne 7, 0, 0) else (bif Nat.beq pc 71 then some (.iconst 1, 0, 0) else (bif Nat.beq pc 72 then some (.goto 4, 0, 0) else (bif Nat.beq pc 75 then some (.iconst 0, 0, 0) else (bif Nat.beq pc 76 then some (.ireturn, 0, 0) else none)))))
def oFx_28_38 (pc : Nat) : Option (Instr × Nat × Nat) := bif Nat.blt pc 68 then oFx_28 pc else oFx_33 pc
def oFx_19_38 (pc : Nat) : Option (Instr × Nat × Nat) := bif Nat.blt pc 57 then oFx_19_28 pc else oFx_28_38 pc
def oFx_0_38 (pc : Nat) : Option (Instr × Nat × Nat) := bif Nat.blt pc 36 then oFx_0_19 pc else oFx_19_38 pc
def oFx : oFt := oUpto (fun pc => oFx_0_38 pc) 77
set_option maxRecDepth 65536 in
theorem oSx : oSame oFx oPx := oSame_of (by decide +kernel)
section Claim
variable {l : Launch} {Z : State} {a0 : Array Value} {n0 : Nat}
abbrev oHw (a0 : Array Value) (Z : State) : Prop := ∀ d ∈ tables_1, d.before a0 Z = true
theorem fs0 (hw : oHw a0 Z) : oFsOk l Z n0 oKT oMT [] := oFsOk.nil
def f0 : List Value → List oObj → Option (Option Value × List oObj) := oBody oKT oCT oMT (oCall []) oM0 oP0 20
theorem ok0 (hw : oHw a0 Z) : oCallOk l Z n0 oKT oM0 f0 := oBody_ok hw oK_ok (fs0 hw).call pn0 ops0
theorem fs1 (hw : oHw a0 Z) : oFsOk l Z n0 oKT oMT [f0] := (fs0 hw).snoc (fs := []) (q := oM0) rfl (ok0 hw)
def f1 : List Value → List oObj → Option (Option Value × List oObj) := oBody oKT oCT oMT (oCall [f0]) oM1 oP1 60
theorem ok1 (hw : oHw a0 Z) : oCallOk l Z n0 oKT oM1 f1 := oBody_ok hw oK_ok (fs1 hw).call pn1 ops1
theorem fs2 (hw : oHw a0 Z) : oFsOk l Z n0 oKT oMT [f0, f1] := (fs1 hw).snoc (fs := [f0]) (q := oM1) rfl (ok1 hw)
def stp (p : List Int32) (u : Int32) : Option Int32 := if u < 0 then some (-1) else p[u.toNatClampNeg]?
def f2 (vs : List Value) (H : List oObj) : Option (Option Value × List oObj) := match vs with
  | [.ref a, .int u] => (match H[a]? with
    | some (.inr (.int, p)) => (match stp p u with
      | some x => some (some (.int x), H)
      | none => none)
    | _ => none)
  | _ => none
theorem own_lt0 {u : Int32} (h : u < 0) : ifCond.holds .lt u = true := by simp only [ifCond.holds, decide_eq_true_eq]; exact h
theorem own_nlt0 {u : Int32} (h : ¬ u < 0) : ¬ ifCond.holds .lt u = true := by simp only [ifCond.holds, decide_eq_true_eq]; exact h
theorem own_ge0 {u : Int32} (h : ¬ u < 0) : ifCond.holds .ge u = true := by simp only [ifCond.holds, decide_eq_true_eq, GE.ge]; exact Int32.not_lt.mp h
theorem own_nge0 {u : Int32} (h : u < 0) : ¬ ifCond.holds .ge u = true := by simp only [ifCond.holds, decide_eq_true_eq, GE.ge]; exact Int32.not_le.mpr h
theorem own_eq0 {u : Int32} (h : u = 0) : ifCond.holds .eq u = true ∧ ¬ ifCond.holds .ne u = true := by subst h; decide
theorem own_ne0 {u : Int32} (h : ¬ u = 0) : ¬ ifCond.holds .eq u = true ∧ ifCond.holds .ne u = true := by simp only [ifCond.holds, beq_iff_eq, bne_iff_ne, ne_eq]; exact ⟨h, h⟩
set_option maxRecDepth 65536 in
set_option maxHeartbeats 40000000 in
theorem ok2 (hw : oHw a0 Z) : oCallOk l Z n0 oKT oM2 f2 := by
  intro vs H r H' h
  have hK := oK_ok
  have hC := (fs2 hw : oFsOk l Z n0 oKT oMT [f0, f1]).call
  unfold f2 at h
  split at h
  case h_2 => cases h
  rename_i a u
  split at h
  case h_2 => cases h
  rename_i p hp
  split at h
  case h_2 => cases h
  rename_i x hx
  cases h
  unfold stp at hx
  have R1 := oReach.run (l := l) (n0 := n0) (q := oM2) (CT := oCT) (MT := oMT) (callf := (oCall [f0, f1])) (ops := oP2) (n := 1) (st := (0, #[.val (.ref a), .val (.int u)], [], H, 0, 0)) (st' := (1, #[.val (.ref a), .val (.int u)], [.int u], H, 0, 0)) hw hK hC ops2 rfl
  split at hx
  · rename_i hu
    cases hx
    have R2 := R1.trans (oReach.ifN (CT := oCT) (MT := oMT) (callf := (oCall [f0, f1])) (ops := oP2) hw hK hC ops2 rfl (own_nge0 hu))
    have R3 := R2.trans (oReach.run (l := l) (n0 := n0) (q := oM2) (CT := oCT) (MT := oMT) (callf := (oCall [f0, f1])) (ops := oP2) (n := 2) (st' := (11, #[.val (.ref a), .val (.int u)], [.int (-1 : Int32)], H, 0, 0)) hw hK hC ops2 rfl)
    exact oMet_of_reach pn2 ops2 R3 rfl
  · rename_i hu
    have R2 := R1.trans (oReach.ifY (CT := oCT) (MT := oMT) (callf := (oCall [f0, f1])) (ops := oP2) (pc' := 8) hw hK hC ops2 rfl (own_ge0 hu) (by decide) (by decide))
    have R3 := R2.trans (oReach.run (l := l) (n0 := n0) (q := oM2) (CT := oCT) (MT := oMT) (callf := (oCall [f0, f1])) (ops := oP2) (n := 2) (st' := (10, #[.val (.ref a), .val (.int u)], [.int u, .ref a], H, 0, 0)) hw hK hC ops2 rfl)
    have R4 := R3.trans (oReach.iald (CT := oCT) (MT := oMT) (callf := (oCall [f0, f1])) (ops := oP2) hw hK hC ops2 rfl hp hu hx)
    exact oMet_of_reach pn2 ops2 R4 rfl
theorem fs3 (hw : oHw a0 Z) : oFsOk l Z n0 oKT oMT [f0, f1, f2] := (fs2 hw).snoc (fs := [f0, f1]) (q := oM2) rfl (ok2 hw)
def lds (p : List Int32) (v : Int32) : Option Int32 := match stp p v with
  | none => none
  | some a => match stp p a with
    | none => none
    | some b => match stp p b with
      | none => none
      | some c => match stp p c with
        | none => none
        | some d => match stp p d with
          | none => none
          | some e => some (if e < 0 then 1 else 0)
def f3 (vs : List Value) (H : List oObj) : Option (Option Value × List oObj) := match vs with
  | [.ref k, .int v] => (match H[k]? with
    | some (.inr (.int, p)) => (match lds p v with
      | some x => some (some (.int x), H)
      | none => none)
    | _ => none)
  | _ => none
theorem f2_at {H : List oObj} {k : Nat} {u x : Int32} {p : List Int32} (h1 : H[k]? = some (.inr (.int, p))) (h2 : stp p u = some x) : f2 [.ref k, .int u] H = some (some (.int x), H) := by
  simp only [f2, h1, h2]
theorem oReach.cS {l : Launch} {Z : State} {a0 : Array Value} {n0 : Nat} {ws : List Jvm.Cond} {KT : List oKl} {CT : List Value} {MT : List oMt} {callf : oCf} {q : oMt} {ops : List oOp} {pc : Nat} {ls : Array Slot} {sk : List Value} {H H' : List oObj} {cl sl j p1 : Nat} {z : MethodName} {zb : ByteArray} {ml zn : Nat} {rt : Option FieldType} {rm : Jvm.Room} {v : Option Value}
    (hw : ∀ d ∈ ws, d.before a0 Z = true) (hK : KT.all (oKOk ws) = true) (hC : ∀ (k : Nat) (q : oMt), MT[k]? = some q → oCallOk l Z n0 KT q (callf k)) (hops : ops.all (oOpOk ws KT CT MT q.1 q.2.1) = true)
    (hf : oFetch ops pc = some (.invokestatic j, p1, 0)) (hM : MT[p1]? = some (z, zb, ml, rt, rm, zn)) (hc : ls.size = q.2.2.1 ∧ zn ≤ sk.length ∧ rm.frames + 1 ≤ q.2.2.2.2.1.frames ∧ oCatS (sk.drop zn) + (ml + 11) + rm.locals ≤ q.2.2.2.2.1.locals ∧ cl + rm.cells ≤ q.2.2.2.2.1.cells ∧ sl + rm.slots ≤ q.2.2.2.2.1.slots)
    (hcall : callf p1 (sk.take zn).reverse H = some (v, H')) : oReach l Z n0 KT q (pc, ls, sk, H, cl, sl) (pc + 3, ls, v.toList ++ sk.drop zn, H', cl + rm.cells, sl + rm.slots) :=
  oReach.one (callf := callf) hw hK hC hops hf (by
    have h0 : ¬ (0 : Nat) = 2 := by decide
    simp only [oStep, oStep1, oStep2, oStep3, if_neg h0, hM, if_pos hc, hcall])
set_option maxRecDepth 65536 in
set_option maxHeartbeats 40000000 in
theorem ok3 (hw : oHw a0 Z) : oCallOk l Z n0 oKT oM3 f3 := by
  intro vs H r H' h
  have hK := oK_ok
  have hC := (fs3 hw : oFsOk l Z n0 oKT oMT [f0, f1, f2]).call
  unfold f3 at h
  split at h
  case h_2 => cases h
  rename_i k v
  split at h
  case h_2 => cases h
  rename_i p hp
  split at h
  case h_2 => cases h
  rename_i x hx
  cases h
  unfold lds at hx
  have R0 := oReach.run (l := l) (n0 := n0) (q := oM3) (CT := oCT) (MT := oMT) (callf := (oCall [f0, f1, f2])) (ops := oP3) (n := 4) (st := (0, #[.val (.ref k), .val (.int v), .unset], [], H, 0, 0)) (st' := (4, #[.val (.ref k), .val (.int v), .val (.int v)], [.int v, .ref k], H, 0, 0)) hw hK hC ops3 rfl
  split at hx
  case h_1 => cases hx
  rename_i a ha
  have R0c := R0.trans (oReach.cS (CT := oCT) (MT := oMT) (callf := (oCall [f0, f1, f2])) (ops := oP3) hw hK hC ops3 rfl rfl ⟨rfl, Nat.le_of_ble_eq_true rfl, Nat.le_of_ble_eq_true rfl, Nat.le_of_ble_eq_true rfl, Nat.le_of_ble_eq_true rfl, Nat.le_of_ble_eq_true rfl⟩ (f2_at hp ha))
  have R1 := R0c.trans (oReach.run (l := l) (n0 := n0) (q := oM3) (CT := oCT) (MT := oMT) (callf := (oCall [f0, f1, f2])) (ops := oP3) (n := 3) (st' := (10, #[.val (.ref k), .val (.int v), .val (.int a)], [.int a, .ref k], H, 0, 0)) hw hK hC ops3 rfl)
  split at hx
  case h_1 => cases hx
  rename_i b hb
  have R1c := R1.trans (oReach.cS (CT := oCT) (MT := oMT) (callf := (oCall [f0, f1, f2])) (ops := oP3) hw hK hC ops3 rfl rfl ⟨rfl, Nat.le_of_ble_eq_true rfl, Nat.le_of_ble_eq_true rfl, Nat.le_of_ble_eq_true rfl, Nat.le_of_ble_eq_true rfl, Nat.le_of_ble_eq_true rfl⟩ (f2_at hp hb))
  have R2 := R1c.trans (oReach.run (l := l) (n0 := n0) (q := oM3) (CT := oCT) (MT := oMT) (callf := (oCall [f0, f1, f2])) (ops := oP3) (n := 3) (st' := (16, #[.val (.ref k), .val (.int v), .val (.int b)], [.int b, .ref k], H, 0, 0)) hw hK hC ops3 rfl)
  split at hx
  case h_1 => cases hx
  rename_i c hc
  have R2c := R2.trans (oReach.cS (CT := oCT) (MT := oMT) (callf := (oCall [f0, f1, f2])) (ops := oP3) hw hK hC ops3 rfl rfl ⟨rfl, Nat.le_of_ble_eq_true rfl, Nat.le_of_ble_eq_true rfl, Nat.le_of_ble_eq_true rfl, Nat.le_of_ble_eq_true rfl, Nat.le_of_ble_eq_true rfl⟩ (f2_at hp hc))
  have R3 := R2c.trans (oReach.run (l := l) (n0 := n0) (q := oM3) (CT := oCT) (MT := oMT) (callf := (oCall [f0, f1, f2])) (ops := oP3) (n := 3) (st' := (22, #[.val (.ref k), .val (.int v), .val (.int c)], [.int c, .ref k], H, 0, 0)) hw hK hC ops3 rfl)
  split at hx
  case h_1 => cases hx
  rename_i d hd
  have R3c := R3.trans (oReach.cS (CT := oCT) (MT := oMT) (callf := (oCall [f0, f1, f2])) (ops := oP3) hw hK hC ops3 rfl rfl ⟨rfl, Nat.le_of_ble_eq_true rfl, Nat.le_of_ble_eq_true rfl, Nat.le_of_ble_eq_true rfl, Nat.le_of_ble_eq_true rfl, Nat.le_of_ble_eq_true rfl⟩ (f2_at hp hd))
  have R4 := R3c.trans (oReach.run (l := l) (n0 := n0) (q := oM3) (CT := oCT) (MT := oMT) (callf := (oCall [f0, f1, f2])) (ops := oP3) (n := 3) (st' := (28, #[.val (.ref k), .val (.int v), .val (.int d)], [.int d, .ref k], H, 0, 0)) hw hK hC ops3 rfl)
  split at hx
  case h_1 => cases hx
  rename_i e he
  have R4c := R4.trans (oReach.cS (CT := oCT) (MT := oMT) (callf := (oCall [f0, f1, f2])) (ops := oP3) hw hK hC ops3 rfl rfl ⟨rfl, Nat.le_of_ble_eq_true rfl, Nat.le_of_ble_eq_true rfl, Nat.le_of_ble_eq_true rfl, Nat.le_of_ble_eq_true rfl, Nat.le_of_ble_eq_true rfl⟩ (f2_at hp he))
  have R5 := R4c.trans (oReach.run (l := l) (n0 := n0) (q := oM3) (CT := oCT) (MT := oMT) (callf := (oCall [f0, f1, f2])) (ops := oP3) (n := 2) (st' := (33, #[.val (.ref k), .val (.int v), .val (.int e)], [.int e], H, 0, 0)) hw hK hC ops3 rfl)
  split at hx
  · rename_i he
    cases hx
    have R6 := R5.trans (oReach.ifN (CT := oCT) (MT := oMT) (callf := (oCall [f0, f1, f2])) (ops := oP3) hw hK hC ops3 rfl (own_nge0 he))
    have R7 := R6.trans (oReach.run (l := l) (n0 := n0) (q := oM3) (CT := oCT) (MT := oMT) (callf := (oCall [f0, f1, f2])) (ops := oP3) (n := 2) (st' := (41, #[.val (.ref k), .val (.int v), .val (.int e)], [.int (1 : Int32)], H, 0, 0)) hw hK hC ops3 rfl)
    exact oMet_of_reach pn3 ops3 R7 rfl
  · rename_i he
    cases hx
    have R6 := R5.trans (oReach.ifY (CT := oCT) (MT := oMT) (callf := (oCall [f0, f1, f2])) (ops := oP3) (pc' := 40) hw hK hC ops3 rfl (own_ge0 he) (by decide) (by decide))
    have R7 := R6.trans (oReach.run (l := l) (n0 := n0) (q := oM3) (CT := oCT) (MT := oMT) (callf := (oCall [f0, f1, f2])) (ops := oP3) (n := 1) (st' := (41, #[.val (.ref k), .val (.int v), .val (.int e)], [.int (0 : Int32)], H, 0, 0)) hw hK hC ops3 rfl)
    exact oMet_of_reach pn3 ops3 R7 rfl
theorem fs4 (hw : oHw a0 Z) : oFsOk l Z n0 oKT oMT [f0, f1, f2, f3] := (fs3 hw).snoc (fs := [f0, f1, f2]) (q := oM3) rfl (ok3 hw)
def f4 : List Value → List oObj → Option (Option Value × List oObj) := oBodyF oKT oCT oMT (oCall [f0, f1, f2, f3]) oM4 oF4 200
theorem ok4 (hw : oHw a0 Z) : oCallOk l Z n0 oKT oM4 f4 := oBodyF_ok oS4 hw oK_ok (fs4 hw).call pn4 ops4
theorem fs5 (hw : oHw a0 Z) : oFsOk l Z n0 oKT oMT [f0, f1, f2, f3, f4] := (fs4 hw).snoc (fs := [f0, f1, f2, f3]) (q := oM4) rfl (ok4 hw)
def in1 (p rch : List Int32) : Nat → List Int32 → Int32 → Option (List Int32 × Int32)
  | 0, _, _ => none
  | k + 1, onp, u =>
    if u < 0 then some (onp, u) else
    match rch[u.toNatClampNeg]? with
    | none => none
    | some x => if x = 0 then (match onp[u.toNatClampNeg]? with
        | none => none
        | some y => if y = 0 then (match p[u.toNatClampNeg]? with
            | none => none
            | some z => in1 p rch k (onp.set u.toNatClampNeg 1) z) else some (onp, u)) else some (onp, u)
def in2 (p : List Int32) : Nat → List Int32 → List Int32 → Int32 → Option (List Int32 × List Int32)
  | 0, _, _, _ => none
  | k + 1, rch, onp, u =>
    if u < 0 then some (rch, onp) else
    match onp[u.toNatClampNeg]? with
    | none => none
    | some y => if y = 0 then some (rch, onp) else (if oIn u rch.length = true then (match p[u.toNatClampNeg]? with
        | none => none
        | some z => in2 p k (rch.set u.toNatClampNeg 1) (onp.set u.toNatClampNeg 0) z) else none)
def out1 (p : List Int32) (n : Int32) : Nat → List Int32 → List Int32 → Int32 → Option (Int32 × List Int32 × List Int32)
  | 0, _, _, _ => none
  | k + 1, rch, onp, v =>
    if n ≤ v then some (-1, rch, onp) else
    match in1 p rch 7 onp v with
    | none => none
    | some (onp', u) =>
      if u < 0 then (match in2 p 7 rch onp' v with
        | none => none
        | some (rch', onp'') => out1 p n k rch' onp'' (v + 1)) else
      match rch[u.toNatClampNeg]? with
      | none => none
      | some x => if x = 0 then some (v, rch, onp') else (match in2 p 7 rch onp' v with
        | none => none
        | some (rch', onp'') => out1 p n k rch' onp'' (v + 1))
def hp3 (p rch onp : List Int32) : List oObj := [.inr (.int, p), .inr (.boolean, rch), .inr (.boolean, onp)]
def lc (n v : Int32) (su sw : Slot) : Array Slot := #[.val (.ref 0), .val (.int n), .val (.ref 1), .val (.ref 2), .val (.int v), su, sw]
theorem own_in {j : Int32} {vs : List Int32} {x : Int32} (h : ¬ j < 0) (hx : vs[j.toNatClampNeg]? = some x) : oIn j vs.length = true := by
  simp only [oIn, Bool.and_eq_true, Bool.not_eq_true', decide_eq_false_iff_not, decide_eq_true_eq]
  exact ⟨h, (List.getElem?_eq_some_iff.mp hx).1⟩
set_option maxRecDepth 65536 in
set_option maxHeartbeats 40000000 in
theorem in1_ok (hw : oHw a0 Z) (p rch : List Int32) (n v : Int32) (sw : Slot) (cl sl : Nat) : ∀ (k : Nat) (onp : List Int32) (u : Int32) (onp' : List Int32) (u' : Int32), in1 p rch k onp u = some (onp', u') → oReach l Z n0 oKT oM5 (24, lc n v (.val (.int u)) sw, [], hp3 p rch onp, cl, sl) (57, lc n v (.val (.int u')) sw, [], hp3 p rch onp', cl, sl) := by
  have hK := oK_ok
  have hC := (fs5 hw : oFsOk l Z n0 oKT oMT [f0, f1, f2, f3, f4]).call
  intro k
  induction k with
  | zero => intro onp u onp' u' h; simp only [in1] at h; cases h
  | succ k ih =>
    intro onp u onp' u' h
    simp only [in1] at h
    have R1 := oReach.run (l := l) (n0 := n0) (q := oM5) (CT := oCT) (MT := oMT) (callf := (oCall [f0, f1, f2, f3, f4])) (ops := oP5) (n := 1) (st := (24, lc n v (.val (.int u)) sw, [], hp3 p rch onp, cl, sl)) (st' := (26, lc n v (.val (.int u)) sw, [.int u], hp3 p rch onp, cl, sl)) hw hK hC ops5 rfl
    split at h
    · rename_i hu
      cases h
      exact R1.trans (oReach.ifY (CT := oCT) (MT := oMT) (callf := (oCall [f0, f1, f2, f3, f4])) (ops := oP5) (pc' := 57) hw hK hC ops5 rfl (own_lt0 hu) (by decide) (by decide))
    · rename_i hu
      have R2 := R1.trans (oReach.ifN (CT := oCT) (MT := oMT) (callf := (oCall [f0, f1, f2, f3, f4])) (ops := oP5) hw hK hC ops5 rfl (own_nlt0 hu))
      have R3 := R2.trans (oReach.run (l := l) (n0 := n0) (q := oM5) (CT := oCT) (MT := oMT) (callf := (oCall [f0, f1, f2, f3, f4])) (ops := oP5) (n := 2) (st' := (32, lc n v (.val (.int u)) sw, [.int u, .ref 1], hp3 p rch onp, cl, sl)) hw hK hC ops5 rfl)
      split at h
      · cases h
      · rename_i x hx
        have R4 := R3.trans (oReach.bald (CT := oCT) (MT := oMT) (callf := (oCall [f0, f1, f2, f3, f4])) (ops := oP5) hw hK hC ops5 rfl rfl hu hx)
        split at h
        · rename_i hx0
          have R5 := R4.trans (oReach.ifN (CT := oCT) (MT := oMT) (callf := (oCall [f0, f1, f2, f3, f4])) (ops := oP5) hw hK hC ops5 rfl (own_eq0 hx0).2)
          have R6 := R5.trans (oReach.run (l := l) (n0 := n0) (q := oM5) (CT := oCT) (MT := oMT) (callf := (oCall [f0, f1, f2, f3, f4])) (ops := oP5) (n := 2) (st' := (39, lc n v (.val (.int u)) sw, [.int u, .ref 2], hp3 p rch onp, cl, sl)) hw hK hC ops5 rfl)
          split at h
          · cases h
          · rename_i y hy
            have R7 := R6.trans (oReach.bald (CT := oCT) (MT := oMT) (callf := (oCall [f0, f1, f2, f3, f4])) (ops := oP5) hw hK hC ops5 rfl rfl hu hy)
            split at h
            · rename_i hy0
              have R8 := R7.trans (oReach.ifN (CT := oCT) (MT := oMT) (callf := (oCall [f0, f1, f2, f3, f4])) (ops := oP5) hw hK hC ops5 rfl (own_eq0 hy0).2)
              have R9 := R8.trans (oReach.run (l := l) (n0 := n0) (q := oM5) (CT := oCT) (MT := oMT) (callf := (oCall [f0, f1, f2, f3, f4])) (ops := oP5) (n := 3) (st' := (47, lc n v (.val (.int u)) sw, [.int (1 : Int32), .int u, .ref 2], hp3 p rch onp, cl, sl)) hw hK hC ops5 rfl)
              have R10 := R9.trans (oReach.bast (CT := oCT) (MT := oMT) (callf := (oCall [f0, f1, f2, f3, f4])) (ops := oP5) hw hK hC ops5 rfl rfl (own_in hu hy))
              have R11 := R10.trans (oReach.run (l := l) (n0 := n0) (q := oM5) (CT := oCT) (MT := oMT) (callf := (oCall [f0, f1, f2, f3, f4])) (ops := oP5) (n := 2) (st' := (51, lc n v (.val (.int u)) sw, [.int u, .ref 0], hp3 p rch (onp.set u.toNatClampNeg 1), cl, sl)) hw hK hC ops5 rfl)
              split at h
              · cases h
              · rename_i z hz
                have R12 := R11.trans (oReach.iald (CT := oCT) (MT := oMT) (callf := (oCall [f0, f1, f2, f3, f4])) (ops := oP5) hw hK hC ops5 rfl rfl hu hz)
                have R13 := R12.trans (oReach.run (l := l) (n0 := n0) (q := oM5) (CT := oCT) (MT := oMT) (callf := (oCall [f0, f1, f2, f3, f4])) (ops := oP5) (n := 2) (st' := (24, lc n v (.val (.int z)) sw, [], hp3 p rch (onp.set u.toNatClampNeg 1), cl, sl)) hw hK hC ops5 rfl)
                exact R13.trans (ih _ _ _ _ h)
            · rename_i hy0
              cases h
              exact R7.trans (oReach.ifY (CT := oCT) (MT := oMT) (callf := (oCall [f0, f1, f2, f3, f4])) (ops := oP5) (pc' := 57) hw hK hC ops5 rfl (own_ne0 hy0).2 (by decide) (by decide))
        · rename_i hx0
          cases h
          exact R4.trans (oReach.ifY (CT := oCT) (MT := oMT) (callf := (oCall [f0, f1, f2, f3, f4])) (ops := oP5) (pc' := 57) hw hK hC ops5 rfl (own_ne0 hx0).2 (by decide) (by decide))
set_option maxRecDepth 65536 in
set_option maxHeartbeats 40000000 in
theorem in2_ok (hw : oHw a0 Z) (p : List Int32) (n v : Int32) (su : Slot) (cl sl : Nat) : ∀ (k : Nat) (rch onp : List Int32) (w : Int32) (rch' onp' : List Int32), in2 p k rch onp w = some (rch', onp') → ∃ w', oReach l Z n0 oKT oM5 (76, lc n v su (.val (.int w)), [], hp3 p rch onp, cl, sl) (107, lc n v su (.val (.int w')), [], hp3 p rch' onp', cl, sl) := by
  have hK := oK_ok
  have hC := (fs5 hw : oFsOk l Z n0 oKT oMT [f0, f1, f2, f3, f4]).call
  intro k
  induction k with
  | zero => intro rch onp w rch' onp' h; simp only [in2] at h; cases h
  | succ k ih =>
    intro rch onp w rch' onp' h
    simp only [in2] at h
    have R1 := oReach.run (l := l) (n0 := n0) (q := oM5) (CT := oCT) (MT := oMT) (callf := (oCall [f0, f1, f2, f3, f4])) (ops := oP5) (n := 1) (st := (76, lc n v su (.val (.int w)), [], hp3 p rch onp, cl, sl)) (st' := (78, lc n v su (.val (.int w)), [.int w], hp3 p rch onp, cl, sl)) hw hK hC ops5 rfl
    split at h
    · rename_i hu
      cases h
      exact ⟨w, R1.trans (oReach.ifY (CT := oCT) (MT := oMT) (callf := (oCall [f0, f1, f2, f3, f4])) (ops := oP5) (pc' := 107) hw hK hC ops5 rfl (own_lt0 hu) (by decide) (by decide))⟩
    · rename_i hu
      have R2 := R1.trans (oReach.ifN (CT := oCT) (MT := oMT) (callf := (oCall [f0, f1, f2, f3, f4])) (ops := oP5) hw hK hC ops5 rfl (own_nlt0 hu))
      have R3 := R2.trans (oReach.run (l := l) (n0 := n0) (q := oM5) (CT := oCT) (MT := oMT) (callf := (oCall [f0, f1, f2, f3, f4])) (ops := oP5) (n := 2) (st' := (84, lc n v su (.val (.int w)), [.int w, .ref 2], hp3 p rch onp, cl, sl)) hw hK hC ops5 rfl)
      split at h
      · cases h
      · rename_i y hy
        have R4 := R3.trans (oReach.bald (CT := oCT) (MT := oMT) (callf := (oCall [f0, f1, f2, f3, f4])) (ops := oP5) hw hK hC ops5 rfl rfl hu hy)
        split at h
        · rename_i hy0
          cases h
          exact ⟨w, R4.trans (oReach.ifY (CT := oCT) (MT := oMT) (callf := (oCall [f0, f1, f2, f3, f4])) (ops := oP5) (pc' := 107) hw hK hC ops5 rfl (own_eq0 hy0).1 (by decide) (by decide))⟩
        · rename_i hy0
          have R5 := R4.trans (oReach.ifN (CT := oCT) (MT := oMT) (callf := (oCall [f0, f1, f2, f3, f4])) (ops := oP5) hw hK hC ops5 rfl (own_ne0 hy0).1)
          split at h
          · rename_i hin
            have R6 := R5.trans (oReach.run (l := l) (n0 := n0) (q := oM5) (CT := oCT) (MT := oMT) (callf := (oCall [f0, f1, f2, f3, f4])) (ops := oP5) (n := 3) (st' := (92, lc n v su (.val (.int w)), [.int (0 : Int32), .int w, .ref 2], hp3 p rch onp, cl, sl)) hw hK hC ops5 rfl)
            have R7 := R6.trans (oReach.bast (CT := oCT) (MT := oMT) (callf := (oCall [f0, f1, f2, f3, f4])) (ops := oP5) hw hK hC ops5 rfl rfl (own_in hu hy))
            have R8 := R7.trans (oReach.run (l := l) (n0 := n0) (q := oM5) (CT := oCT) (MT := oMT) (callf := (oCall [f0, f1, f2, f3, f4])) (ops := oP5) (n := 3) (st' := (97, lc n v su (.val (.int w)), [.int (1 : Int32), .int w, .ref 1], hp3 p rch (onp.set w.toNatClampNeg 0), cl, sl)) hw hK hC ops5 rfl)
            have R9 := R8.trans (oReach.bast (CT := oCT) (MT := oMT) (callf := (oCall [f0, f1, f2, f3, f4])) (ops := oP5) hw hK hC ops5 rfl rfl hin)
            have R10 := R9.trans (oReach.run (l := l) (n0 := n0) (q := oM5) (CT := oCT) (MT := oMT) (callf := (oCall [f0, f1, f2, f3, f4])) (ops := oP5) (n := 2) (st' := (101, lc n v su (.val (.int w)), [.int w, .ref 0], hp3 p (rch.set w.toNatClampNeg 1) (onp.set w.toNatClampNeg 0), cl, sl)) hw hK hC ops5 rfl)
            split at h
            · cases h
            · rename_i z hz
              have R11 := R10.trans (oReach.iald (CT := oCT) (MT := oMT) (callf := (oCall [f0, f1, f2, f3, f4])) (ops := oP5) hw hK hC ops5 rfl rfl hu hz)
              have R12 := R11.trans (oReach.run (l := l) (n0 := n0) (q := oM5) (CT := oCT) (MT := oMT) (callf := (oCall [f0, f1, f2, f3, f4])) (ops := oP5) (n := 2) (st' := (76, lc n v su (.val (.int z)), [], hp3 p (rch.set w.toNatClampNeg 1) (onp.set w.toNatClampNeg 0), cl, sl)) hw hK hC ops5 rfl)
              obtain ⟨w', R13⟩ := ih _ _ _ _ _ h
              exact ⟨w', R12.trans R13⟩
          · cases h
def oOK (s : Slot) : Prop := s = .unset ∨ ∃ x, s = .val (.int x)
def fvQ (l : Launch) (Z : State) (n0 : Nat) (p : List Int32) (n : Int32) (cl sl : Nat) (st : oSt) (r : Int32) (rch onp : List Int32) : Prop := ∃ (pc : Nat) (ls : Array Slot), oReach l Z n0 oKT oM5 st (pc, ls, [.int r], hp3 p rch onp, cl, sl) ∧ (pc = 71 ∨ pc = 114)
set_option maxRecDepth 65536 in
set_option maxHeartbeats 40000000 in
theorem out_ok (hw : oHw a0 Z) (p : List Int32) (n : Int32) (cl sl : Nat) : ∀ (k : Nat) (rch onp : List Int32) (v : Int32) (su sw : Slot) (r : Int32) (rch' onp' : List Int32), oOK su → oOK sw → out1 p n k rch onp v = some (r, rch', onp') → fvQ l Z n0 p n cl sl (14, lc n v su sw, [], hp3 p rch onp, cl, sl) r rch' onp' := by
  have hK := oK_ok
  have hC := (fs5 hw : oFsOk l Z n0 oKT oMT [f0, f1, f2, f3, f4]).call
  intro k
  induction k with
  | zero => intro rch onp v su sw r rch' onp' _ _ h; simp only [out1] at h; cases h
  | succ k ih =>
    intro rch onp v su sw r rch' onp' hsu hsw h
    simp only [out1] at h
    have R1 := oReach.run (l := l) (n0 := n0) (q := oM5) (CT := oCT) (MT := oMT) (callf := (oCall [f0, f1, f2, f3, f4])) (ops := oP5) (n := 2) (st := (14, lc n v su sw, [], hp3 p rch onp, cl, sl)) (st' := (17, lc n v su sw, [.int n, .int v], hp3 p rch onp, cl, sl)) hw hK hC ops5 rfl
    split at h
    · rename_i hv
      cases h
      have c1 : if_icmp.holds .ge v n = true := by simp only [if_icmp.holds, decide_eq_true_eq, GE.ge]; exact hv
      have R2 := R1.trans (oReach.icmpY (CT := oCT) (MT := oMT) (callf := (oCall [f0, f1, f2, f3, f4])) (ops := oP5) (pc' := 113) hw hK hC ops5 rfl c1 (by decide) (by decide))
      exact ⟨114, _, R2.trans (oReach.run (l := l) (n0 := n0) (q := oM5) (CT := oCT) (MT := oMT) (callf := (oCall [f0, f1, f2, f3, f4])) (ops := oP5) (n := 1) (st' := (114, lc n v su sw, [.int (-1 : Int32)], hp3 p rch onp, cl, sl)) hw hK hC ops5 rfl), Or.inr rfl⟩
    · rename_i hv
      have c1 : ¬ if_icmp.holds .ge v n = true := by simp only [if_icmp.holds, decide_eq_true_eq, GE.ge]; exact hv
      have R2 := R1.trans (oReach.icmpN (CT := oCT) (MT := oMT) (callf := (oCall [f0, f1, f2, f3, f4])) (ops := oP5) hw hK hC ops5 rfl c1)
      have R3 : oReach l Z n0 oKT oM5 (14, lc n v su sw, [], hp3 p rch onp, cl, sl) (24, lc n v (.val (.int v)) sw, [], hp3 p rch onp, cl, sl) := by
        rcases hsu with rfl | ⟨x, rfl⟩
        · exact R2.trans (oReach.run (l := l) (n0 := n0) (q := oM5) (CT := oCT) (MT := oMT) (callf := (oCall [f0, f1, f2, f3, f4])) (ops := oP5) (n := 2) (st' := (24, lc n v (.val (.int v)) sw, [], hp3 p rch onp, cl, sl)) hw hK hC ops5 rfl)
        · exact R2.trans (oReach.run (l := l) (n0 := n0) (q := oM5) (CT := oCT) (MT := oMT) (callf := (oCall [f0, f1, f2, f3, f4])) (ops := oP5) (n := 2) (st' := (24, lc n v (.val (.int v)) sw, [], hp3 p rch onp, cl, sl)) hw hK hC ops5 rfl)
      have step2 : ∀ (onp1 : List Int32) (u : Int32), oReach l Z n0 oKT oM5 (72, lc n v (.val (.int u)) sw, [], hp3 p rch onp1, cl, sl) (76, lc n v (.val (.int u)) (.val (.int v)), [], hp3 p rch onp1, cl, sl) := by
        intro onp1 u
        rcases hsw with rfl | ⟨x, rfl⟩
        · exact oReach.run (l := l) (n0 := n0) (q := oM5) (CT := oCT) (MT := oMT) (callf := (oCall [f0, f1, f2, f3, f4])) (ops := oP5) (n := 2) (st' := (76, lc n v (.val (.int u)) (.val (.int v)), [], hp3 p rch onp1, cl, sl)) hw hK hC ops5 rfl
        · exact oReach.run (l := l) (n0 := n0) (q := oM5) (CT := oCT) (MT := oMT) (callf := (oCall [f0, f1, f2, f3, f4])) (ops := oP5) (n := 2) (st' := (76, lc n v (.val (.int u)) (.val (.int v)), [], hp3 p rch onp1, cl, sl)) hw hK hC ops5 rfl
      have step3 : ∀ (rch1 onp1 : List Int32) (su1 sw1 : Slot), oReach l Z n0 oKT oM5 (107, lc n v su1 sw1, [], hp3 p rch1 onp1, cl, sl) (14, lc n (v + 1) su1 sw1, [], hp3 p rch1 onp1, cl, sl) := fun rch1 onp1 su1 sw1 => oReach.run (l := l) (n0 := n0) (q := oM5) (CT := oCT) (MT := oMT) (callf := (oCall [f0, f1, f2, f3, f4])) (ops := oP5) (n := 2) (st' := (14, lc n (v + 1) su1 sw1, [], hp3 p rch1 onp1, cl, sl)) hw hK hC ops5 rfl
      have go : ∀ (onp1 : List Int32) (u : Int32), oReach l Z n0 oKT oM5 (14, lc n v su sw, [], hp3 p rch onp, cl, sl) (72, lc n v (.val (.int u)) sw, [], hp3 p rch onp1, cl, sl) → ∀ (rch2 onp2 : List Int32), in2 p 7 rch onp1 v = some (rch2, onp2) → out1 p n k rch2 onp2 (v + 1) = some (r, rch', onp') → fvQ l Z n0 p n cl sl (14, lc n v su sw, [], hp3 p rch onp, cl, sl) r rch' onp' := by
        intro onp1 u Ra rch2 onp2 h2 h3
        obtain ⟨w', Rb⟩ := in2_ok (l := l) (n0 := n0) hw p n v (.val (.int u)) cl sl _ _ _ _ _ _ h2
        obtain ⟨pc, ls, Rc, hpc⟩ := ih _ _ _ _ _ _ _ _ (Or.inr ⟨u, rfl⟩) (Or.inr ⟨w', rfl⟩) h3
        exact ⟨pc, ls, (((Ra.trans (step2 onp1 u)).trans Rb).trans (step3 _ _ _ _)).trans Rc, hpc⟩
      split at h
      · cases h
      · rename_i onp1 u hin1
        have R4 := R3.trans (in1_ok hw p rch n v sw cl sl _ _ _ _ _ hin1)
        have R5 := R4.trans (oReach.run (l := l) (n0 := n0) (q := oM5) (CT := oCT) (MT := oMT) (callf := (oCall [f0, f1, f2, f3, f4])) (ops := oP5) (n := 1) (st' := (59, lc n v (.val (.int u)) sw, [.int u], hp3 p rch onp1, cl, sl)) hw hK hC ops5 rfl)
        split at h
        · rename_i hu
          have R6 := R5.trans (oReach.ifY (CT := oCT) (MT := oMT) (callf := (oCall [f0, f1, f2, f3, f4])) (ops := oP5) (pc' := 72) hw hK hC ops5 rfl (own_lt0 hu) (by decide) (by decide))
          split at h
          · cases h
          · rename_i rch2 onp2 hin2
            exact go _ _ R6 _ _ hin2 h
        · rename_i hu
          have R6 := R5.trans (oReach.ifN (CT := oCT) (MT := oMT) (callf := (oCall [f0, f1, f2, f3, f4])) (ops := oP5) hw hK hC ops5 rfl (own_nlt0 hu))
          have R7 := R6.trans (oReach.run (l := l) (n0 := n0) (q := oM5) (CT := oCT) (MT := oMT) (callf := (oCall [f0, f1, f2, f3, f4])) (ops := oP5) (n := 2) (st' := (65, lc n v (.val (.int u)) sw, [.int u, .ref 1], hp3 p rch onp1, cl, sl)) hw hK hC ops5 rfl)
          split at h
          · cases h
          · rename_i x hx
            have R8 := R7.trans (oReach.bald (CT := oCT) (MT := oMT) (callf := (oCall [f0, f1, f2, f3, f4])) (ops := oP5) hw hK hC ops5 rfl rfl hu hx)
            split at h
            · rename_i hx0
              have R9 := R8.trans (oReach.ifN (CT := oCT) (MT := oMT) (callf := (oCall [f0, f1, f2, f3, f4])) (ops := oP5) hw hK hC ops5 rfl (own_eq0 hx0).2)
              have R10 := R9.trans (oReach.run (l := l) (n0 := n0) (q := oM5) (CT := oCT) (MT := oMT) (callf := (oCall [f0, f1, f2, f3, f4])) (ops := oP5) (n := 1) (st' := (71, lc n v (.val (.int u)) sw, [.int v], hp3 p rch onp1, cl, sl)) hw hK hC ops5 rfl)
              cases h
              exact ⟨71, _, R10, Or.inl rfl⟩
            · rename_i hx0
              have R9 := R8.trans (oReach.ifY (CT := oCT) (MT := oMT) (callf := (oCall [f0, f1, f2, f3, f4])) (ops := oP5) (pc' := 72) hw hK hC ops5 rfl (own_ne0 hx0).2 (by decide) (by decide))
              split at h
              · cases h
              · rename_i rch2 onp2 hin2
                exact go _ _ R9 _ _ hin2 h
def z5 (k : Nat) : List Int32 := List.replicate k 0
def fvo (p : List Int32) : Option (Int32 × List Int32 × List Int32) := if p.length ≤ 5 then out1 p p.length.toInt32 7 (z5 p.length) (z5 p.length) 0 else none
def f5 (vs : List Value) (H : List oObj) : Option (Option Value × List oObj) := match vs, H with
  | [.ref 0], [.inr (.int, p)] => (match fvo p with
    | some (r, rch, onp) => some (some (.int r), hp3 p rch onp)
    | none => none)
  | _, _ => none
set_option maxRecDepth 65536 in
set_option maxHeartbeats 40000000 in
theorem ent5 (hw : oHw a0 Z) (p : List Int32) (hp : p.length ≤ 5) : oReach l Z n0 oKT oM5 (0, #[.val (.ref 0), .unset, .unset, .unset, .unset, .unset, .unset], [], [.inr (.int, p)], 0, 0) (14, lc p.length.toInt32 0 .unset .unset, [], hp3 p (z5 p.length) (z5 p.length), 2, p.length + p.length) := by
  have hK := oK_ok
  have hC := (fs5 hw : oFsOk l Z n0 oKT oMT [f0, f1, f2, f3, f4]).call
  match p, hp with
  | [], _ => exact oReach.run (l := l) (n0 := n0) (q := oM5) (CT := oCT) (MT := oMT) (callf := (oCall [f0, f1, f2, f3, f4])) (ops := oP5) (n := 11) (st' := (14, lc ([] : List Int32).length.toInt32 0 .unset .unset, [], hp3 [] (z5 ([] : List Int32).length) (z5 ([] : List Int32).length), 2, ([] : List Int32).length + ([] : List Int32).length)) hw hK hC ops5 rfl
  | [a0], _ => exact oReach.run (l := l) (n0 := n0) (q := oM5) (CT := oCT) (MT := oMT) (callf := (oCall [f0, f1, f2, f3, f4])) (ops := oP5) (n := 11) (st' := (14, lc ([a0] : List Int32).length.toInt32 0 .unset .unset, [], hp3 [a0] (z5 ([a0] : List Int32).length) (z5 ([a0] : List Int32).length), 2, ([a0] : List Int32).length + ([a0] : List Int32).length)) hw hK hC ops5 rfl
  | [a0, a1], _ => exact oReach.run (l := l) (n0 := n0) (q := oM5) (CT := oCT) (MT := oMT) (callf := (oCall [f0, f1, f2, f3, f4])) (ops := oP5) (n := 11) (st' := (14, lc ([a0, a1] : List Int32).length.toInt32 0 .unset .unset, [], hp3 [a0, a1] (z5 ([a0, a1] : List Int32).length) (z5 ([a0, a1] : List Int32).length), 2, ([a0, a1] : List Int32).length + ([a0, a1] : List Int32).length)) hw hK hC ops5 rfl
  | [a0, a1, a2], _ => exact oReach.run (l := l) (n0 := n0) (q := oM5) (CT := oCT) (MT := oMT) (callf := (oCall [f0, f1, f2, f3, f4])) (ops := oP5) (n := 11) (st' := (14, lc ([a0, a1, a2] : List Int32).length.toInt32 0 .unset .unset, [], hp3 [a0, a1, a2] (z5 ([a0, a1, a2] : List Int32).length) (z5 ([a0, a1, a2] : List Int32).length), 2, ([a0, a1, a2] : List Int32).length + ([a0, a1, a2] : List Int32).length)) hw hK hC ops5 rfl
  | [a0, a1, a2, a3], _ => exact oReach.run (l := l) (n0 := n0) (q := oM5) (CT := oCT) (MT := oMT) (callf := (oCall [f0, f1, f2, f3, f4])) (ops := oP5) (n := 11) (st' := (14, lc ([a0, a1, a2, a3] : List Int32).length.toInt32 0 .unset .unset, [], hp3 [a0, a1, a2, a3] (z5 ([a0, a1, a2, a3] : List Int32).length) (z5 ([a0, a1, a2, a3] : List Int32).length), 2, ([a0, a1, a2, a3] : List Int32).length + ([a0, a1, a2, a3] : List Int32).length)) hw hK hC ops5 rfl
  | [a0, a1, a2, a3, a4], _ => exact oReach.run (l := l) (n0 := n0) (q := oM5) (CT := oCT) (MT := oMT) (callf := (oCall [f0, f1, f2, f3, f4])) (ops := oP5) (n := 11) (st' := (14, lc ([a0, a1, a2, a3, a4] : List Int32).length.toInt32 0 .unset .unset, [], hp3 [a0, a1, a2, a3, a4] (z5 ([a0, a1, a2, a3, a4] : List Int32).length) (z5 ([a0, a1, a2, a3, a4] : List Int32).length), 2, ([a0, a1, a2, a3, a4] : List Int32).length + ([a0, a1, a2, a3, a4] : List Int32).length)) hw hK hC ops5 rfl
  | _ :: _ :: _ :: _ :: _ :: _ :: _, h => exact absurd h (by simp)
set_option maxRecDepth 65536 in
set_option maxHeartbeats 40000000 in
theorem ok5 (hw : oHw a0 Z) : oCallOk l Z n0 oKT oM5 f5 := by
  intro vs H r H' h
  unfold f5 at h
  split at h
  case h_2 => cases h
  rename_i p
  split at h
  case h_2 => cases h
  rename_i x rch onp hx
  cases h
  unfold fvo at hx
  split at hx
  case isFalse => cases hx
  rename_i hlen
  obtain ⟨pc, ls, R2, hpc⟩ := out_ok (l := l) (n0 := n0) hw p p.length.toInt32 2 (p.length + p.length) _ _ _ _ .unset .unset _ _ _ (Or.inl rfl) (Or.inl rfl) hx
  have hr : ∀ pc, pc = 71 ∨ pc = 114 → oRet oM5 oP5 (pc, ls, [.int x], hp3 p rch onp, 2, p.length + p.length) = some (some (.int x), hp3 p rch onp) := by
    have hc : (2 ≤ oM5.2.2.2.2.1.cells ∧ p.length + p.length ≤ oM5.2.2.2.2.1.slots) := ⟨by decide, by show p.length + p.length ≤ 10; omega⟩
    have hn : oIntT oM5.2.2.2.1 = true ∧ oNar oM5.2.2.2.1 (.int x) = true := ⟨rfl, rfl⟩
    rintro pc (rfl | rfl)
    · simp only [oRet, if_pos hc, show oFetch oP5 71 = some (.ireturn, 0, 0) from rfl, if_pos hn]
    · simp only [oRet, if_pos hc, show oFetch oP5 114 = some (.ireturn, 0, 0) from rfl, if_pos hn]
  exact oMet_of_reach pn5 ops5 ((ent5 hw p hlen).trans R2) (hr pc hpc)
theorem fs6 (hw : oHw a0 Z) : oFsOk l Z n0 oKT oMT [f0, f1, f2, f3, f4, f5] := (fs5 hw).snoc (fs := [f0, f1, f2, f3, f4]) (q := oM5) rfl (ok5 hw)
set_option maxRecDepth 65536 in
set_option maxHeartbeats 4000000 in
theorem met0 (hw : oHw a0 Z) (ai0 : Int32) : oMet l Z n0 oKT oM0 [.int ai0, .int (0 : Int32)] [] (some (.int (((ai0 &&& (2147483647 : Int32)) % (1 : Int32)) - (1 : Int32)))) [] := by
  have hK := oK_ok
  have hC := (fs6 hw : oFsOk l Z n0 oKT oMT [f0, f1, f2, f3, f4, f5]).call
  have R1 := oReach.run (l := l) (n0 := n0) (q := oM0) (CT := oCT) (MT := oMT) (callf := (oCall [f0, f1, f2, f3, f4, f5])) (ops := oP0) (n := 5) (st := (0, #[.val (.int ai0), .val (.int (0 : Int32))], [], [], 0, 0)) (st' := (6, #[.val (.int ai0), .val (.int (0 : Int32))], [.int (1 : Int32), .int (0 : Int32), .int (ai0 &&& (2147483647 : Int32))], [], 0, 0)) hw hK hC ops0 rfl
  have R2 := R1.trans (oReach.run (l := l) (n0 := n0) (q := oM0) (CT := oCT) (MT := oMT) (callf := (oCall [f0, f1, f2, f3, f4, f5])) (ops := oP0) (n := 4) (st' := (10, #[.val (.int ai0), .val (.int (0 : Int32))], [.int (((ai0 &&& (2147483647 : Int32)) % (1 : Int32)) - (1 : Int32))], [], 0, 0)) hw hK hC ops0 rfl)
  exact oMet_of_reach pn0 ops0 R2 rfl
set_option maxRecDepth 65536 in
set_option maxHeartbeats 4000000 in
theorem met1 (hw : oHw a0 Z) (ai0 : Int32) (ai1 : Int32) (ai2 : Int32) (ai3 : Int32) (ai4 : Int32) : oMet l Z n0 oKT oM1 [.int (0 : Int32), .int ai0, .int ai1, .int ai2, .int ai3, .int ai4] [] (some (.ref 0)) [.inr (.int, [])] := by
  have hK := oK_ok
  have hC := (fs6 hw : oFsOk l Z n0 oKT oMT [f0, f1, f2, f3, f4, f5]).call
  have R1 := oReach.run (l := l) (n0 := n0) (q := oM1) (CT := oCT) (MT := oMT) (callf := (oCall [f0, f1, f2, f3, f4, f5])) (ops := oP1) (n := 4) (st := (0, #[.val (.int (0 : Int32)), .val (.int ai0), .val (.int ai1), .val (.int ai2), .val (.int ai3), .val (.int ai4)], [], [], 0, 0)) (st' := (7, #[.val (.int (0 : Int32)), .val (.int ai0), .val (.int ai1), .val (.int ai2), .val (.int ai3), .val (.int ai4)], [.ref 0], [.inr (.int, [])], 1, 0)) hw hK hC ops1 rfl
  exact oMet_of_reach pn1 ops1 R1 rfl
def own_L0 : List Int32 := [(-1 : Int32)]
theorem own_m0 (x : Int32) : ((x &&& (2147483647 : Int32)) % (1 : Int32)) - (1 : Int32) ∈ own_L0 := by
  have q1 := c_and x (2147483647 : Int32) (by decide)
  have q2 := (c_irem (x &&& (2147483647 : Int32)) (1 : Int32) 1 rfl).1 q1.1
  have q3 := c_isub ((x &&& (2147483647 : Int32)) % (1 : Int32)) (1 : Int32)
  have q4 := rng32 (((x &&& (2147483647 : Int32)) % (1 : Int32)) - (1 : Int32))
  generalize ((x &&& (2147483647 : Int32)) % (1 : Int32)) - (1 : Int32) = y at q3 q4 ⊢
  have e1 : (-1 : Int32).toInt = -1 := by decide
  simp only [own_L0, List.mem_cons, List.not_mem_nil, or_false, ← Int32.toInt_inj, Int32.reduceToInt, e1] at q3 ⊢
  omega
def chk0 : Bool := oResF oMx oFx (oRunF oKT oCT oMT (oCall [f0, f1, f2, f3, f4, f5]) oMx.2.2.2.2.1 oMx.2.2.1 oFx 60 (48, #[.val (.retAddr 0), .val (.retAddr 0), .val (.retAddr 0), .val (.retAddr 0), .val (.retAddr 0), .val (.retAddr 0), .val (.int (0 : Int32)), .val (.ref 0), .unset, .unset], [], [.inr (.int, [])], 1, 5))
set_option maxRecDepth 65536 in
set_option maxHeartbeats 40000000 in
theorem all0 : chk0 = true := by decide +kernel
theorem kern0  : oRes oMx oPx (oRun oKT oCT oMT (oCall [f0, f1, f2, f3, f4, f5]) oMx.2.2.2.2.1 oMx.2.2.1 oPx 60 (48, #[.val (.retAddr 0), .val (.retAddr 0), .val (.retAddr 0), .val (.retAddr 0), .val (.retAddr 0), .val (.retAddr 0), .val (.int (0 : Int32)), .val (.ref 0), .unset, .unset], [], [.inr (.int, [])], 1, 5)) = true := oRes_of_resF oSx (all0)
set_option maxRecDepth 65536 in
set_option maxHeartbeats 4000000 in
theorem met2 (hw : oHw a0 Z) (ai0 : Int32) : oMet l Z n0 oKT oM0 [.int ai0, .int (1 : Int32)] [] (some (.int (((ai0 &&& (2147483647 : Int32)) % (2 : Int32)) - (1 : Int32)))) [] := by
  have hK := oK_ok
  have hC := (fs6 hw : oFsOk l Z n0 oKT oMT [f0, f1, f2, f3, f4, f5]).call
  have R1 := oReach.run (l := l) (n0 := n0) (q := oM0) (CT := oCT) (MT := oMT) (callf := (oCall [f0, f1, f2, f3, f4, f5])) (ops := oP0) (n := 5) (st := (0, #[.val (.int ai0), .val (.int (1 : Int32))], [], [], 0, 0)) (st' := (6, #[.val (.int ai0), .val (.int (1 : Int32))], [.int (1 : Int32), .int (1 : Int32), .int (ai0 &&& (2147483647 : Int32))], [], 0, 0)) hw hK hC ops0 rfl
  have R2 := R1.trans (oReach.run (l := l) (n0 := n0) (q := oM0) (CT := oCT) (MT := oMT) (callf := (oCall [f0, f1, f2, f3, f4, f5])) (ops := oP0) (n := 4) (st' := (10, #[.val (.int ai0), .val (.int (1 : Int32))], [.int (((ai0 &&& (2147483647 : Int32)) % (2 : Int32)) - (1 : Int32))], [], 0, 0)) hw hK hC ops0 rfl)
  exact oMet_of_reach pn0 ops0 R2 rfl
set_option maxRecDepth 65536 in
set_option maxHeartbeats 4000000 in
theorem met3 (hw : oHw a0 Z) (ai0 : Int32) (ai1 : Int32) (ai2 : Int32) (ai3 : Int32) (ai4 : Int32) : oMet l Z n0 oKT oM1 [.int (1 : Int32), .int ai0, .int ai1, .int ai2, .int ai3, .int ai4] [] (some (.ref 0)) [.inr (.int, [ai0])] := by
  have hK := oK_ok
  have hC := (fs6 hw : oFsOk l Z n0 oKT oMT [f0, f1, f2, f3, f4, f5]).call
  have R1 := oReach.run (l := l) (n0 := n0) (q := oM1) (CT := oCT) (MT := oMT) (callf := (oCall [f0, f1, f2, f3, f4, f5])) (ops := oP1) (n := 5) (st := (0, #[.val (.int (1 : Int32)), .val (.int ai0), .val (.int ai1), .val (.int ai2), .val (.int ai3), .val (.int ai4)], [], [], 0, 0)) (st' := (13, #[.val (.int (1 : Int32)), .val (.int ai0), .val (.int ai1), .val (.int ai2), .val (.int ai3), .val (.int ai4)], [], [], 0, 0)) hw hK hC ops1 rfl
  have R2 := R1.trans (oReach.run (l := l) (n0 := n0) (q := oM1) (CT := oCT) (MT := oMT) (callf := (oCall [f0, f1, f2, f3, f4, f5])) (ops := oP1) (n := 5) (st' := (19, #[.val (.int (1 : Int32)), .val (.int ai0), .val (.int ai1), .val (.int ai2), .val (.int ai3), .val (.int ai4)], [.int ai0, .int (0 : Int32), .ref 0, .ref 0], [.inr (.int, [(0 : Int32)])], 1, 1)) hw hK hC ops1 rfl)
  have R3 := R2.trans (oReach.run (l := l) (n0 := n0) (q := oM1) (CT := oCT) (MT := oMT) (callf := (oCall [f0, f1, f2, f3, f4, f5])) (ops := oP1) (n := 1) (st' := (20, #[.val (.int (1 : Int32)), .val (.int ai0), .val (.int ai1), .val (.int ai2), .val (.int ai3), .val (.int ai4)], [.ref 0], [.inr (.int, [ai0])], 1, 1)) hw hK hC ops1 rfl)
  exact oMet_of_reach pn1 ops1 R3 rfl
def own_L1 : List Int32 := [(-1 : Int32), (0 : Int32)]
theorem own_m1 (x : Int32) : ((x &&& (2147483647 : Int32)) % (2 : Int32)) - (1 : Int32) ∈ own_L1 := by
  have q1 := c_and x (2147483647 : Int32) (by decide)
  have q2 := (c_irem (x &&& (2147483647 : Int32)) (2 : Int32) 2 rfl).1 q1.1
  have q3 := c_isub ((x &&& (2147483647 : Int32)) % (2 : Int32)) (1 : Int32)
  have q4 := rng32 (((x &&& (2147483647 : Int32)) % (2 : Int32)) - (1 : Int32))
  generalize ((x &&& (2147483647 : Int32)) % (2 : Int32)) - (1 : Int32) = y at q3 q4 ⊢
  have e1 : (-1 : Int32).toInt = -1 := by decide
  simp only [own_L1, List.mem_cons, List.not_mem_nil, or_false, ← Int32.toInt_inj, Int32.reduceToInt, e1] at q3 ⊢
  omega
def chk1 (e0 : Int32) : Bool := oResF oMx oFx (oRunF oKT oCT oMT (oCall [f0, f1, f2, f3, f4, f5]) oMx.2.2.2.2.1 oMx.2.2.1 oFx 60 (48, #[.val (.retAddr 0), .val (.retAddr 0), .val (.retAddr 0), .val (.retAddr 0), .val (.retAddr 0), .val (.retAddr 0), .val (.int (1 : Int32)), .val (.ref 0), .unset, .unset], [], [.inr (.int, [e0])], 1, 5))
set_option maxRecDepth 65536 in
set_option maxHeartbeats 40000000 in
theorem all1 : (own_L1.all fun e0 => chk1 e0) = true := by decide +kernel
theorem kern1 (e0 : Int32) (h0 : e0 ∈ own_L1) : oRes oMx oPx (oRun oKT oCT oMT (oCall [f0, f1, f2, f3, f4, f5]) oMx.2.2.2.2.1 oMx.2.2.1 oPx 60 (48, #[.val (.retAddr 0), .val (.retAddr 0), .val (.retAddr 0), .val (.retAddr 0), .val (.retAddr 0), .val (.retAddr 0), .val (.int (1 : Int32)), .val (.ref 0), .unset, .unset], [], [.inr (.int, [e0])], 1, 5)) = true := oRes_of_resF oSx (List.all_eq_true.mp (all1) _ h0)
set_option maxRecDepth 65536 in
set_option maxHeartbeats 4000000 in
theorem met4 (hw : oHw a0 Z) (ai0 : Int32) : oMet l Z n0 oKT oM0 [.int ai0, .int (2 : Int32)] [] (some (.int (((ai0 &&& (2147483647 : Int32)) % (3 : Int32)) - (1 : Int32)))) [] := by
  have hK := oK_ok
  have hC := (fs6 hw : oFsOk l Z n0 oKT oMT [f0, f1, f2, f3, f4, f5]).call
  have R1 := oReach.run (l := l) (n0 := n0) (q := oM0) (CT := oCT) (MT := oMT) (callf := (oCall [f0, f1, f2, f3, f4, f5])) (ops := oP0) (n := 5) (st := (0, #[.val (.int ai0), .val (.int (2 : Int32))], [], [], 0, 0)) (st' := (6, #[.val (.int ai0), .val (.int (2 : Int32))], [.int (1 : Int32), .int (2 : Int32), .int (ai0 &&& (2147483647 : Int32))], [], 0, 0)) hw hK hC ops0 rfl
  have R2 := R1.trans (oReach.run (l := l) (n0 := n0) (q := oM0) (CT := oCT) (MT := oMT) (callf := (oCall [f0, f1, f2, f3, f4, f5])) (ops := oP0) (n := 4) (st' := (10, #[.val (.int ai0), .val (.int (2 : Int32))], [.int (((ai0 &&& (2147483647 : Int32)) % (3 : Int32)) - (1 : Int32))], [], 0, 0)) hw hK hC ops0 rfl)
  exact oMet_of_reach pn0 ops0 R2 rfl
set_option maxRecDepth 65536 in
set_option maxHeartbeats 4000000 in
theorem met5 (hw : oHw a0 Z) (ai0 : Int32) (ai1 : Int32) (ai2 : Int32) (ai3 : Int32) (ai4 : Int32) : oMet l Z n0 oKT oM1 [.int (2 : Int32), .int ai0, .int ai1, .int ai2, .int ai3, .int ai4] [] (some (.ref 0)) [.inr (.int, [ai0, ai1])] := by
  have hK := oK_ok
  have hC := (fs6 hw : oFsOk l Z n0 oKT oMT [f0, f1, f2, f3, f4, f5]).call
  have R1 := oReach.run (l := l) (n0 := n0) (q := oM1) (CT := oCT) (MT := oMT) (callf := (oCall [f0, f1, f2, f3, f4, f5])) (ops := oP1) (n := 5) (st := (0, #[.val (.int (2 : Int32)), .val (.int ai0), .val (.int ai1), .val (.int ai2), .val (.int ai3), .val (.int ai4)], [], [], 0, 0)) (st' := (21, #[.val (.int (2 : Int32)), .val (.int ai0), .val (.int ai1), .val (.int ai2), .val (.int ai3), .val (.int ai4)], [], [], 0, 0)) hw hK hC ops1 rfl
  have R2 := R1.trans (oReach.run (l := l) (n0 := n0) (q := oM1) (CT := oCT) (MT := oMT) (callf := (oCall [f0, f1, f2, f3, f4, f5])) (ops := oP1) (n := 5) (st' := (29, #[.val (.int (2 : Int32)), .val (.int ai0), .val (.int ai1), .val (.int ai2), .val (.int ai3), .val (.int ai4)], [.ref 0], [.inr (.int, [(0 : Int32), (0 : Int32)])], 1, 2)) hw hK hC ops1 rfl)
  have R3 := R2.trans (oReach.run (l := l) (n0 := n0) (q := oM1) (CT := oCT) (MT := oMT) (callf := (oCall [f0, f1, f2, f3, f4, f5])) (ops := oP1) (n := 5) (st' := (34, #[.val (.int (2 : Int32)), .val (.int ai0), .val (.int ai1), .val (.int ai2), .val (.int ai3), .val (.int ai4)], [.ref 0, .ref 0], [.inr (.int, [ai0, (0 : Int32)])], 1, 2)) hw hK hC ops1 rfl)
  have R4 := R3.trans (oReach.run (l := l) (n0 := n0) (q := oM1) (CT := oCT) (MT := oMT) (callf := (oCall [f0, f1, f2, f3, f4, f5])) (ops := oP1) (n := 3) (st' := (37, #[.val (.int (2 : Int32)), .val (.int ai0), .val (.int ai1), .val (.int ai2), .val (.int ai3), .val (.int ai4)], [.ref 0], [.inr (.int, [ai0, ai1])], 1, 2)) hw hK hC ops1 rfl)
  exact oMet_of_reach pn1 ops1 R4 rfl
def own_L2 : List Int32 := [(-1 : Int32), (0 : Int32), (1 : Int32)]
theorem own_m2 (x : Int32) : ((x &&& (2147483647 : Int32)) % (3 : Int32)) - (1 : Int32) ∈ own_L2 := by
  have q1 := c_and x (2147483647 : Int32) (by decide)
  have q2 := (c_irem (x &&& (2147483647 : Int32)) (3 : Int32) 3 rfl).1 q1.1
  have q3 := c_isub ((x &&& (2147483647 : Int32)) % (3 : Int32)) (1 : Int32)
  have q4 := rng32 (((x &&& (2147483647 : Int32)) % (3 : Int32)) - (1 : Int32))
  generalize ((x &&& (2147483647 : Int32)) % (3 : Int32)) - (1 : Int32) = y at q3 q4 ⊢
  have e1 : (-1 : Int32).toInt = -1 := by decide
  simp only [own_L2, List.mem_cons, List.not_mem_nil, or_false, ← Int32.toInt_inj, Int32.reduceToInt, e1] at q3 ⊢
  omega
def chk2 (e0 e1 : Int32) : Bool := oResF oMx oFx (oRunF oKT oCT oMT (oCall [f0, f1, f2, f3, f4, f5]) oMx.2.2.2.2.1 oMx.2.2.1 oFx 60 (48, #[.val (.retAddr 0), .val (.retAddr 0), .val (.retAddr 0), .val (.retAddr 0), .val (.retAddr 0), .val (.retAddr 0), .val (.int (2 : Int32)), .val (.ref 0), .unset, .unset], [], [.inr (.int, [e0, e1])], 1, 5))
set_option maxRecDepth 65536 in
set_option maxHeartbeats 40000000 in
theorem all2 : (own_L2.all fun e0 => (own_L2.all fun e1 => chk2 e0 e1)) = true := by decide +kernel
theorem kern2 (e0 e1 : Int32) (h0 : e0 ∈ own_L2) (h1 : e1 ∈ own_L2) : oRes oMx oPx (oRun oKT oCT oMT (oCall [f0, f1, f2, f3, f4, f5]) oMx.2.2.2.2.1 oMx.2.2.1 oPx 60 (48, #[.val (.retAddr 0), .val (.retAddr 0), .val (.retAddr 0), .val (.retAddr 0), .val (.retAddr 0), .val (.retAddr 0), .val (.int (2 : Int32)), .val (.ref 0), .unset, .unset], [], [.inr (.int, [e0, e1])], 1, 5)) = true := oRes_of_resF oSx (List.all_eq_true.mp (List.all_eq_true.mp (all2) _ h0) _ h1)
set_option maxRecDepth 65536 in
set_option maxHeartbeats 4000000 in
theorem met6 (hw : oHw a0 Z) (ai0 : Int32) : oMet l Z n0 oKT oM0 [.int ai0, .int (3 : Int32)] [] (some (.int (((ai0 &&& (2147483647 : Int32)) % (4 : Int32)) - (1 : Int32)))) [] := by
  have hK := oK_ok
  have hC := (fs6 hw : oFsOk l Z n0 oKT oMT [f0, f1, f2, f3, f4, f5]).call
  have R1 := oReach.run (l := l) (n0 := n0) (q := oM0) (CT := oCT) (MT := oMT) (callf := (oCall [f0, f1, f2, f3, f4, f5])) (ops := oP0) (n := 5) (st := (0, #[.val (.int ai0), .val (.int (3 : Int32))], [], [], 0, 0)) (st' := (6, #[.val (.int ai0), .val (.int (3 : Int32))], [.int (1 : Int32), .int (3 : Int32), .int (ai0 &&& (2147483647 : Int32))], [], 0, 0)) hw hK hC ops0 rfl
  have R2 := R1.trans (oReach.run (l := l) (n0 := n0) (q := oM0) (CT := oCT) (MT := oMT) (callf := (oCall [f0, f1, f2, f3, f4, f5])) (ops := oP0) (n := 4) (st' := (10, #[.val (.int ai0), .val (.int (3 : Int32))], [.int (((ai0 &&& (2147483647 : Int32)) % (4 : Int32)) - (1 : Int32))], [], 0, 0)) hw hK hC ops0 rfl)
  exact oMet_of_reach pn0 ops0 R2 rfl
set_option maxRecDepth 65536 in
set_option maxHeartbeats 4000000 in
theorem met7 (hw : oHw a0 Z) (ai0 : Int32) (ai1 : Int32) (ai2 : Int32) (ai3 : Int32) (ai4 : Int32) : oMet l Z n0 oKT oM1 [.int (3 : Int32), .int ai0, .int ai1, .int ai2, .int ai3, .int ai4] [] (some (.ref 0)) [.inr (.int, [ai0, ai1, ai2])] := by
  have hK := oK_ok
  have hC := (fs6 hw : oFsOk l Z n0 oKT oMT [f0, f1, f2, f3, f4, f5]).call
  have R1 := oReach.run (l := l) (n0 := n0) (q := oM1) (CT := oCT) (MT := oMT) (callf := (oCall [f0, f1, f2, f3, f4, f5])) (ops := oP1) (n := 5) (st := (0, #[.val (.int (3 : Int32)), .val (.int ai0), .val (.int ai1), .val (.int ai2), .val (.int ai3), .val (.int ai4)], [], [], 0, 0)) (st' := (21, #[.val (.int (3 : Int32)), .val (.int ai0), .val (.int ai1), .val (.int ai2), .val (.int ai3), .val (.int ai4)], [], [], 0, 0)) hw hK hC ops1 rfl
  have R2 := R1.trans (oReach.run (l := l) (n0 := n0) (q := oM1) (CT := oCT) (MT := oMT) (callf := (oCall [f0, f1, f2, f3, f4, f5])) (ops := oP1) (n := 5) (st' := (40, #[.val (.int (3 : Int32)), .val (.int ai0), .val (.int ai1), .val (.int ai2), .val (.int ai3), .val (.int ai4)], [.int (3 : Int32), .int (3 : Int32)], [], 0, 0)) hw hK hC ops1 rfl)
  have R3 := R2.trans (oReach.run (l := l) (n0 := n0) (q := oM1) (CT := oCT) (MT := oMT) (callf := (oCall [f0, f1, f2, f3, f4, f5])) (ops := oP1) (n := 5) (st' := (48, #[.val (.int (3 : Int32)), .val (.int ai0), .val (.int ai1), .val (.int ai2), .val (.int ai3), .val (.int ai4)], [.int (0 : Int32), .ref 0, .ref 0], [.inr (.int, [(0 : Int32), (0 : Int32), (0 : Int32)])], 1, 3)) hw hK hC ops1 rfl)
  have R4 := R3.trans (oReach.run (l := l) (n0 := n0) (q := oM1) (CT := oCT) (MT := oMT) (callf := (oCall [f0, f1, f2, f3, f4, f5])) (ops := oP1) (n := 5) (st' := (53, #[.val (.int (3 : Int32)), .val (.int ai0), .val (.int ai1), .val (.int ai2), .val (.int ai3), .val (.int ai4)], [.int ai1, .int (1 : Int32), .ref 0, .ref 0], [.inr (.int, [ai0, (0 : Int32), (0 : Int32)])], 1, 3)) hw hK hC ops1 rfl)
  have R5 := R4.trans (oReach.run (l := l) (n0 := n0) (q := oM1) (CT := oCT) (MT := oMT) (callf := (oCall [f0, f1, f2, f3, f4, f5])) (ops := oP1) (n := 5) (st' := (58, #[.val (.int (3 : Int32)), .val (.int ai0), .val (.int ai1), .val (.int ai2), .val (.int ai3), .val (.int ai4)], [.ref 0], [.inr (.int, [ai0, ai1, ai2])], 1, 3)) hw hK hC ops1 rfl)
  exact oMet_of_reach pn1 ops1 R5 rfl
def own_L3 : List Int32 := [(-1 : Int32), (0 : Int32), (1 : Int32), (2 : Int32)]
theorem own_m3 (x : Int32) : ((x &&& (2147483647 : Int32)) % (4 : Int32)) - (1 : Int32) ∈ own_L3 := by
  have q1 := c_and x (2147483647 : Int32) (by decide)
  have q2 := (c_irem (x &&& (2147483647 : Int32)) (4 : Int32) 4 rfl).1 q1.1
  have q3 := c_isub ((x &&& (2147483647 : Int32)) % (4 : Int32)) (1 : Int32)
  have q4 := rng32 (((x &&& (2147483647 : Int32)) % (4 : Int32)) - (1 : Int32))
  generalize ((x &&& (2147483647 : Int32)) % (4 : Int32)) - (1 : Int32) = y at q3 q4 ⊢
  have e1 : (-1 : Int32).toInt = -1 := by decide
  simp only [own_L3, List.mem_cons, List.not_mem_nil, or_false, ← Int32.toInt_inj, Int32.reduceToInt, e1] at q3 ⊢
  omega
def chk3 (e0 e1 e2 : Int32) : Bool := oResF oMx oFx (oRunF oKT oCT oMT (oCall [f0, f1, f2, f3, f4, f5]) oMx.2.2.2.2.1 oMx.2.2.1 oFx 60 (48, #[.val (.retAddr 0), .val (.retAddr 0), .val (.retAddr 0), .val (.retAddr 0), .val (.retAddr 0), .val (.retAddr 0), .val (.int (3 : Int32)), .val (.ref 0), .unset, .unset], [], [.inr (.int, [e0, e1, e2])], 1, 5))
set_option maxRecDepth 65536 in
set_option maxHeartbeats 40000000 in
theorem all3 : (own_L3.all fun e0 => (own_L3.all fun e1 => (own_L3.all fun e2 => chk3 e0 e1 e2))) = true := by decide +kernel
theorem kern3 (e0 e1 e2 : Int32) (h0 : e0 ∈ own_L3) (h1 : e1 ∈ own_L3) (h2 : e2 ∈ own_L3) : oRes oMx oPx (oRun oKT oCT oMT (oCall [f0, f1, f2, f3, f4, f5]) oMx.2.2.2.2.1 oMx.2.2.1 oPx 60 (48, #[.val (.retAddr 0), .val (.retAddr 0), .val (.retAddr 0), .val (.retAddr 0), .val (.retAddr 0), .val (.retAddr 0), .val (.int (3 : Int32)), .val (.ref 0), .unset, .unset], [], [.inr (.int, [e0, e1, e2])], 1, 5)) = true := oRes_of_resF oSx (List.all_eq_true.mp (List.all_eq_true.mp (List.all_eq_true.mp (all3) _ h0) _ h1) _ h2)
set_option maxRecDepth 65536 in
set_option maxHeartbeats 4000000 in
theorem met8 (hw : oHw a0 Z) (ai0 : Int32) : oMet l Z n0 oKT oM0 [.int ai0, .int (4 : Int32)] [] (some (.int (((ai0 &&& (2147483647 : Int32)) % (5 : Int32)) - (1 : Int32)))) [] := by
  have hK := oK_ok
  have hC := (fs6 hw : oFsOk l Z n0 oKT oMT [f0, f1, f2, f3, f4, f5]).call
  have R1 := oReach.run (l := l) (n0 := n0) (q := oM0) (CT := oCT) (MT := oMT) (callf := (oCall [f0, f1, f2, f3, f4, f5])) (ops := oP0) (n := 5) (st := (0, #[.val (.int ai0), .val (.int (4 : Int32))], [], [], 0, 0)) (st' := (6, #[.val (.int ai0), .val (.int (4 : Int32))], [.int (1 : Int32), .int (4 : Int32), .int (ai0 &&& (2147483647 : Int32))], [], 0, 0)) hw hK hC ops0 rfl
  have R2 := R1.trans (oReach.run (l := l) (n0 := n0) (q := oM0) (CT := oCT) (MT := oMT) (callf := (oCall [f0, f1, f2, f3, f4, f5])) (ops := oP0) (n := 4) (st' := (10, #[.val (.int ai0), .val (.int (4 : Int32))], [.int (((ai0 &&& (2147483647 : Int32)) % (5 : Int32)) - (1 : Int32))], [], 0, 0)) hw hK hC ops0 rfl)
  exact oMet_of_reach pn0 ops0 R2 rfl
set_option maxRecDepth 65536 in
set_option maxHeartbeats 4000000 in
theorem met9 (hw : oHw a0 Z) (ai0 : Int32) (ai1 : Int32) (ai2 : Int32) (ai3 : Int32) (ai4 : Int32) : oMet l Z n0 oKT oM1 [.int (4 : Int32), .int ai0, .int ai1, .int ai2, .int ai3, .int ai4] [] (some (.ref 0)) [.inr (.int, [ai0, ai1, ai2, ai3])] := by
  have hK := oK_ok
  have hC := (fs6 hw : oFsOk l Z n0 oKT oMT [f0, f1, f2, f3, f4, f5]).call
  have R1 := oReach.run (l := l) (n0 := n0) (q := oM1) (CT := oCT) (MT := oMT) (callf := (oCall [f0, f1, f2, f3, f4, f5])) (ops := oP1) (n := 5) (st := (0, #[.val (.int (4 : Int32)), .val (.int ai0), .val (.int ai1), .val (.int ai2), .val (.int ai3), .val (.int ai4)], [], [], 0, 0)) (st' := (21, #[.val (.int (4 : Int32)), .val (.int ai0), .val (.int ai1), .val (.int ai2), .val (.int ai3), .val (.int ai4)], [], [], 0, 0)) hw hK hC ops1 rfl
  have R2 := R1.trans (oReach.run (l := l) (n0 := n0) (q := oM1) (CT := oCT) (MT := oMT) (callf := (oCall [f0, f1, f2, f3, f4, f5])) (ops := oP1) (n := 5) (st' := (40, #[.val (.int (4 : Int32)), .val (.int ai0), .val (.int ai1), .val (.int ai2), .val (.int ai3), .val (.int ai4)], [.int (3 : Int32), .int (4 : Int32)], [], 0, 0)) hw hK hC ops1 rfl)
  have R3 := R2.trans (oReach.run (l := l) (n0 := n0) (q := oM1) (CT := oCT) (MT := oMT) (callf := (oCall [f0, f1, f2, f3, f4, f5])) (ops := oP1) (n := 5) (st' := (65, #[.val (.int (4 : Int32)), .val (.int ai0), .val (.int ai1), .val (.int ai2), .val (.int ai3), .val (.int ai4)], [.int (4 : Int32)], [], 0, 0)) hw hK hC ops1 rfl)
  have R4 := R3.trans (oReach.run (l := l) (n0 := n0) (q := oM1) (CT := oCT) (MT := oMT) (callf := (oCall [f0, f1, f2, f3, f4, f5])) (ops := oP1) (n := 5) (st' := (71, #[.val (.int (4 : Int32)), .val (.int ai0), .val (.int ai1), .val (.int ai2), .val (.int ai3), .val (.int ai4)], [.ref 0], [.inr (.int, [ai0, (0 : Int32), (0 : Int32), (0 : Int32)])], 1, 4)) hw hK hC ops1 rfl)
  have R5 := R4.trans (oReach.run (l := l) (n0 := n0) (q := oM1) (CT := oCT) (MT := oMT) (callf := (oCall [f0, f1, f2, f3, f4, f5])) (ops := oP1) (n := 5) (st' := (76, #[.val (.int (4 : Int32)), .val (.int ai0), .val (.int ai1), .val (.int ai2), .val (.int ai3), .val (.int ai4)], [.ref 0, .ref 0], [.inr (.int, [ai0, ai1, (0 : Int32), (0 : Int32)])], 1, 4)) hw hK hC ops1 rfl)
  have R6 := R5.trans (oReach.run (l := l) (n0 := n0) (q := oM1) (CT := oCT) (MT := oMT) (callf := (oCall [f0, f1, f2, f3, f4, f5])) (ops := oP1) (n := 5) (st' := (81, #[.val (.int (4 : Int32)), .val (.int ai0), .val (.int ai1), .val (.int ai2), .val (.int ai3), .val (.int ai4)], [.int (3 : Int32), .ref 0, .ref 0], [.inr (.int, [ai0, ai1, ai2, (0 : Int32)])], 1, 4)) hw hK hC ops1 rfl)
  have R7 := R6.trans (oReach.run (l := l) (n0 := n0) (q := oM1) (CT := oCT) (MT := oMT) (callf := (oCall [f0, f1, f2, f3, f4, f5])) (ops := oP1) (n := 2) (st' := (84, #[.val (.int (4 : Int32)), .val (.int ai0), .val (.int ai1), .val (.int ai2), .val (.int ai3), .val (.int ai4)], [.ref 0], [.inr (.int, [ai0, ai1, ai2, ai3])], 1, 4)) hw hK hC ops1 rfl)
  exact oMet_of_reach pn1 ops1 R7 rfl
def own_L4 : List Int32 := [(-1 : Int32), (0 : Int32), (1 : Int32), (2 : Int32), (3 : Int32)]
theorem own_m4 (x : Int32) : ((x &&& (2147483647 : Int32)) % (5 : Int32)) - (1 : Int32) ∈ own_L4 := by
  have q1 := c_and x (2147483647 : Int32) (by decide)
  have q2 := (c_irem (x &&& (2147483647 : Int32)) (5 : Int32) 5 rfl).1 q1.1
  have q3 := c_isub ((x &&& (2147483647 : Int32)) % (5 : Int32)) (1 : Int32)
  have q4 := rng32 (((x &&& (2147483647 : Int32)) % (5 : Int32)) - (1 : Int32))
  generalize ((x &&& (2147483647 : Int32)) % (5 : Int32)) - (1 : Int32) = y at q3 q4 ⊢
  have e1 : (-1 : Int32).toInt = -1 := by decide
  simp only [own_L4, List.mem_cons, List.not_mem_nil, or_false, ← Int32.toInt_inj, Int32.reduceToInt, e1] at q3 ⊢
  omega
def chk4 (e0 e1 e2 e3 : Int32) : Bool := oResF oMx oFx (oRunF oKT oCT oMT (oCall [f0, f1, f2, f3, f4, f5]) oMx.2.2.2.2.1 oMx.2.2.1 oFx 60 (48, #[.val (.retAddr 0), .val (.retAddr 0), .val (.retAddr 0), .val (.retAddr 0), .val (.retAddr 0), .val (.retAddr 0), .val (.int (4 : Int32)), .val (.ref 0), .unset, .unset], [], [.inr (.int, [e0, e1, e2, e3])], 1, 5))
set_option maxRecDepth 65536 in
set_option maxHeartbeats 40000000 in
theorem all4 : (own_L4.all fun e0 => (own_L4.all fun e1 => (own_L4.all fun e2 => (own_L4.all fun e3 => chk4 e0 e1 e2 e3)))) = true := by decide +kernel
theorem kern4 (e0 e1 e2 e3 : Int32) (h0 : e0 ∈ own_L4) (h1 : e1 ∈ own_L4) (h2 : e2 ∈ own_L4) (h3 : e3 ∈ own_L4) : oRes oMx oPx (oRun oKT oCT oMT (oCall [f0, f1, f2, f3, f4, f5]) oMx.2.2.2.2.1 oMx.2.2.1 oPx 60 (48, #[.val (.retAddr 0), .val (.retAddr 0), .val (.retAddr 0), .val (.retAddr 0), .val (.retAddr 0), .val (.retAddr 0), .val (.int (4 : Int32)), .val (.ref 0), .unset, .unset], [], [.inr (.int, [e0, e1, e2, e3])], 1, 5)) = true := oRes_of_resF oSx (List.all_eq_true.mp (List.all_eq_true.mp (List.all_eq_true.mp (List.all_eq_true.mp (all4) _ h0) _ h1) _ h2) _ h3)
set_option maxRecDepth 65536 in
set_option maxHeartbeats 4000000 in
theorem met10 (hw : oHw a0 Z) (ai0 : Int32) : oMet l Z n0 oKT oM0 [.int ai0, .int (5 : Int32)] [] (some (.int (((ai0 &&& (2147483647 : Int32)) % (6 : Int32)) - (1 : Int32)))) [] := by
  have hK := oK_ok
  have hC := (fs6 hw : oFsOk l Z n0 oKT oMT [f0, f1, f2, f3, f4, f5]).call
  have R1 := oReach.run (l := l) (n0 := n0) (q := oM0) (CT := oCT) (MT := oMT) (callf := (oCall [f0, f1, f2, f3, f4, f5])) (ops := oP0) (n := 5) (st := (0, #[.val (.int ai0), .val (.int (5 : Int32))], [], [], 0, 0)) (st' := (6, #[.val (.int ai0), .val (.int (5 : Int32))], [.int (1 : Int32), .int (5 : Int32), .int (ai0 &&& (2147483647 : Int32))], [], 0, 0)) hw hK hC ops0 rfl
  have R2 := R1.trans (oReach.run (l := l) (n0 := n0) (q := oM0) (CT := oCT) (MT := oMT) (callf := (oCall [f0, f1, f2, f3, f4, f5])) (ops := oP0) (n := 4) (st' := (10, #[.val (.int ai0), .val (.int (5 : Int32))], [.int (((ai0 &&& (2147483647 : Int32)) % (6 : Int32)) - (1 : Int32))], [], 0, 0)) hw hK hC ops0 rfl)
  exact oMet_of_reach pn0 ops0 R2 rfl
set_option maxRecDepth 65536 in
set_option maxHeartbeats 4000000 in
theorem met11 (hw : oHw a0 Z) (ai0 : Int32) (ai1 : Int32) (ai2 : Int32) (ai3 : Int32) (ai4 : Int32) : oMet l Z n0 oKT oM1 [.int (5 : Int32), .int ai0, .int ai1, .int ai2, .int ai3, .int ai4] [] (some (.ref 0)) [.inr (.int, [ai0, ai1, ai2, ai3, ai4])] := by
  have hK := oK_ok
  have hC := (fs6 hw : oFsOk l Z n0 oKT oMT [f0, f1, f2, f3, f4, f5]).call
  have R1 := oReach.run (l := l) (n0 := n0) (q := oM1) (CT := oCT) (MT := oMT) (callf := (oCall [f0, f1, f2, f3, f4, f5])) (ops := oP1) (n := 5) (st := (0, #[.val (.int (5 : Int32)), .val (.int ai0), .val (.int ai1), .val (.int ai2), .val (.int ai3), .val (.int ai4)], [], [], 0, 0)) (st' := (21, #[.val (.int (5 : Int32)), .val (.int ai0), .val (.int ai1), .val (.int ai2), .val (.int ai3), .val (.int ai4)], [], [], 0, 0)) hw hK hC ops1 rfl
  have R2 := R1.trans (oReach.run (l := l) (n0 := n0) (q := oM1) (CT := oCT) (MT := oMT) (callf := (oCall [f0, f1, f2, f3, f4, f5])) (ops := oP1) (n := 5) (st' := (40, #[.val (.int (5 : Int32)), .val (.int ai0), .val (.int ai1), .val (.int ai2), .val (.int ai3), .val (.int ai4)], [.int (3 : Int32), .int (5 : Int32)], [], 0, 0)) hw hK hC ops1 rfl)
  have R3 := R2.trans (oReach.run (l := l) (n0 := n0) (q := oM1) (CT := oCT) (MT := oMT) (callf := (oCall [f0, f1, f2, f3, f4, f5])) (ops := oP1) (n := 5) (st' := (86, #[.val (.int (5 : Int32)), .val (.int ai0), .val (.int ai1), .val (.int ai2), .val (.int ai3), .val (.int ai4)], [.int (5 : Int32)], [], 0, 0)) hw hK hC ops1 rfl)
  have R4 := R3.trans (oReach.run (l := l) (n0 := n0) (q := oM1) (CT := oCT) (MT := oMT) (callf := (oCall [f0, f1, f2, f3, f4, f5])) (ops := oP1) (n := 5) (st' := (92, #[.val (.int (5 : Int32)), .val (.int ai0), .val (.int ai1), .val (.int ai2), .val (.int ai3), .val (.int ai4)], [.ref 0], [.inr (.int, [ai0, (0 : Int32), (0 : Int32), (0 : Int32), (0 : Int32)])], 1, 5)) hw hK hC ops1 rfl)
  have R5 := R4.trans (oReach.run (l := l) (n0 := n0) (q := oM1) (CT := oCT) (MT := oMT) (callf := (oCall [f0, f1, f2, f3, f4, f5])) (ops := oP1) (n := 5) (st' := (97, #[.val (.int (5 : Int32)), .val (.int ai0), .val (.int ai1), .val (.int ai2), .val (.int ai3), .val (.int ai4)], [.ref 0, .ref 0], [.inr (.int, [ai0, ai1, (0 : Int32), (0 : Int32), (0 : Int32)])], 1, 5)) hw hK hC ops1 rfl)
  have R6 := R5.trans (oReach.run (l := l) (n0 := n0) (q := oM1) (CT := oCT) (MT := oMT) (callf := (oCall [f0, f1, f2, f3, f4, f5])) (ops := oP1) (n := 5) (st' := (102, #[.val (.int (5 : Int32)), .val (.int ai0), .val (.int ai1), .val (.int ai2), .val (.int ai3), .val (.int ai4)], [.int (3 : Int32), .ref 0, .ref 0], [.inr (.int, [ai0, ai1, ai2, (0 : Int32), (0 : Int32)])], 1, 5)) hw hK hC ops1 rfl)
  have R7 := R6.trans (oReach.run (l := l) (n0 := n0) (q := oM1) (CT := oCT) (MT := oMT) (callf := (oCall [f0, f1, f2, f3, f4, f5])) (ops := oP1) (n := 5) (st' := (109, #[.val (.int (5 : Int32)), .val (.int ai0), .val (.int ai1), .val (.int ai2), .val (.int ai3), .val (.int ai4)], [.int ai4, .int (4 : Int32), .ref 0, .ref 0], [.inr (.int, [ai0, ai1, ai2, ai3, (0 : Int32)])], 1, 5)) hw hK hC ops1 rfl)
  have R8 := R7.trans (oReach.run (l := l) (n0 := n0) (q := oM1) (CT := oCT) (MT := oMT) (callf := (oCall [f0, f1, f2, f3, f4, f5])) (ops := oP1) (n := 1) (st' := (110, #[.val (.int (5 : Int32)), .val (.int ai0), .val (.int ai1), .val (.int ai2), .val (.int ai3), .val (.int ai4)], [.ref 0], [.inr (.int, [ai0, ai1, ai2, ai3, ai4])], 1, 5)) hw hK hC ops1 rfl)
  exact oMet_of_reach pn1 ops1 R8 rfl
def own_L5 : List Int32 := [(-1 : Int32), (0 : Int32), (1 : Int32), (2 : Int32), (3 : Int32), (4 : Int32)]
theorem own_m5 (x : Int32) : ((x &&& (2147483647 : Int32)) % (6 : Int32)) - (1 : Int32) ∈ own_L5 := by
  have q1 := c_and x (2147483647 : Int32) (by decide)
  have q2 := (c_irem (x &&& (2147483647 : Int32)) (6 : Int32) 6 rfl).1 q1.1
  have q3 := c_isub ((x &&& (2147483647 : Int32)) % (6 : Int32)) (1 : Int32)
  have q4 := rng32 (((x &&& (2147483647 : Int32)) % (6 : Int32)) - (1 : Int32))
  generalize ((x &&& (2147483647 : Int32)) % (6 : Int32)) - (1 : Int32) = y at q3 q4 ⊢
  have e1 : (-1 : Int32).toInt = -1 := by decide
  simp only [own_L5, List.mem_cons, List.not_mem_nil, or_false, ← Int32.toInt_inj, Int32.reduceToInt, e1] at q3 ⊢
  omega
def chk5 (e0 e1 e2 e3 e4 : Int32) : Bool := oResF oMx oFx (oRunF oKT oCT oMT (oCall [f0, f1, f2, f3, f4, f5]) oMx.2.2.2.2.1 oMx.2.2.1 oFx 60 (48, #[.val (.retAddr 0), .val (.retAddr 0), .val (.retAddr 0), .val (.retAddr 0), .val (.retAddr 0), .val (.retAddr 0), .val (.int (5 : Int32)), .val (.ref 0), .unset, .unset], [], [.inr (.int, [e0, e1, e2, e3, e4])], 1, 5))
set_option maxRecDepth 65536 in
set_option maxHeartbeats 40000000 in
theorem all5_0_0 : (own_L5.all fun e2 => (own_L5.all fun e3 => (own_L5.all fun e4 => chk5 (-1 : Int32) (-1 : Int32) e2 e3 e4))) = true := by decide +kernel
set_option maxRecDepth 65536 in
set_option maxHeartbeats 40000000 in
theorem all5_0_1 : (own_L5.all fun e2 => (own_L5.all fun e3 => (own_L5.all fun e4 => chk5 (-1 : Int32) (0 : Int32) e2 e3 e4))) = true := by decide +kernel
set_option maxRecDepth 65536 in
set_option maxHeartbeats 40000000 in
theorem all5_0_2 : (own_L5.all fun e2 => (own_L5.all fun e3 => (own_L5.all fun e4 => chk5 (-1 : Int32) (1 : Int32) e2 e3 e4))) = true := by decide +kernel
set_option maxRecDepth 65536 in
set_option maxHeartbeats 40000000 in
theorem all5_0_3 : (own_L5.all fun e2 => (own_L5.all fun e3 => (own_L5.all fun e4 => chk5 (-1 : Int32) (2 : Int32) e2 e3 e4))) = true := by decide +kernel
set_option maxRecDepth 65536 in
set_option maxHeartbeats 40000000 in
theorem all5_0_4 : (own_L5.all fun e2 => (own_L5.all fun e3 => (own_L5.all fun e4 => chk5 (-1 : Int32) (3 : Int32) e2 e3 e4))) = true := by decide +kernel
set_option maxRecDepth 65536 in
set_option maxHeartbeats 40000000 in
theorem all5_0_5 : (own_L5.all fun e2 => (own_L5.all fun e3 => (own_L5.all fun e4 => chk5 (-1 : Int32) (4 : Int32) e2 e3 e4))) = true := by decide +kernel
set_option maxRecDepth 65536 in
set_option maxHeartbeats 40000000 in
theorem all5_1_0 : (own_L5.all fun e2 => (own_L5.all fun e3 => (own_L5.all fun e4 => chk5 (0 : Int32) (-1 : Int32) e2 e3 e4))) = true := by decide +kernel
set_option maxRecDepth 65536 in
set_option maxHeartbeats 40000000 in
theorem all5_1_1 : (own_L5.all fun e2 => (own_L5.all fun e3 => (own_L5.all fun e4 => chk5 (0 : Int32) (0 : Int32) e2 e3 e4))) = true := by decide +kernel
set_option maxRecDepth 65536 in
set_option maxHeartbeats 40000000 in
theorem all5_1_2 : (own_L5.all fun e2 => (own_L5.all fun e3 => (own_L5.all fun e4 => chk5 (0 : Int32) (1 : Int32) e2 e3 e4))) = true := by decide +kernel
set_option maxRecDepth 65536 in
set_option maxHeartbeats 40000000 in
theorem all5_1_3 : (own_L5.all fun e2 => (own_L5.all fun e3 => (own_L5.all fun e4 => chk5 (0 : Int32) (2 : Int32) e2 e3 e4))) = true := by decide +kernel
set_option maxRecDepth 65536 in
set_option maxHeartbeats 40000000 in
theorem all5_1_4 : (own_L5.all fun e2 => (own_L5.all fun e3 => (own_L5.all fun e4 => chk5 (0 : Int32) (3 : Int32) e2 e3 e4))) = true := by decide +kernel
set_option maxRecDepth 65536 in
set_option maxHeartbeats 40000000 in
theorem all5_1_5 : (own_L5.all fun e2 => (own_L5.all fun e3 => (own_L5.all fun e4 => chk5 (0 : Int32) (4 : Int32) e2 e3 e4))) = true := by decide +kernel
set_option maxRecDepth 65536 in
set_option maxHeartbeats 40000000 in
theorem all5_2_0 : (own_L5.all fun e2 => (own_L5.all fun e3 => (own_L5.all fun e4 => chk5 (1 : Int32) (-1 : Int32) e2 e3 e4))) = true := by decide +kernel
set_option maxRecDepth 65536 in
set_option maxHeartbeats 40000000 in
theorem all5_2_1 : (own_L5.all fun e2 => (own_L5.all fun e3 => (own_L5.all fun e4 => chk5 (1 : Int32) (0 : Int32) e2 e3 e4))) = true := by decide +kernel
set_option maxRecDepth 65536 in
set_option maxHeartbeats 40000000 in
theorem all5_2_2 : (own_L5.all fun e2 => (own_L5.all fun e3 => (own_L5.all fun e4 => chk5 (1 : Int32) (1 : Int32) e2 e3 e4))) = true := by decide +kernel
set_option maxRecDepth 65536 in
set_option maxHeartbeats 40000000 in
theorem all5_2_3 : (own_L5.all fun e2 => (own_L5.all fun e3 => (own_L5.all fun e4 => chk5 (1 : Int32) (2 : Int32) e2 e3 e4))) = true := by decide +kernel
set_option maxRecDepth 65536 in
set_option maxHeartbeats 40000000 in
theorem all5_2_4 : (own_L5.all fun e2 => (own_L5.all fun e3 => (own_L5.all fun e4 => chk5 (1 : Int32) (3 : Int32) e2 e3 e4))) = true := by decide +kernel
set_option maxRecDepth 65536 in
set_option maxHeartbeats 40000000 in
theorem all5_2_5 : (own_L5.all fun e2 => (own_L5.all fun e3 => (own_L5.all fun e4 => chk5 (1 : Int32) (4 : Int32) e2 e3 e4))) = true := by decide +kernel
set_option maxRecDepth 65536 in
set_option maxHeartbeats 40000000 in
theorem all5_3_0 : (own_L5.all fun e2 => (own_L5.all fun e3 => (own_L5.all fun e4 => chk5 (2 : Int32) (-1 : Int32) e2 e3 e4))) = true := by decide +kernel
set_option maxRecDepth 65536 in
set_option maxHeartbeats 40000000 in
theorem all5_3_1 : (own_L5.all fun e2 => (own_L5.all fun e3 => (own_L5.all fun e4 => chk5 (2 : Int32) (0 : Int32) e2 e3 e4))) = true := by decide +kernel
set_option maxRecDepth 65536 in
set_option maxHeartbeats 40000000 in
theorem all5_3_2 : (own_L5.all fun e2 => (own_L5.all fun e3 => (own_L5.all fun e4 => chk5 (2 : Int32) (1 : Int32) e2 e3 e4))) = true := by decide +kernel
set_option maxRecDepth 65536 in
set_option maxHeartbeats 40000000 in
theorem all5_3_3 : (own_L5.all fun e2 => (own_L5.all fun e3 => (own_L5.all fun e4 => chk5 (2 : Int32) (2 : Int32) e2 e3 e4))) = true := by decide +kernel
set_option maxRecDepth 65536 in
set_option maxHeartbeats 40000000 in
theorem all5_3_4 : (own_L5.all fun e2 => (own_L5.all fun e3 => (own_L5.all fun e4 => chk5 (2 : Int32) (3 : Int32) e2 e3 e4))) = true := by decide +kernel
set_option maxRecDepth 65536 in
set_option maxHeartbeats 40000000 in
theorem all5_3_5 : (own_L5.all fun e2 => (own_L5.all fun e3 => (own_L5.all fun e4 => chk5 (2 : Int32) (4 : Int32) e2 e3 e4))) = true := by decide +kernel
set_option maxRecDepth 65536 in
set_option maxHeartbeats 40000000 in
theorem all5_4_0 : (own_L5.all fun e2 => (own_L5.all fun e3 => (own_L5.all fun e4 => chk5 (3 : Int32) (-1 : Int32) e2 e3 e4))) = true := by decide +kernel
set_option maxRecDepth 65536 in
set_option maxHeartbeats 40000000 in
theorem all5_4_1 : (own_L5.all fun e2 => (own_L5.all fun e3 => (own_L5.all fun e4 => chk5 (3 : Int32) (0 : Int32) e2 e3 e4))) = true := by decide +kernel
set_option maxRecDepth 65536 in
set_option maxHeartbeats 40000000 in
theorem all5_4_2 : (own_L5.all fun e2 => (own_L5.all fun e3 => (own_L5.all fun e4 => chk5 (3 : Int32) (1 : Int32) e2 e3 e4))) = true := by decide +kernel
set_option maxRecDepth 65536 in
set_option maxHeartbeats 40000000 in
theorem all5_4_3 : (own_L5.all fun e2 => (own_L5.all fun e3 => (own_L5.all fun e4 => chk5 (3 : Int32) (2 : Int32) e2 e3 e4))) = true := by decide +kernel
set_option maxRecDepth 65536 in
set_option maxHeartbeats 40000000 in
theorem all5_4_4 : (own_L5.all fun e2 => (own_L5.all fun e3 => (own_L5.all fun e4 => chk5 (3 : Int32) (3 : Int32) e2 e3 e4))) = true := by decide +kernel
set_option maxRecDepth 65536 in
set_option maxHeartbeats 40000000 in
theorem all5_4_5 : (own_L5.all fun e2 => (own_L5.all fun e3 => (own_L5.all fun e4 => chk5 (3 : Int32) (4 : Int32) e2 e3 e4))) = true := by decide +kernel
set_option maxRecDepth 65536 in
set_option maxHeartbeats 40000000 in
theorem all5_5_0 : (own_L5.all fun e2 => (own_L5.all fun e3 => (own_L5.all fun e4 => chk5 (4 : Int32) (-1 : Int32) e2 e3 e4))) = true := by decide +kernel
set_option maxRecDepth 65536 in
set_option maxHeartbeats 40000000 in
theorem all5_5_1 : (own_L5.all fun e2 => (own_L5.all fun e3 => (own_L5.all fun e4 => chk5 (4 : Int32) (0 : Int32) e2 e3 e4))) = true := by decide +kernel
set_option maxRecDepth 65536 in
set_option maxHeartbeats 40000000 in
theorem all5_5_2 : (own_L5.all fun e2 => (own_L5.all fun e3 => (own_L5.all fun e4 => chk5 (4 : Int32) (1 : Int32) e2 e3 e4))) = true := by decide +kernel
set_option maxRecDepth 65536 in
set_option maxHeartbeats 40000000 in
theorem all5_5_3 : (own_L5.all fun e2 => (own_L5.all fun e3 => (own_L5.all fun e4 => chk5 (4 : Int32) (2 : Int32) e2 e3 e4))) = true := by decide +kernel
set_option maxRecDepth 65536 in
set_option maxHeartbeats 40000000 in
theorem all5_5_4 : (own_L5.all fun e2 => (own_L5.all fun e3 => (own_L5.all fun e4 => chk5 (4 : Int32) (3 : Int32) e2 e3 e4))) = true := by decide +kernel
set_option maxRecDepth 65536 in
set_option maxHeartbeats 40000000 in
theorem all5_5_5 : (own_L5.all fun e2 => (own_L5.all fun e3 => (own_L5.all fun e4 => chk5 (4 : Int32) (4 : Int32) e2 e3 e4))) = true := by decide +kernel
theorem own_in5 (y : Int32) (h : y ∈ own_L5) : y = (-1 : Int32) ∨ y = (0 : Int32) ∨ y = (1 : Int32) ∨ y = (2 : Int32) ∨ y = (3 : Int32) ∨ y = (4 : Int32) := by
  simpa only [own_L5, List.mem_cons, List.not_mem_nil, or_false] using h
set_option maxRecDepth 65536 in
set_option maxHeartbeats 40000000 in
theorem kern5 (e0 e1 e2 e3 e4 : Int32) (h0 : e0 ∈ own_L5) (h1 : e1 ∈ own_L5) (h2 : e2 ∈ own_L5) (h3 : e3 ∈ own_L5) (h4 : e4 ∈ own_L5) : oRes oMx oPx (oRun oKT oCT oMT (oCall [f0, f1, f2, f3, f4, f5]) oMx.2.2.2.2.1 oMx.2.2.1 oPx 60 (48, #[.val (.retAddr 0), .val (.retAddr 0), .val (.retAddr 0), .val (.retAddr 0), .val (.retAddr 0), .val (.retAddr 0), .val (.int (5 : Int32)), .val (.ref 0), .unset, .unset], [], [.inr (.int, [e0, e1, e2, e3, e4])], 1, 5)) = true := by
  refine oRes_of_resF oSx ?_
  show chk5 e0 e1 e2 e3 e4 = true
  have d0 := own_in5 e0 h0
  have d1 := own_in5 e1 h1
  clear h0 h1
  rcases d0 with d0 | d0 | d0 | d0 | d0 | d0 <;> rcases d1 with d1 | d1 | d1 | d1 | d1 | d1
  · rw [d0, d1]; exact List.all_eq_true.mp (List.all_eq_true.mp (List.all_eq_true.mp all5_0_0 _ h2) _ h3) _ h4
  · rw [d0, d1]; exact List.all_eq_true.mp (List.all_eq_true.mp (List.all_eq_true.mp all5_0_1 _ h2) _ h3) _ h4
  · rw [d0, d1]; exact List.all_eq_true.mp (List.all_eq_true.mp (List.all_eq_true.mp all5_0_2 _ h2) _ h3) _ h4
  · rw [d0, d1]; exact List.all_eq_true.mp (List.all_eq_true.mp (List.all_eq_true.mp all5_0_3 _ h2) _ h3) _ h4
  · rw [d0, d1]; exact List.all_eq_true.mp (List.all_eq_true.mp (List.all_eq_true.mp all5_0_4 _ h2) _ h3) _ h4
  · rw [d0, d1]; exact List.all_eq_true.mp (List.all_eq_true.mp (List.all_eq_true.mp all5_0_5 _ h2) _ h3) _ h4
  · rw [d0, d1]; exact List.all_eq_true.mp (List.all_eq_true.mp (List.all_eq_true.mp all5_1_0 _ h2) _ h3) _ h4
  · rw [d0, d1]; exact List.all_eq_true.mp (List.all_eq_true.mp (List.all_eq_true.mp all5_1_1 _ h2) _ h3) _ h4
  · rw [d0, d1]; exact List.all_eq_true.mp (List.all_eq_true.mp (List.all_eq_true.mp all5_1_2 _ h2) _ h3) _ h4
  · rw [d0, d1]; exact List.all_eq_true.mp (List.all_eq_true.mp (List.all_eq_true.mp all5_1_3 _ h2) _ h3) _ h4
  · rw [d0, d1]; exact List.all_eq_true.mp (List.all_eq_true.mp (List.all_eq_true.mp all5_1_4 _ h2) _ h3) _ h4
  · rw [d0, d1]; exact List.all_eq_true.mp (List.all_eq_true.mp (List.all_eq_true.mp all5_1_5 _ h2) _ h3) _ h4
  · rw [d0, d1]; exact List.all_eq_true.mp (List.all_eq_true.mp (List.all_eq_true.mp all5_2_0 _ h2) _ h3) _ h4
  · rw [d0, d1]; exact List.all_eq_true.mp (List.all_eq_true.mp (List.all_eq_true.mp all5_2_1 _ h2) _ h3) _ h4
  · rw [d0, d1]; exact List.all_eq_true.mp (List.all_eq_true.mp (List.all_eq_true.mp all5_2_2 _ h2) _ h3) _ h4
  · rw [d0, d1]; exact List.all_eq_true.mp (List.all_eq_true.mp (List.all_eq_true.mp all5_2_3 _ h2) _ h3) _ h4
  · rw [d0, d1]; exact List.all_eq_true.mp (List.all_eq_true.mp (List.all_eq_true.mp all5_2_4 _ h2) _ h3) _ h4
  · rw [d0, d1]; exact List.all_eq_true.mp (List.all_eq_true.mp (List.all_eq_true.mp all5_2_5 _ h2) _ h3) _ h4
  · rw [d0, d1]; exact List.all_eq_true.mp (List.all_eq_true.mp (List.all_eq_true.mp all5_3_0 _ h2) _ h3) _ h4
  · rw [d0, d1]; exact List.all_eq_true.mp (List.all_eq_true.mp (List.all_eq_true.mp all5_3_1 _ h2) _ h3) _ h4
  · rw [d0, d1]; exact List.all_eq_true.mp (List.all_eq_true.mp (List.all_eq_true.mp all5_3_2 _ h2) _ h3) _ h4
  · rw [d0, d1]; exact List.all_eq_true.mp (List.all_eq_true.mp (List.all_eq_true.mp all5_3_3 _ h2) _ h3) _ h4
  · rw [d0, d1]; exact List.all_eq_true.mp (List.all_eq_true.mp (List.all_eq_true.mp all5_3_4 _ h2) _ h3) _ h4
  · rw [d0, d1]; exact List.all_eq_true.mp (List.all_eq_true.mp (List.all_eq_true.mp all5_3_5 _ h2) _ h3) _ h4
  · rw [d0, d1]; exact List.all_eq_true.mp (List.all_eq_true.mp (List.all_eq_true.mp all5_4_0 _ h2) _ h3) _ h4
  · rw [d0, d1]; exact List.all_eq_true.mp (List.all_eq_true.mp (List.all_eq_true.mp all5_4_1 _ h2) _ h3) _ h4
  · rw [d0, d1]; exact List.all_eq_true.mp (List.all_eq_true.mp (List.all_eq_true.mp all5_4_2 _ h2) _ h3) _ h4
  · rw [d0, d1]; exact List.all_eq_true.mp (List.all_eq_true.mp (List.all_eq_true.mp all5_4_3 _ h2) _ h3) _ h4
  · rw [d0, d1]; exact List.all_eq_true.mp (List.all_eq_true.mp (List.all_eq_true.mp all5_4_4 _ h2) _ h3) _ h4
  · rw [d0, d1]; exact List.all_eq_true.mp (List.all_eq_true.mp (List.all_eq_true.mp all5_4_5 _ h2) _ h3) _ h4
  · rw [d0, d1]; exact List.all_eq_true.mp (List.all_eq_true.mp (List.all_eq_true.mp all5_5_0 _ h2) _ h3) _ h4
  · rw [d0, d1]; exact List.all_eq_true.mp (List.all_eq_true.mp (List.all_eq_true.mp all5_5_1 _ h2) _ h3) _ h4
  · rw [d0, d1]; exact List.all_eq_true.mp (List.all_eq_true.mp (List.all_eq_true.mp all5_5_2 _ h2) _ h3) _ h4
  · rw [d0, d1]; exact List.all_eq_true.mp (List.all_eq_true.mp (List.all_eq_true.mp all5_5_3 _ h2) _ h3) _ h4
  · rw [d0, d1]; exact List.all_eq_true.mp (List.all_eq_true.mp (List.all_eq_true.mp all5_5_4 _ h2) _ h3) _ h4
  · rw [d0, d1]; exact List.all_eq_true.mp (List.all_eq_true.mp (List.all_eq_true.mp all5_5_5 _ h2) _ h3) _ h4
theorem own_6 (x : Int32) (h : 0 ≤ x.toInt ∧ x.toInt < 6) : x = 0 ∨ x = 1 ∨ x = 2 ∨ x = 3 ∨ x = 4 ∨ x = 5 := by
  simp only [← Int32.toInt_inj, Int32.reduceToInt]
  omega
set_option maxRecDepth 65536 in
set_option maxHeartbeats 40000000 in
theorem law_ok (hw : oHw a0 Z) (size a b c d e : Int32) : ∃ H', oMet l Z n0 oKT oMx [.int size, .int a, .int b, .int c, .int d, .int e] [] (some (.int 1)) H' := by
  have hK := oK_ok
  have hC := (fs6 hw : oFsOk l Z n0 oKT oMT [f0, f1, f2, f3, f4, f5]).call
  have R0 := oReach.run (l := l) (n0 := n0) (q := oMx) (CT := oCT) (MT := oMT) (callf := (oCall [f0, f1, f2, f3, f4, f5])) (ops := oPx) (n := 6) (st := (0, #[.val (.int size), .val (.int a), .val (.int b), .val (.int c), .val (.int d), .val (.int e), .unset, .unset, .unset, .unset], [], [], 0, 0)) (st' := (9, #[.val (.int size), .val (.int a), .val (.int b), .val (.int c), .val (.int d), .val (.int e), .val (.int ((size &&& (2147483647 : Int32)) % (6 : Int32))), .unset, .unset, .unset], [], [], 0, 0)) hw hK hC opsx rfl
  have hn : ((size &&& (2147483647 : Int32)) % (6 : Int32)) = 0 ∨ ((size &&& (2147483647 : Int32)) % (6 : Int32)) = 1 ∨ ((size &&& (2147483647 : Int32)) % (6 : Int32)) = 2 ∨ ((size &&& (2147483647 : Int32)) % (6 : Int32)) = 3 ∨ ((size &&& (2147483647 : Int32)) % (6 : Int32)) = 4 ∨ ((size &&& (2147483647 : Int32)) % (6 : Int32)) = 5 := own_6 _ (by have q1 := c_and size (2147483647 : Int32) (by decide); have q2 := (c_irem (size &&& (2147483647 : Int32)) (6 : Int32) 6 rfl).1 q1.1; omega)
  rcases hn with hn | hn | hn | hn | hn | hn <;> rw [hn] at R0
  · have R1 := R0.trans (oReach.run (l := l) (n0 := n0) (q := oMx) (CT := oCT) (MT := oMT) (callf := (oCall [f0, f1, f2, f3, f4, f5])) (ops := oPx) (n := 3) (st' := (14, #[.val (.int size), .val (.int a), .val (.int b), .val (.int c), .val (.int d), .val (.int e), .val (.int (0 : Int32)), .unset, .unset, .unset], [.int (0 : Int32), .int a, .int (0 : Int32)], [], 0, 0)) hw hK hC opsx rfl)
    have R2 := R1.trans (oReach.mS (CT := oCT) (MT := oMT) (ops := oPx) hw hK opsx (met0 (l := l) (n0 := n0) hw a) rfl (by decide) rfl rfl rfl)
    have R3 := R2.trans (oReach.run (l := l) (n0 := n0) (q := oMx) (CT := oCT) (MT := oMT) (callf := (oCall [f0, f1, f2, f3, f4, f5])) (ops := oPx) (n := 2) (st' := (20, #[.val (.int size), .val (.int a), .val (.int b), .val (.int c), .val (.int d), .val (.int e), .val (.int (0 : Int32)), .unset, .unset, .unset], [.int (0 : Int32), .int b, .int (((a &&& (2147483647 : Int32)) % (1 : Int32)) - (1 : Int32)), .int (0 : Int32)], [], 0, 0)) hw hK hC opsx rfl)
    have R4 := R3.trans (oReach.mS (CT := oCT) (MT := oMT) (ops := oPx) hw hK opsx (met0 (l := l) (n0 := n0) hw b) rfl (by decide) rfl rfl rfl)
    have R5 := R4.trans (oReach.run (l := l) (n0 := n0) (q := oMx) (CT := oCT) (MT := oMT) (callf := (oCall [f0, f1, f2, f3, f4, f5])) (ops := oPx) (n := 2) (st' := (26, #[.val (.int size), .val (.int a), .val (.int b), .val (.int c), .val (.int d), .val (.int e), .val (.int (0 : Int32)), .unset, .unset, .unset], [.int (0 : Int32), .int c, .int (((b &&& (2147483647 : Int32)) % (1 : Int32)) - (1 : Int32)), .int (((a &&& (2147483647 : Int32)) % (1 : Int32)) - (1 : Int32)), .int (0 : Int32)], [], 0, 0)) hw hK hC opsx rfl)
    have R6 := R5.trans (oReach.mS (CT := oCT) (MT := oMT) (ops := oPx) hw hK opsx (met0 (l := l) (n0 := n0) hw c) rfl (by decide) rfl rfl rfl)
    have R7 := R6.trans (oReach.run (l := l) (n0 := n0) (q := oMx) (CT := oCT) (MT := oMT) (callf := (oCall [f0, f1, f2, f3, f4, f5])) (ops := oPx) (n := 2) (st' := (33, #[.val (.int size), .val (.int a), .val (.int b), .val (.int c), .val (.int d), .val (.int e), .val (.int (0 : Int32)), .unset, .unset, .unset], [.int (0 : Int32), .int d, .int (((c &&& (2147483647 : Int32)) % (1 : Int32)) - (1 : Int32)), .int (((b &&& (2147483647 : Int32)) % (1 : Int32)) - (1 : Int32)), .int (((a &&& (2147483647 : Int32)) % (1 : Int32)) - (1 : Int32)), .int (0 : Int32)], [], 0, 0)) hw hK hC opsx rfl)
    have R8 := R7.trans (oReach.mS (CT := oCT) (MT := oMT) (ops := oPx) hw hK opsx (met0 (l := l) (n0 := n0) hw d) rfl (by decide) rfl rfl rfl)
    have R9 := R8.trans (oReach.run (l := l) (n0 := n0) (q := oMx) (CT := oCT) (MT := oMT) (callf := (oCall [f0, f1, f2, f3, f4, f5])) (ops := oPx) (n := 2) (st' := (40, #[.val (.int size), .val (.int a), .val (.int b), .val (.int c), .val (.int d), .val (.int e), .val (.int (0 : Int32)), .unset, .unset, .unset], [.int (0 : Int32), .int e, .int (((d &&& (2147483647 : Int32)) % (1 : Int32)) - (1 : Int32)), .int (((c &&& (2147483647 : Int32)) % (1 : Int32)) - (1 : Int32)), .int (((b &&& (2147483647 : Int32)) % (1 : Int32)) - (1 : Int32)), .int (((a &&& (2147483647 : Int32)) % (1 : Int32)) - (1 : Int32)), .int (0 : Int32)], [], 0, 0)) hw hK hC opsx rfl)
    have R10 := R9.trans (oReach.mS (CT := oCT) (MT := oMT) (ops := oPx) hw hK opsx (met0 (l := l) (n0 := n0) hw e) rfl (by decide) rfl rfl rfl)
    have R11 := R10.trans (oReach.mS (CT := oCT) (MT := oMT) (ops := oPx) hw hK opsx (met1 (l := l) (n0 := n0) hw (((a &&& (2147483647 : Int32)) % (1 : Int32)) - (1 : Int32)) (((b &&& (2147483647 : Int32)) % (1 : Int32)) - (1 : Int32)) (((c &&& (2147483647 : Int32)) % (1 : Int32)) - (1 : Int32)) (((d &&& (2147483647 : Int32)) % (1 : Int32)) - (1 : Int32)) (((e &&& (2147483647 : Int32)) % (1 : Int32)) - (1 : Int32))) rfl (by decide) rfl rfl rfl)
    have R12 := R11.trans (oReach.run (l := l) (n0 := n0) (q := oMx) (CT := oCT) (MT := oMT) (callf := (oCall [f0, f1, f2, f3, f4, f5])) (ops := oPx) (n := 1) (st' := (48, #[.val (.int size), .val (.int a), .val (.int b), .val (.int c), .val (.int d), .val (.int e), .val (.int (0 : Int32)), .val (.ref 0), .unset, .unset], [], [.inr (.int, [])], 1, 5)) hw hK hC opsx rfl)
    have R1 := R12
    exact oLaw_of_res hw hK hC pnx opsx (n := 60) (st := (48, #[.val (.retAddr 0), .val (.retAddr 0), .val (.retAddr 0), .val (.retAddr 0), .val (.retAddr 0), .val (.retAddr 0), .val (.int (0 : Int32)), .val (.ref 0), .unset, .unset], [], [.inr (.int, [])], 1, 5)) (R1.trans (oReach.hav [true, true, true, true, true, true])) (kern0  )
  · have R1 := R0.trans (oReach.run (l := l) (n0 := n0) (q := oMx) (CT := oCT) (MT := oMT) (callf := (oCall [f0, f1, f2, f3, f4, f5])) (ops := oPx) (n := 3) (st' := (14, #[.val (.int size), .val (.int a), .val (.int b), .val (.int c), .val (.int d), .val (.int e), .val (.int (1 : Int32)), .unset, .unset, .unset], [.int (1 : Int32), .int a, .int (1 : Int32)], [], 0, 0)) hw hK hC opsx rfl)
    have R2 := R1.trans (oReach.mS (CT := oCT) (MT := oMT) (ops := oPx) hw hK opsx (met2 (l := l) (n0 := n0) hw a) rfl (by decide) rfl rfl rfl)
    have R3 := R2.trans (oReach.run (l := l) (n0 := n0) (q := oMx) (CT := oCT) (MT := oMT) (callf := (oCall [f0, f1, f2, f3, f4, f5])) (ops := oPx) (n := 2) (st' := (20, #[.val (.int size), .val (.int a), .val (.int b), .val (.int c), .val (.int d), .val (.int e), .val (.int (1 : Int32)), .unset, .unset, .unset], [.int (1 : Int32), .int b, .int (((a &&& (2147483647 : Int32)) % (2 : Int32)) - (1 : Int32)), .int (1 : Int32)], [], 0, 0)) hw hK hC opsx rfl)
    have R4 := R3.trans (oReach.mS (CT := oCT) (MT := oMT) (ops := oPx) hw hK opsx (met2 (l := l) (n0 := n0) hw b) rfl (by decide) rfl rfl rfl)
    have R5 := R4.trans (oReach.run (l := l) (n0 := n0) (q := oMx) (CT := oCT) (MT := oMT) (callf := (oCall [f0, f1, f2, f3, f4, f5])) (ops := oPx) (n := 2) (st' := (26, #[.val (.int size), .val (.int a), .val (.int b), .val (.int c), .val (.int d), .val (.int e), .val (.int (1 : Int32)), .unset, .unset, .unset], [.int (1 : Int32), .int c, .int (((b &&& (2147483647 : Int32)) % (2 : Int32)) - (1 : Int32)), .int (((a &&& (2147483647 : Int32)) % (2 : Int32)) - (1 : Int32)), .int (1 : Int32)], [], 0, 0)) hw hK hC opsx rfl)
    have R6 := R5.trans (oReach.mS (CT := oCT) (MT := oMT) (ops := oPx) hw hK opsx (met2 (l := l) (n0 := n0) hw c) rfl (by decide) rfl rfl rfl)
    have R7 := R6.trans (oReach.run (l := l) (n0 := n0) (q := oMx) (CT := oCT) (MT := oMT) (callf := (oCall [f0, f1, f2, f3, f4, f5])) (ops := oPx) (n := 2) (st' := (33, #[.val (.int size), .val (.int a), .val (.int b), .val (.int c), .val (.int d), .val (.int e), .val (.int (1 : Int32)), .unset, .unset, .unset], [.int (1 : Int32), .int d, .int (((c &&& (2147483647 : Int32)) % (2 : Int32)) - (1 : Int32)), .int (((b &&& (2147483647 : Int32)) % (2 : Int32)) - (1 : Int32)), .int (((a &&& (2147483647 : Int32)) % (2 : Int32)) - (1 : Int32)), .int (1 : Int32)], [], 0, 0)) hw hK hC opsx rfl)
    have R8 := R7.trans (oReach.mS (CT := oCT) (MT := oMT) (ops := oPx) hw hK opsx (met2 (l := l) (n0 := n0) hw d) rfl (by decide) rfl rfl rfl)
    have R9 := R8.trans (oReach.run (l := l) (n0 := n0) (q := oMx) (CT := oCT) (MT := oMT) (callf := (oCall [f0, f1, f2, f3, f4, f5])) (ops := oPx) (n := 2) (st' := (40, #[.val (.int size), .val (.int a), .val (.int b), .val (.int c), .val (.int d), .val (.int e), .val (.int (1 : Int32)), .unset, .unset, .unset], [.int (1 : Int32), .int e, .int (((d &&& (2147483647 : Int32)) % (2 : Int32)) - (1 : Int32)), .int (((c &&& (2147483647 : Int32)) % (2 : Int32)) - (1 : Int32)), .int (((b &&& (2147483647 : Int32)) % (2 : Int32)) - (1 : Int32)), .int (((a &&& (2147483647 : Int32)) % (2 : Int32)) - (1 : Int32)), .int (1 : Int32)], [], 0, 0)) hw hK hC opsx rfl)
    have R10 := R9.trans (oReach.mS (CT := oCT) (MT := oMT) (ops := oPx) hw hK opsx (met2 (l := l) (n0 := n0) hw e) rfl (by decide) rfl rfl rfl)
    have R11 := R10.trans (oReach.mS (CT := oCT) (MT := oMT) (ops := oPx) hw hK opsx (met3 (l := l) (n0 := n0) hw (((a &&& (2147483647 : Int32)) % (2 : Int32)) - (1 : Int32)) (((b &&& (2147483647 : Int32)) % (2 : Int32)) - (1 : Int32)) (((c &&& (2147483647 : Int32)) % (2 : Int32)) - (1 : Int32)) (((d &&& (2147483647 : Int32)) % (2 : Int32)) - (1 : Int32)) (((e &&& (2147483647 : Int32)) % (2 : Int32)) - (1 : Int32))) rfl (by decide) rfl rfl rfl)
    have R12 := R11.trans (oReach.run (l := l) (n0 := n0) (q := oMx) (CT := oCT) (MT := oMT) (callf := (oCall [f0, f1, f2, f3, f4, f5])) (ops := oPx) (n := 1) (st' := (48, #[.val (.int size), .val (.int a), .val (.int b), .val (.int c), .val (.int d), .val (.int e), .val (.int (1 : Int32)), .val (.ref 0), .unset, .unset], [], [.inr (.int, [(((a &&& (2147483647 : Int32)) % (2 : Int32)) - (1 : Int32))])], 1, 5)) hw hK hC opsx rfl)
    have R1 := R12
    have h0 : (((a &&& (2147483647 : Int32)) % (2 : Int32)) - (1 : Int32)) ∈ own_L1 := own_m1 a
    generalize (((a &&& (2147483647 : Int32)) % (2 : Int32)) - (1 : Int32)) = e0 at R1 h0
    exact oLaw_of_res hw hK hC pnx opsx (n := 60) (st := (48, #[.val (.retAddr 0), .val (.retAddr 0), .val (.retAddr 0), .val (.retAddr 0), .val (.retAddr 0), .val (.retAddr 0), .val (.int (1 : Int32)), .val (.ref 0), .unset, .unset], [], [.inr (.int, [e0])], 1, 5)) (R1.trans (oReach.hav [true, true, true, true, true, true])) (kern1 e0 h0)
  · have R1 := R0.trans (oReach.run (l := l) (n0 := n0) (q := oMx) (CT := oCT) (MT := oMT) (callf := (oCall [f0, f1, f2, f3, f4, f5])) (ops := oPx) (n := 3) (st' := (14, #[.val (.int size), .val (.int a), .val (.int b), .val (.int c), .val (.int d), .val (.int e), .val (.int (2 : Int32)), .unset, .unset, .unset], [.int (2 : Int32), .int a, .int (2 : Int32)], [], 0, 0)) hw hK hC opsx rfl)
    have R2 := R1.trans (oReach.mS (CT := oCT) (MT := oMT) (ops := oPx) hw hK opsx (met4 (l := l) (n0 := n0) hw a) rfl (by decide) rfl rfl rfl)
    have R3 := R2.trans (oReach.run (l := l) (n0 := n0) (q := oMx) (CT := oCT) (MT := oMT) (callf := (oCall [f0, f1, f2, f3, f4, f5])) (ops := oPx) (n := 2) (st' := (20, #[.val (.int size), .val (.int a), .val (.int b), .val (.int c), .val (.int d), .val (.int e), .val (.int (2 : Int32)), .unset, .unset, .unset], [.int (2 : Int32), .int b, .int (((a &&& (2147483647 : Int32)) % (3 : Int32)) - (1 : Int32)), .int (2 : Int32)], [], 0, 0)) hw hK hC opsx rfl)
    have R4 := R3.trans (oReach.mS (CT := oCT) (MT := oMT) (ops := oPx) hw hK opsx (met4 (l := l) (n0 := n0) hw b) rfl (by decide) rfl rfl rfl)
    have R5 := R4.trans (oReach.run (l := l) (n0 := n0) (q := oMx) (CT := oCT) (MT := oMT) (callf := (oCall [f0, f1, f2, f3, f4, f5])) (ops := oPx) (n := 2) (st' := (26, #[.val (.int size), .val (.int a), .val (.int b), .val (.int c), .val (.int d), .val (.int e), .val (.int (2 : Int32)), .unset, .unset, .unset], [.int (2 : Int32), .int c, .int (((b &&& (2147483647 : Int32)) % (3 : Int32)) - (1 : Int32)), .int (((a &&& (2147483647 : Int32)) % (3 : Int32)) - (1 : Int32)), .int (2 : Int32)], [], 0, 0)) hw hK hC opsx rfl)
    have R6 := R5.trans (oReach.mS (CT := oCT) (MT := oMT) (ops := oPx) hw hK opsx (met4 (l := l) (n0 := n0) hw c) rfl (by decide) rfl rfl rfl)
    have R7 := R6.trans (oReach.run (l := l) (n0 := n0) (q := oMx) (CT := oCT) (MT := oMT) (callf := (oCall [f0, f1, f2, f3, f4, f5])) (ops := oPx) (n := 2) (st' := (33, #[.val (.int size), .val (.int a), .val (.int b), .val (.int c), .val (.int d), .val (.int e), .val (.int (2 : Int32)), .unset, .unset, .unset], [.int (2 : Int32), .int d, .int (((c &&& (2147483647 : Int32)) % (3 : Int32)) - (1 : Int32)), .int (((b &&& (2147483647 : Int32)) % (3 : Int32)) - (1 : Int32)), .int (((a &&& (2147483647 : Int32)) % (3 : Int32)) - (1 : Int32)), .int (2 : Int32)], [], 0, 0)) hw hK hC opsx rfl)
    have R8 := R7.trans (oReach.mS (CT := oCT) (MT := oMT) (ops := oPx) hw hK opsx (met4 (l := l) (n0 := n0) hw d) rfl (by decide) rfl rfl rfl)
    have R9 := R8.trans (oReach.run (l := l) (n0 := n0) (q := oMx) (CT := oCT) (MT := oMT) (callf := (oCall [f0, f1, f2, f3, f4, f5])) (ops := oPx) (n := 2) (st' := (40, #[.val (.int size), .val (.int a), .val (.int b), .val (.int c), .val (.int d), .val (.int e), .val (.int (2 : Int32)), .unset, .unset, .unset], [.int (2 : Int32), .int e, .int (((d &&& (2147483647 : Int32)) % (3 : Int32)) - (1 : Int32)), .int (((c &&& (2147483647 : Int32)) % (3 : Int32)) - (1 : Int32)), .int (((b &&& (2147483647 : Int32)) % (3 : Int32)) - (1 : Int32)), .int (((a &&& (2147483647 : Int32)) % (3 : Int32)) - (1 : Int32)), .int (2 : Int32)], [], 0, 0)) hw hK hC opsx rfl)
    have R10 := R9.trans (oReach.mS (CT := oCT) (MT := oMT) (ops := oPx) hw hK opsx (met4 (l := l) (n0 := n0) hw e) rfl (by decide) rfl rfl rfl)
    have R11 := R10.trans (oReach.mS (CT := oCT) (MT := oMT) (ops := oPx) hw hK opsx (met5 (l := l) (n0 := n0) hw (((a &&& (2147483647 : Int32)) % (3 : Int32)) - (1 : Int32)) (((b &&& (2147483647 : Int32)) % (3 : Int32)) - (1 : Int32)) (((c &&& (2147483647 : Int32)) % (3 : Int32)) - (1 : Int32)) (((d &&& (2147483647 : Int32)) % (3 : Int32)) - (1 : Int32)) (((e &&& (2147483647 : Int32)) % (3 : Int32)) - (1 : Int32))) rfl (by decide) rfl rfl rfl)
    have R12 := R11.trans (oReach.run (l := l) (n0 := n0) (q := oMx) (CT := oCT) (MT := oMT) (callf := (oCall [f0, f1, f2, f3, f4, f5])) (ops := oPx) (n := 1) (st' := (48, #[.val (.int size), .val (.int a), .val (.int b), .val (.int c), .val (.int d), .val (.int e), .val (.int (2 : Int32)), .val (.ref 0), .unset, .unset], [], [.inr (.int, [(((a &&& (2147483647 : Int32)) % (3 : Int32)) - (1 : Int32)), (((b &&& (2147483647 : Int32)) % (3 : Int32)) - (1 : Int32))])], 1, 5)) hw hK hC opsx rfl)
    have R1 := R12
    have h0 : (((a &&& (2147483647 : Int32)) % (3 : Int32)) - (1 : Int32)) ∈ own_L2 := own_m2 a
    generalize (((a &&& (2147483647 : Int32)) % (3 : Int32)) - (1 : Int32)) = e0 at R1 h0
    have h1 : (((b &&& (2147483647 : Int32)) % (3 : Int32)) - (1 : Int32)) ∈ own_L2 := own_m2 b
    generalize (((b &&& (2147483647 : Int32)) % (3 : Int32)) - (1 : Int32)) = e1 at R1 h1
    exact oLaw_of_res hw hK hC pnx opsx (n := 60) (st := (48, #[.val (.retAddr 0), .val (.retAddr 0), .val (.retAddr 0), .val (.retAddr 0), .val (.retAddr 0), .val (.retAddr 0), .val (.int (2 : Int32)), .val (.ref 0), .unset, .unset], [], [.inr (.int, [e0, e1])], 1, 5)) (R1.trans (oReach.hav [true, true, true, true, true, true])) (kern2 e0 e1 h0 h1)
  · have R1 := R0.trans (oReach.run (l := l) (n0 := n0) (q := oMx) (CT := oCT) (MT := oMT) (callf := (oCall [f0, f1, f2, f3, f4, f5])) (ops := oPx) (n := 3) (st' := (14, #[.val (.int size), .val (.int a), .val (.int b), .val (.int c), .val (.int d), .val (.int e), .val (.int (3 : Int32)), .unset, .unset, .unset], [.int (3 : Int32), .int a, .int (3 : Int32)], [], 0, 0)) hw hK hC opsx rfl)
    have R2 := R1.trans (oReach.mS (CT := oCT) (MT := oMT) (ops := oPx) hw hK opsx (met6 (l := l) (n0 := n0) hw a) rfl (by decide) rfl rfl rfl)
    have R3 := R2.trans (oReach.run (l := l) (n0 := n0) (q := oMx) (CT := oCT) (MT := oMT) (callf := (oCall [f0, f1, f2, f3, f4, f5])) (ops := oPx) (n := 2) (st' := (20, #[.val (.int size), .val (.int a), .val (.int b), .val (.int c), .val (.int d), .val (.int e), .val (.int (3 : Int32)), .unset, .unset, .unset], [.int (3 : Int32), .int b, .int (((a &&& (2147483647 : Int32)) % (4 : Int32)) - (1 : Int32)), .int (3 : Int32)], [], 0, 0)) hw hK hC opsx rfl)
    have R4 := R3.trans (oReach.mS (CT := oCT) (MT := oMT) (ops := oPx) hw hK opsx (met6 (l := l) (n0 := n0) hw b) rfl (by decide) rfl rfl rfl)
    have R5 := R4.trans (oReach.run (l := l) (n0 := n0) (q := oMx) (CT := oCT) (MT := oMT) (callf := (oCall [f0, f1, f2, f3, f4, f5])) (ops := oPx) (n := 2) (st' := (26, #[.val (.int size), .val (.int a), .val (.int b), .val (.int c), .val (.int d), .val (.int e), .val (.int (3 : Int32)), .unset, .unset, .unset], [.int (3 : Int32), .int c, .int (((b &&& (2147483647 : Int32)) % (4 : Int32)) - (1 : Int32)), .int (((a &&& (2147483647 : Int32)) % (4 : Int32)) - (1 : Int32)), .int (3 : Int32)], [], 0, 0)) hw hK hC opsx rfl)
    have R6 := R5.trans (oReach.mS (CT := oCT) (MT := oMT) (ops := oPx) hw hK opsx (met6 (l := l) (n0 := n0) hw c) rfl (by decide) rfl rfl rfl)
    have R7 := R6.trans (oReach.run (l := l) (n0 := n0) (q := oMx) (CT := oCT) (MT := oMT) (callf := (oCall [f0, f1, f2, f3, f4, f5])) (ops := oPx) (n := 2) (st' := (33, #[.val (.int size), .val (.int a), .val (.int b), .val (.int c), .val (.int d), .val (.int e), .val (.int (3 : Int32)), .unset, .unset, .unset], [.int (3 : Int32), .int d, .int (((c &&& (2147483647 : Int32)) % (4 : Int32)) - (1 : Int32)), .int (((b &&& (2147483647 : Int32)) % (4 : Int32)) - (1 : Int32)), .int (((a &&& (2147483647 : Int32)) % (4 : Int32)) - (1 : Int32)), .int (3 : Int32)], [], 0, 0)) hw hK hC opsx rfl)
    have R8 := R7.trans (oReach.mS (CT := oCT) (MT := oMT) (ops := oPx) hw hK opsx (met6 (l := l) (n0 := n0) hw d) rfl (by decide) rfl rfl rfl)
    have R9 := R8.trans (oReach.run (l := l) (n0 := n0) (q := oMx) (CT := oCT) (MT := oMT) (callf := (oCall [f0, f1, f2, f3, f4, f5])) (ops := oPx) (n := 2) (st' := (40, #[.val (.int size), .val (.int a), .val (.int b), .val (.int c), .val (.int d), .val (.int e), .val (.int (3 : Int32)), .unset, .unset, .unset], [.int (3 : Int32), .int e, .int (((d &&& (2147483647 : Int32)) % (4 : Int32)) - (1 : Int32)), .int (((c &&& (2147483647 : Int32)) % (4 : Int32)) - (1 : Int32)), .int (((b &&& (2147483647 : Int32)) % (4 : Int32)) - (1 : Int32)), .int (((a &&& (2147483647 : Int32)) % (4 : Int32)) - (1 : Int32)), .int (3 : Int32)], [], 0, 0)) hw hK hC opsx rfl)
    have R10 := R9.trans (oReach.mS (CT := oCT) (MT := oMT) (ops := oPx) hw hK opsx (met6 (l := l) (n0 := n0) hw e) rfl (by decide) rfl rfl rfl)
    have R11 := R10.trans (oReach.mS (CT := oCT) (MT := oMT) (ops := oPx) hw hK opsx (met7 (l := l) (n0 := n0) hw (((a &&& (2147483647 : Int32)) % (4 : Int32)) - (1 : Int32)) (((b &&& (2147483647 : Int32)) % (4 : Int32)) - (1 : Int32)) (((c &&& (2147483647 : Int32)) % (4 : Int32)) - (1 : Int32)) (((d &&& (2147483647 : Int32)) % (4 : Int32)) - (1 : Int32)) (((e &&& (2147483647 : Int32)) % (4 : Int32)) - (1 : Int32))) rfl (by decide) rfl rfl rfl)
    have R12 := R11.trans (oReach.run (l := l) (n0 := n0) (q := oMx) (CT := oCT) (MT := oMT) (callf := (oCall [f0, f1, f2, f3, f4, f5])) (ops := oPx) (n := 1) (st' := (48, #[.val (.int size), .val (.int a), .val (.int b), .val (.int c), .val (.int d), .val (.int e), .val (.int (3 : Int32)), .val (.ref 0), .unset, .unset], [], [.inr (.int, [(((a &&& (2147483647 : Int32)) % (4 : Int32)) - (1 : Int32)), (((b &&& (2147483647 : Int32)) % (4 : Int32)) - (1 : Int32)), (((c &&& (2147483647 : Int32)) % (4 : Int32)) - (1 : Int32))])], 1, 5)) hw hK hC opsx rfl)
    have R1 := R12
    have h0 : (((a &&& (2147483647 : Int32)) % (4 : Int32)) - (1 : Int32)) ∈ own_L3 := own_m3 a
    generalize (((a &&& (2147483647 : Int32)) % (4 : Int32)) - (1 : Int32)) = e0 at R1 h0
    have h1 : (((b &&& (2147483647 : Int32)) % (4 : Int32)) - (1 : Int32)) ∈ own_L3 := own_m3 b
    generalize (((b &&& (2147483647 : Int32)) % (4 : Int32)) - (1 : Int32)) = e1 at R1 h1
    have h2 : (((c &&& (2147483647 : Int32)) % (4 : Int32)) - (1 : Int32)) ∈ own_L3 := own_m3 c
    generalize (((c &&& (2147483647 : Int32)) % (4 : Int32)) - (1 : Int32)) = e2 at R1 h2
    exact oLaw_of_res hw hK hC pnx opsx (n := 60) (st := (48, #[.val (.retAddr 0), .val (.retAddr 0), .val (.retAddr 0), .val (.retAddr 0), .val (.retAddr 0), .val (.retAddr 0), .val (.int (3 : Int32)), .val (.ref 0), .unset, .unset], [], [.inr (.int, [e0, e1, e2])], 1, 5)) (R1.trans (oReach.hav [true, true, true, true, true, true])) (kern3 e0 e1 e2 h0 h1 h2)
  · have R1 := R0.trans (oReach.run (l := l) (n0 := n0) (q := oMx) (CT := oCT) (MT := oMT) (callf := (oCall [f0, f1, f2, f3, f4, f5])) (ops := oPx) (n := 3) (st' := (14, #[.val (.int size), .val (.int a), .val (.int b), .val (.int c), .val (.int d), .val (.int e), .val (.int (4 : Int32)), .unset, .unset, .unset], [.int (4 : Int32), .int a, .int (4 : Int32)], [], 0, 0)) hw hK hC opsx rfl)
    have R2 := R1.trans (oReach.mS (CT := oCT) (MT := oMT) (ops := oPx) hw hK opsx (met8 (l := l) (n0 := n0) hw a) rfl (by decide) rfl rfl rfl)
    have R3 := R2.trans (oReach.run (l := l) (n0 := n0) (q := oMx) (CT := oCT) (MT := oMT) (callf := (oCall [f0, f1, f2, f3, f4, f5])) (ops := oPx) (n := 2) (st' := (20, #[.val (.int size), .val (.int a), .val (.int b), .val (.int c), .val (.int d), .val (.int e), .val (.int (4 : Int32)), .unset, .unset, .unset], [.int (4 : Int32), .int b, .int (((a &&& (2147483647 : Int32)) % (5 : Int32)) - (1 : Int32)), .int (4 : Int32)], [], 0, 0)) hw hK hC opsx rfl)
    have R4 := R3.trans (oReach.mS (CT := oCT) (MT := oMT) (ops := oPx) hw hK opsx (met8 (l := l) (n0 := n0) hw b) rfl (by decide) rfl rfl rfl)
    have R5 := R4.trans (oReach.run (l := l) (n0 := n0) (q := oMx) (CT := oCT) (MT := oMT) (callf := (oCall [f0, f1, f2, f3, f4, f5])) (ops := oPx) (n := 2) (st' := (26, #[.val (.int size), .val (.int a), .val (.int b), .val (.int c), .val (.int d), .val (.int e), .val (.int (4 : Int32)), .unset, .unset, .unset], [.int (4 : Int32), .int c, .int (((b &&& (2147483647 : Int32)) % (5 : Int32)) - (1 : Int32)), .int (((a &&& (2147483647 : Int32)) % (5 : Int32)) - (1 : Int32)), .int (4 : Int32)], [], 0, 0)) hw hK hC opsx rfl)
    have R6 := R5.trans (oReach.mS (CT := oCT) (MT := oMT) (ops := oPx) hw hK opsx (met8 (l := l) (n0 := n0) hw c) rfl (by decide) rfl rfl rfl)
    have R7 := R6.trans (oReach.run (l := l) (n0 := n0) (q := oMx) (CT := oCT) (MT := oMT) (callf := (oCall [f0, f1, f2, f3, f4, f5])) (ops := oPx) (n := 2) (st' := (33, #[.val (.int size), .val (.int a), .val (.int b), .val (.int c), .val (.int d), .val (.int e), .val (.int (4 : Int32)), .unset, .unset, .unset], [.int (4 : Int32), .int d, .int (((c &&& (2147483647 : Int32)) % (5 : Int32)) - (1 : Int32)), .int (((b &&& (2147483647 : Int32)) % (5 : Int32)) - (1 : Int32)), .int (((a &&& (2147483647 : Int32)) % (5 : Int32)) - (1 : Int32)), .int (4 : Int32)], [], 0, 0)) hw hK hC opsx rfl)
    have R8 := R7.trans (oReach.mS (CT := oCT) (MT := oMT) (ops := oPx) hw hK opsx (met8 (l := l) (n0 := n0) hw d) rfl (by decide) rfl rfl rfl)
    have R9 := R8.trans (oReach.run (l := l) (n0 := n0) (q := oMx) (CT := oCT) (MT := oMT) (callf := (oCall [f0, f1, f2, f3, f4, f5])) (ops := oPx) (n := 2) (st' := (40, #[.val (.int size), .val (.int a), .val (.int b), .val (.int c), .val (.int d), .val (.int e), .val (.int (4 : Int32)), .unset, .unset, .unset], [.int (4 : Int32), .int e, .int (((d &&& (2147483647 : Int32)) % (5 : Int32)) - (1 : Int32)), .int (((c &&& (2147483647 : Int32)) % (5 : Int32)) - (1 : Int32)), .int (((b &&& (2147483647 : Int32)) % (5 : Int32)) - (1 : Int32)), .int (((a &&& (2147483647 : Int32)) % (5 : Int32)) - (1 : Int32)), .int (4 : Int32)], [], 0, 0)) hw hK hC opsx rfl)
    have R10 := R9.trans (oReach.mS (CT := oCT) (MT := oMT) (ops := oPx) hw hK opsx (met8 (l := l) (n0 := n0) hw e) rfl (by decide) rfl rfl rfl)
    have R11 := R10.trans (oReach.mS (CT := oCT) (MT := oMT) (ops := oPx) hw hK opsx (met9 (l := l) (n0 := n0) hw (((a &&& (2147483647 : Int32)) % (5 : Int32)) - (1 : Int32)) (((b &&& (2147483647 : Int32)) % (5 : Int32)) - (1 : Int32)) (((c &&& (2147483647 : Int32)) % (5 : Int32)) - (1 : Int32)) (((d &&& (2147483647 : Int32)) % (5 : Int32)) - (1 : Int32)) (((e &&& (2147483647 : Int32)) % (5 : Int32)) - (1 : Int32))) rfl (by decide) rfl rfl rfl)
    have R12 := R11.trans (oReach.run (l := l) (n0 := n0) (q := oMx) (CT := oCT) (MT := oMT) (callf := (oCall [f0, f1, f2, f3, f4, f5])) (ops := oPx) (n := 1) (st' := (48, #[.val (.int size), .val (.int a), .val (.int b), .val (.int c), .val (.int d), .val (.int e), .val (.int (4 : Int32)), .val (.ref 0), .unset, .unset], [], [.inr (.int, [(((a &&& (2147483647 : Int32)) % (5 : Int32)) - (1 : Int32)), (((b &&& (2147483647 : Int32)) % (5 : Int32)) - (1 : Int32)), (((c &&& (2147483647 : Int32)) % (5 : Int32)) - (1 : Int32)), (((d &&& (2147483647 : Int32)) % (5 : Int32)) - (1 : Int32))])], 1, 5)) hw hK hC opsx rfl)
    have R1 := R12
    have h0 : (((a &&& (2147483647 : Int32)) % (5 : Int32)) - (1 : Int32)) ∈ own_L4 := own_m4 a
    generalize (((a &&& (2147483647 : Int32)) % (5 : Int32)) - (1 : Int32)) = e0 at R1 h0
    have h1 : (((b &&& (2147483647 : Int32)) % (5 : Int32)) - (1 : Int32)) ∈ own_L4 := own_m4 b
    generalize (((b &&& (2147483647 : Int32)) % (5 : Int32)) - (1 : Int32)) = e1 at R1 h1
    have h2 : (((c &&& (2147483647 : Int32)) % (5 : Int32)) - (1 : Int32)) ∈ own_L4 := own_m4 c
    generalize (((c &&& (2147483647 : Int32)) % (5 : Int32)) - (1 : Int32)) = e2 at R1 h2
    have h3 : (((d &&& (2147483647 : Int32)) % (5 : Int32)) - (1 : Int32)) ∈ own_L4 := own_m4 d
    generalize (((d &&& (2147483647 : Int32)) % (5 : Int32)) - (1 : Int32)) = e3 at R1 h3
    exact oLaw_of_res hw hK hC pnx opsx (n := 60) (st := (48, #[.val (.retAddr 0), .val (.retAddr 0), .val (.retAddr 0), .val (.retAddr 0), .val (.retAddr 0), .val (.retAddr 0), .val (.int (4 : Int32)), .val (.ref 0), .unset, .unset], [], [.inr (.int, [e0, e1, e2, e3])], 1, 5)) (R1.trans (oReach.hav [true, true, true, true, true, true])) (kern4 e0 e1 e2 e3 h0 h1 h2 h3)
  · have R1 := R0.trans (oReach.run (l := l) (n0 := n0) (q := oMx) (CT := oCT) (MT := oMT) (callf := (oCall [f0, f1, f2, f3, f4, f5])) (ops := oPx) (n := 3) (st' := (14, #[.val (.int size), .val (.int a), .val (.int b), .val (.int c), .val (.int d), .val (.int e), .val (.int (5 : Int32)), .unset, .unset, .unset], [.int (5 : Int32), .int a, .int (5 : Int32)], [], 0, 0)) hw hK hC opsx rfl)
    have R2 := R1.trans (oReach.mS (CT := oCT) (MT := oMT) (ops := oPx) hw hK opsx (met10 (l := l) (n0 := n0) hw a) rfl (by decide) rfl rfl rfl)
    have R3 := R2.trans (oReach.run (l := l) (n0 := n0) (q := oMx) (CT := oCT) (MT := oMT) (callf := (oCall [f0, f1, f2, f3, f4, f5])) (ops := oPx) (n := 2) (st' := (20, #[.val (.int size), .val (.int a), .val (.int b), .val (.int c), .val (.int d), .val (.int e), .val (.int (5 : Int32)), .unset, .unset, .unset], [.int (5 : Int32), .int b, .int (((a &&& (2147483647 : Int32)) % (6 : Int32)) - (1 : Int32)), .int (5 : Int32)], [], 0, 0)) hw hK hC opsx rfl)
    have R4 := R3.trans (oReach.mS (CT := oCT) (MT := oMT) (ops := oPx) hw hK opsx (met10 (l := l) (n0 := n0) hw b) rfl (by decide) rfl rfl rfl)
    have R5 := R4.trans (oReach.run (l := l) (n0 := n0) (q := oMx) (CT := oCT) (MT := oMT) (callf := (oCall [f0, f1, f2, f3, f4, f5])) (ops := oPx) (n := 2) (st' := (26, #[.val (.int size), .val (.int a), .val (.int b), .val (.int c), .val (.int d), .val (.int e), .val (.int (5 : Int32)), .unset, .unset, .unset], [.int (5 : Int32), .int c, .int (((b &&& (2147483647 : Int32)) % (6 : Int32)) - (1 : Int32)), .int (((a &&& (2147483647 : Int32)) % (6 : Int32)) - (1 : Int32)), .int (5 : Int32)], [], 0, 0)) hw hK hC opsx rfl)
    have R6 := R5.trans (oReach.mS (CT := oCT) (MT := oMT) (ops := oPx) hw hK opsx (met10 (l := l) (n0 := n0) hw c) rfl (by decide) rfl rfl rfl)
    have R7 := R6.trans (oReach.run (l := l) (n0 := n0) (q := oMx) (CT := oCT) (MT := oMT) (callf := (oCall [f0, f1, f2, f3, f4, f5])) (ops := oPx) (n := 2) (st' := (33, #[.val (.int size), .val (.int a), .val (.int b), .val (.int c), .val (.int d), .val (.int e), .val (.int (5 : Int32)), .unset, .unset, .unset], [.int (5 : Int32), .int d, .int (((c &&& (2147483647 : Int32)) % (6 : Int32)) - (1 : Int32)), .int (((b &&& (2147483647 : Int32)) % (6 : Int32)) - (1 : Int32)), .int (((a &&& (2147483647 : Int32)) % (6 : Int32)) - (1 : Int32)), .int (5 : Int32)], [], 0, 0)) hw hK hC opsx rfl)
    have R8 := R7.trans (oReach.mS (CT := oCT) (MT := oMT) (ops := oPx) hw hK opsx (met10 (l := l) (n0 := n0) hw d) rfl (by decide) rfl rfl rfl)
    have R9 := R8.trans (oReach.run (l := l) (n0 := n0) (q := oMx) (CT := oCT) (MT := oMT) (callf := (oCall [f0, f1, f2, f3, f4, f5])) (ops := oPx) (n := 2) (st' := (40, #[.val (.int size), .val (.int a), .val (.int b), .val (.int c), .val (.int d), .val (.int e), .val (.int (5 : Int32)), .unset, .unset, .unset], [.int (5 : Int32), .int e, .int (((d &&& (2147483647 : Int32)) % (6 : Int32)) - (1 : Int32)), .int (((c &&& (2147483647 : Int32)) % (6 : Int32)) - (1 : Int32)), .int (((b &&& (2147483647 : Int32)) % (6 : Int32)) - (1 : Int32)), .int (((a &&& (2147483647 : Int32)) % (6 : Int32)) - (1 : Int32)), .int (5 : Int32)], [], 0, 0)) hw hK hC opsx rfl)
    have R10 := R9.trans (oReach.mS (CT := oCT) (MT := oMT) (ops := oPx) hw hK opsx (met10 (l := l) (n0 := n0) hw e) rfl (by decide) rfl rfl rfl)
    have R11 := R10.trans (oReach.mS (CT := oCT) (MT := oMT) (ops := oPx) hw hK opsx (met11 (l := l) (n0 := n0) hw (((a &&& (2147483647 : Int32)) % (6 : Int32)) - (1 : Int32)) (((b &&& (2147483647 : Int32)) % (6 : Int32)) - (1 : Int32)) (((c &&& (2147483647 : Int32)) % (6 : Int32)) - (1 : Int32)) (((d &&& (2147483647 : Int32)) % (6 : Int32)) - (1 : Int32)) (((e &&& (2147483647 : Int32)) % (6 : Int32)) - (1 : Int32))) rfl (by decide) rfl rfl rfl)
    have R12 := R11.trans (oReach.run (l := l) (n0 := n0) (q := oMx) (CT := oCT) (MT := oMT) (callf := (oCall [f0, f1, f2, f3, f4, f5])) (ops := oPx) (n := 1) (st' := (48, #[.val (.int size), .val (.int a), .val (.int b), .val (.int c), .val (.int d), .val (.int e), .val (.int (5 : Int32)), .val (.ref 0), .unset, .unset], [], [.inr (.int, [(((a &&& (2147483647 : Int32)) % (6 : Int32)) - (1 : Int32)), (((b &&& (2147483647 : Int32)) % (6 : Int32)) - (1 : Int32)), (((c &&& (2147483647 : Int32)) % (6 : Int32)) - (1 : Int32)), (((d &&& (2147483647 : Int32)) % (6 : Int32)) - (1 : Int32)), (((e &&& (2147483647 : Int32)) % (6 : Int32)) - (1 : Int32))])], 1, 5)) hw hK hC opsx rfl)
    have R1 := R12
    have h0 : (((a &&& (2147483647 : Int32)) % (6 : Int32)) - (1 : Int32)) ∈ own_L5 := own_m5 a
    generalize (((a &&& (2147483647 : Int32)) % (6 : Int32)) - (1 : Int32)) = e0 at R1 h0
    have h1 : (((b &&& (2147483647 : Int32)) % (6 : Int32)) - (1 : Int32)) ∈ own_L5 := own_m5 b
    generalize (((b &&& (2147483647 : Int32)) % (6 : Int32)) - (1 : Int32)) = e1 at R1 h1
    have h2 : (((c &&& (2147483647 : Int32)) % (6 : Int32)) - (1 : Int32)) ∈ own_L5 := own_m5 c
    generalize (((c &&& (2147483647 : Int32)) % (6 : Int32)) - (1 : Int32)) = e2 at R1 h2
    have h3 : (((d &&& (2147483647 : Int32)) % (6 : Int32)) - (1 : Int32)) ∈ own_L5 := own_m5 d
    generalize (((d &&& (2147483647 : Int32)) % (6 : Int32)) - (1 : Int32)) = e3 at R1 h3
    have h4 : (((e &&& (2147483647 : Int32)) % (6 : Int32)) - (1 : Int32)) ∈ own_L5 := own_m5 e
    generalize (((e &&& (2147483647 : Int32)) % (6 : Int32)) - (1 : Int32)) = e4 at R1 h4
    exact oLaw_of_res hw hK hC pnx opsx (n := 60) (st := (48, #[.val (.retAddr 0), .val (.retAddr 0), .val (.retAddr 0), .val (.retAddr 0), .val (.retAddr 0), .val (.retAddr 0), .val (.int (5 : Int32)), .val (.ref 0), .unset, .unset], [], [.inr (.int, [e0, e1, e2, e3, e4])], 1, 5)) (R1.trans (oReach.hav [true, true, true, true, true, true])) (kern5 e0 e1 e2 e3 e4 h0 h1 h2 h3 h4)
end Claim
set_option maxRecDepth 65536 in
set_option maxHeartbeats 40000000 in
theorem comes_1 {Post : Tables → Env → Array Value → State → Outcome → State → Prop} (hpost : ∀ tb e args s v u, (limb_1_1.after args s (.returned v) u = true ∧ limb_1_2.after args s (.returned v) u = true ∧ True) → FrameEnd s (.returned v) u (Jvm.fieldLocs frame_1_writes args s ++ Jvm.arrayLocs frame_1_arrays args s ++ Jvm.staticLocs frame_1_statics s) 16 128 → Post tb e args s (.returned v) u) :
    ArmFor flags0 classFile x code maxLocals ret World_1 tables_1 room_1 Calls_1 rest_1 Pre_1 Post := by
  intro l hfl _ _ p e ha hc hk s m args below hf hA hF happ hP
  obtain ⟨hcalls, hrest, hpre⟩ := hP
  obtain ⟨-, -, -, hnamed, -, -, -, hat⟩ := (Spec.applies_iff hf).mp happ
  obtain ⟨hg, hn⟩ := and_e (Cond.before_iff.mp (show (Jvm.Cond.and given_1 narrow_1).before args s = true from hpre))
  obtain ⟨h1, k0⟩ := and_e hg
  obtain ⟨g0, k1⟩ := and_e k0
  obtain ⟨g1, k2⟩ := and_e k1
  obtain ⟨g2, k3⟩ := and_e k2
  obtain ⟨g3, k4⟩ := and_e k3
  obtain ⟨g4, k5⟩ := and_e k4
  have g5 := k5
  obtain ⟨w0, w1, w2, w3, w4, w5, rfl⟩ : ∃ w0 w1 w2 w3 w4 w5 : Value, args = #[w0, w1, w2, w3, w4, w5] := by
    have hs : args.size = 6 := by simpa [Cond.value, given_1] using h1
    obtain ⟨L⟩ := args
    match L, hs with
    | [w0, w1, w2, w3, w4, w5], _ => exact ⟨w0, w1, w2, w3, w4, w5, rfl⟩
  have hw := fun d (hd : d ∈ tables_1) => atoms_spec (ws := Jvm.Cond.code x code maxLocals ret :: tables_1) hat d (List.mem_cons_of_mem _ hd)
  obtain ⟨i0, e0⟩ := is_v g0
  obtain rfl : w0 = (.int i0) := Option.some.inj e0
  obtain ⟨i1, e1⟩ := is_v g1
  obtain rfl : w1 = (.int i1) := Option.some.inj e1
  obtain ⟨i2, e2⟩ := is_v g2
  obtain rfl : w2 = (.int i2) := Option.some.inj e2
  obtain ⟨i3, e3⟩ := is_v g3
  obtain rfl : w3 = (.int i3) := Option.some.inj e3
  obtain ⟨i4, e4⟩ := is_v g4
  obtain rfl : w4 = (.int i4) := Option.some.inj e4
  obtain ⟨i5, e5⟩ := is_v g5
  obtain rfl : w5 = (.int i5) := Option.some.inj e5
  obtain ⟨H', hmet⟩ := law_ok (l := l) (n0 := s.heap.size) hw i0 i1 i2 i3 i4 i5
  obtain ⟨n, o, h1, h2, h3, v, L, rfl, ⟨N, -, ad', -, -, w, rfl, rfl⟩, hq⟩ := hmet [.int i0, .int i1, .int i2, .int i3, .int i4, .int i5] s.heap [] (by exact ⟨_, _, rfl, rfl, ⟨_, _, rfl, rfl, ⟨_, _, rfl, rfl, ⟨_, _, rfl, rfl, ⟨_, _, rfl, rfl, ⟨_, _, rfl, rfl, rfl⟩⟩⟩⟩⟩⟩) oHR.nil (Nat.le_refl _) tables_1 p e ha hc hk s m _ below hf ((Spec.applies_iff_loose hf).mp happ).1 ⟨rfl, State.Warmed39.refl s, rfl⟩ trivial
  exact ⟨n, _, h1, h2, h3, hpost _ _ _ _ _ _ ⟨Cond.after_iff.mpr rfl, Cond.after_iff.mpr (eq_i res_at (Term.int_eval (1)) rfl), trivial⟩ ⟨hq.1, hq.2.1, (hq.2.2.sift fun y hy => Or.inr (N y hy)).mono (by decide) (by decide)⟩⟩
theorem main_1_1 : Claimed_1_1 := comes_1 fun _ _ _ _ _ _ h hF => ⟨h.1, hF⟩
theorem main_1_2 : Claimed_1_2 := comes_1 fun _ _ _ _ _ _ h hF => ⟨h.2.1, hF⟩
end Jvm.Pilot.@@N@@
namespace Jvm.Pilot.@@N@@
open Jvm Jvm.ClassFile Sem Op Lib Jvm.Free Jvm.Stand Jvm.Pilot.@@N@@.Jvm.D
/-! MADE BY PROGRAM (witnessworld.py) out of the Statement's table words and the real class files: 11 classes; the members and pool entries that the words name. The judged class is class 1, her method 1. -/
namespace start1
open Jvm.ClassFile
def u (s : String) : CpInfo := .utf8 (stringToUtf16 s)
/-- a pool by its gaps: so many unusable entries, then the entry; so many at the end -/
def gap : Nat → List CpInfo → List CpInfo
  | 0, r => r
  | n + 1, r => .unusable :: gap n r
def poolList (es : List (Nat × CpInfo)) (last : Nat) : List CpInfo := es.foldr (fun e r => gap e.1 (e.2 :: r)) (gap last [])
def pool (es : List (Nat × CpInfo)) (last : Nat) : Array CpInfo := ⟨poolList es last⟩
def fileOf (pool : Array CpInfo) (this : Nat) (attrs : Array Attribute := #[]) (ms : Array MethodInfo := #[]) (fl : Nat := 33) (sup : Nat := 0) (ifs : Array Nat := #[]) (fds : Array FieldInfo := #[]) : ClassFile where
  minorVersion := 0
  majorVersion := 65
  constantPool := pool
  accessFlags := fl
  thisClass := this
  superClass := sup
  interfaces := ifs
  fields := fds
  methods := ms
  attributes := attrs
def plain (name : String) (sup : Option ClassId) : Class where
  name := name
  kind := .ordinary
  loader := none
  accessFlags := 33
  super := sup
  interfaces := #[]
  cf := none
  fields := #[]
  methods := #[]
  instanceTypes := #[]
  staticTypes := #[]
  resolved := #[]
  callSites := []
  init := .initialized
  statics := none
  mirror := none

def pool0 : Array CpInfo := pool [(5, u "<init>"), (0, u "()V"), (1, .class_ 10), (1, u "java/lang/Object")] 113

def k0m0 : Method := { name := "<init>", desc := "()V", sig := { parameters := [], returnType := none }, accessFlags := 1, code := none }
/-- java/lang/Object -/
def k0 : Class := { plain "java/lang/Object" none with
  accessFlags := 33
  interfaces := #[]
  cf := some (fileOf pool0 8 #[] #[{ accessFlags := 1, nameIndex := 5, descriptorIndex := 6, attributes := #[] }] 33 0 #[] #[])
  fields := #[]
  methods := #[k0m0]
  instanceTypes := #[]
  staticTypes := #[]
  resolved := Array.replicate 124 none
  statics := none }

def pool1 : Array CpInfo := pool [(2, .class_ 4), (1, u "java/lang/Object"), (0, u "<init>"), (0, u "()V"), (0, .integer 2147483647), (0, .methodref 9 10), (0, .class_ 11), (0, .nameAndType 12 13), (0, u "com/example/inclined_branches/inclinedbranches/TreeFirstVertexOffRootPinLaw"), (0, u "entry"), (0, u "(II)I"), (0, .methodref 9 15), (0, .nameAndType 16 17), (0, u "make"), (0, u "(IIIIII)[I"), (0, .methodref 9 19), (0, .nameAndType 20 21), (0, u "reference"), (0, u "([II)I"), (0, .methodref 23 24), (0, .class_ 25), (0, .nameAndType 26 27), (0, u "com/example/inclined_branches/inclinedbranches/Tree"), (0, u "firstVertexOffRoot"), (0, u "([I)I"), (0, .methodref 9 29), (0, .nameAndType 30 21), (0, u "step"), (0, .methodref 9 32), (0, .nameAndType 33 34), (0, u "leads"), (0, u "([II)Z"), (2, u "law"), (0, u "(IIIIII)Z")] 5

def k1m0 : Method := { name := "<init>", desc := "()V", sig := { parameters := [], returnType := none }, accessFlags := 2, code := none }
def k1c1 : Code := { maxStack := 7, maxLocals := 10, code := code, exceptionTable := #[], attributes := #[] }
def k1m1 : Method := { name := "law", desc := "(IIIIII)Z", sig := { parameters := [.int, .int, .int, .int, .int, .int], returnType := some .boolean }, accessFlags := 9, code := some k1c1 }
def k1c2 : Code := { maxStack := 3, maxLocals := 2, code := method_3_code, exceptionTable := #[], attributes := #[] }
def k1m2 : Method := { name := "entry", desc := "(II)I", sig := { parameters := [.int, .int], returnType := some .int }, accessFlags := 10, code := some k1c2 }
def k1c3 : Code := { maxStack := 4, maxLocals := 6, code := method_4_code, exceptionTable := #[], attributes := #[] }
def k1m3 : Method := { name := "make", desc := "(IIIIII)[I", sig := { parameters := [.int, .int, .int, .int, .int, .int], returnType := some (.array .int) }, accessFlags := 10, code := some k1c3 }
def k1c4 : Code := { maxStack := 2, maxLocals := 2, code := method_5_code, exceptionTable := #[], attributes := #[] }
def k1m4 : Method := { name := "step", desc := "([II)I", sig := { parameters := [(.array .int), .int], returnType := some .int }, accessFlags := 10, code := some k1c4 }
def k1c5 : Code := { maxStack := 2, maxLocals := 3, code := method_6_code, exceptionTable := #[], attributes := #[] }
def k1m5 : Method := { name := "leads", desc := "([II)Z", sig := { parameters := [(.array .int), .int], returnType := some .boolean }, accessFlags := 10, code := some k1c5 }
def k1c6 : Code := { maxStack := 2, maxLocals := 2, code := method_7_code, exceptionTable := #[], attributes := #[] }
def k1m6 : Method := { name := "reference", desc := "([II)I", sig := { parameters := [(.array .int), .int], returnType := some .int }, accessFlags := 10, code := some k1c6 }
/-- com/example/inclined_branches/inclinedbranches/TreeFirstVertexOffRootPinLaw -/
def k1 : Class := { plain "com/example/inclined_branches/inclinedbranches/TreeFirstVertexOffRootPinLaw" (some 0) with
  accessFlags := 49
  interfaces := #[]
  cf := some (fileOf pool1 9 #[] #[{ accessFlags := 2, nameIndex := 5, descriptorIndex := 6, attributes := #[] }, { accessFlags := 9, nameIndex := 37, descriptorIndex := 38, attributes := #[] }, { accessFlags := 10, nameIndex := 12, descriptorIndex := 13, attributes := #[] }, { accessFlags := 10, nameIndex := 16, descriptorIndex := 17, attributes := #[] }, { accessFlags := 10, nameIndex := 30, descriptorIndex := 21, attributes := #[] }, { accessFlags := 10, nameIndex := 33, descriptorIndex := 34, attributes := #[] }, { accessFlags := 10, nameIndex := 20, descriptorIndex := 21, attributes := #[] }] 49 2 #[] #[])
  fields := #[]
  methods := #[k1m0, k1m1, k1m2, k1m3, k1m4, k1m5, k1m6]
  instanceTypes := #[]
  staticTypes := #[]
  resolved := Array.replicate 44 none
  statics := none }

def pool2 : Array CpInfo := pool [(2, u "[Ljava/lang/String;"), (1, .class_ 6), (1, u "com/example/inclined_branches/inclinedbranches/Tree"), (3, .class_ 12), (1, u "java/lang/Object"), (2, .class_ 17), (1, u "com/example/inclined_branches/inclinedbranches/Tree$ChildRows"), (4, u "parent"), (0, u "[I"), (6, u "childStart"), (2, u "children"), (4, u "labels"), (93, u "firstVertexOffRoot"), (0, u "([I)I"), (38, .class_ 173), (0, u "com/example/inclined_branches/inclinedbranches/Tree$Rerooted"), (1, .class_ 177), (1, u "com/example/inclined_branches/inclinedbranches/Tree$Walk"), (26, .class_ 206), (1, u "com/example/inclined_branches/inclinedbranches/Tree$NewChildren")] 155

def k2c0 : Code := { maxStack := 3, maxLocals := 7, code := prog_83_method_13_code, exceptionTable := #[], attributes := #[] }
def k2m0 : Method := { name := "firstVertexOffRoot", desc := "([I)I", sig := { parameters := [(.array .int)], returnType := some .int }, accessFlags := 8, code := some k2c0 }
/-- com/example/inclined_branches/inclinedbranches/Tree -/
def k2 : Class := { plain "com/example/inclined_branches/inclinedbranches/Tree" (some 0) with
  accessFlags := 49
  interfaces := #[]
  cf := some (fileOf pool2 4 #[.nestMembers #[175, 204, 172, 15]] #[{ accessFlags := 8, nameIndex := 132, descriptorIndex := 133, attributes := #[] }] 49 10 #[] #[{ accessFlags := 18, nameIndex := 22, descriptorIndex := 23, attributes := #[] }, { accessFlags := 18, nameIndex := 30, descriptorIndex := 23, attributes := #[] }, { accessFlags := 18, nameIndex := 33, descriptorIndex := 23, attributes := #[] }, { accessFlags := 18, nameIndex := 38, descriptorIndex := 2, attributes := #[] }])
  fields := #[{ name := "parent", type := (.array .int), accessFlags := 18, slot := 0, constantValue := 0 }, { name := "childStart", type := (.array .int), accessFlags := 18, slot := 1, constantValue := 0 }, { name := "children", type := (.array .int), accessFlags := 18, slot := 2, constantValue := 0 }, { name := "labels", type := (.array (.object "java/lang/String")), accessFlags := 18, slot := 3, constantValue := 0 }]
  methods := #[k2m0]
  instanceTypes := #[(.array .int), (.array .int), (.array .int), (.array (.object "java/lang/String"))]
  staticTypes := #[]
  resolved := Array.replicate 362 none
  statics := none }

def pool3 : Array CpInfo := pool [(1, u "java/lang/Cloneable"), (0, .class_ 1), (0, u "java/lang/Object"), (0, .class_ 3)] 3

/-- java/lang/Cloneable -/
def k3 : Class := { plain "java/lang/Cloneable" (some 0) with
  accessFlags := 1537
  interfaces := #[]
  cf := some (fileOf pool3 2 #[] #[] 1537 4 #[] #[])
  fields := #[]
  methods := #[]
  instanceTypes := #[]
  staticTypes := #[]
  resolved := Array.replicate 8 none
  statics := none }

def pool4 : Array CpInfo := pool [(1, u "java/io/Serializable"), (0, .class_ 1), (0, u "java/lang/Object"), (0, .class_ 3)] 3

/-- java/io/Serializable -/
def k4 : Class := { plain "java/io/Serializable" (some 0) with
  accessFlags := 1537
  interfaces := #[]
  cf := some (fileOf pool4 2 #[] #[] 1537 4 #[] #[])
  fields := #[]
  methods := #[]
  instanceTypes := #[]
  staticTypes := #[]
  resolved := Array.replicate 8 none
  statics := none }

/-- the primitive boolean -/
def k5 : Class := { plain "boolean" none with kind := .primitive 'Z', accessFlags := 0x411 }
/-- [Z -/
def k6 : Class := { plain "[Z" (some 0) with kind := .array 5 .boolean, interfaces := #[3, 4], accessFlags := 1041 }

/-- the primitive byte -/
def k7 : Class := { plain "byte" none with kind := .primitive 'B', accessFlags := 0x411 }
/-- [B -/
def k8 : Class := { plain "[B" (some 0) with kind := .array 7 .byte, interfaces := #[3, 4], accessFlags := 1041 }

/-- the primitive int -/
def k9 : Class := { plain "int" none with kind := .primitive 'I', accessFlags := 0x411 }
/-- [I -/
def k10 : Class := { plain "[I" (some 0) with kind := .array 9 .int, interfaces := #[3, 4], accessFlags := 1041 }

def heap : Heap := #[]
def classes : Array Class := #[k0, k1, k2, k3, k4, k5, k6, k7, k8, k9, k10]
def interned : List (Array UInt16 × Addr) := []
def slotsUsed : Nat := 0
def theMethod : MethodId := ⟨1, 1⟩
def args0 : Array Value := #[.int 3, .int 5, .int 1, .int 2, .int 3, .int 4]
def aboutOver (below : List Frame) : State where
  vm := { classes := classes, interned := interned.toArray }
  heap := heap
  slotsUsed := slotsUsed
  threads := #[{ frames := .invoking theMethod args0 :: below }]
def below0 : List Frame := [.native { method := ⟨0, 0⟩, args := #[] }]
def about1 : State := aboutOver below0
def p0 : Program := .bare "" "" ""
def e0 : Env := launch0.env 0 0 0
theorem w_frames : about1.frames = Frame.invoking theMethod args0 :: below0 := rfl
set_option maxRecDepth 65536 in
theorem w_args : argsFit about1.vm theMethod args0 = true := by decide +kernel
set_option maxRecDepth 65536 in
theorem w_heap : heapFits about1 = true := by decide +kernel
set_option maxRecDepth 65536 in
theorem w_runnable : about1.curStatus? = some .runnable := by decide +kernel
set_option maxRecDepth 65536 in
theorem w_alone : about1.alone = true := by decide +kernel
set_option maxRecDepth 65536 in
theorem w_named : about1.methodNamed? x = some theMethod := by decide +kernel
set_option maxRecDepth 65536 in
theorem w_hears : about1.hears theMethod below0 = true := by decide +kernel
set_option maxRecDepth 65536 in
theorem w_ripe : about1.ripe theMethod args0 below0 = true := by decide +kernel
theorem w_running : about1.status = .running := rfl
set_option maxRecDepth 65536 in
theorem w_room : about1.hasRoom e0.platform room_1 = true :=
  launch0.hasRoom_least _ room_1 (by decide +kernel) (by decide +kernel) (by decide +kernel) (by decide +kernel) (by decide +kernel) (by decide +kernel)
theorem allAtoms_all (ts : List Jvm.Cond) (a : Array Jvm.Value) (st : Jvm.State) : (allAtoms ts).before a st = ts.all (fun c => c.before a st) := by
  induction ts with
  | nil => rfl
  | cons c t ih =>
    show (Jvm.Cond.and c (allAtoms t)).before a st = _
    rw [Jvm.Cond.before_and, ih, List.all_cons]
def words1 : List Jvm.Cond := Jvm.Cond.code x code maxLocals ret :: tables_1
/-- a 'code' word, met by the world's own term for the bytes: nothing is compared byte by byte -/
theorem code_word {y : MethodName} {bytes : ByteArray} {mx : Nat} {rt : Option FieldType} {a : Array Value} {s : State} {m : MethodId} {meth : Method} {c : Code} (h1 : s.methodNamed? y = some m) (h2 : s.vm.method? m = some meth) (h3 : meth.code = some c) (h4 : c.code = bytes)
    (h5 : (c.maxLocals == mx && c.exceptionTable.isEmpty && decide (c.maxStack ≤ mostOperands) && decide (meth.sig.returnType = rt) && !meth.locks && decide (parseMethodDescriptor y.desc = some meth.sig)) = true) : (Jvm.Cond.code y bytes mx rt).before a s = true := by
  simp only [Bool.and_eq_true, beq_iff_eq, Bool.not_eq_true', decide_eq_true_eq] at h5
  obtain ⟨⟨⟨⟨⟨g1, g2⟩, g3⟩, g4⟩, g5⟩, g6⟩ := h5
  simp [Cond.before, Cond.holds, Cond.value, h1, h2, h3, h4, g1, g2, g3, g4, g5, g6]
def isCode : Jvm.Cond → Bool
  | .code _ _ _ _ => true
  | _ => false
theorem all_split {L : List Jvm.Cond} {P : Jvm.Cond → Bool} (h1 : L.all (fun c => isCode c || P c) = true) (h2 : ∀ c ∈ L.filter isCode, P c = true) : L.all P = true := by
  refine List.all_eq_true.mpr fun c hc => ?_
  have h := List.all_eq_true.mp h1 c hc
  rcases Bool.eq_false_or_eq_true (isCode c) with hi | hi
  · exact h2 c (List.mem_filter.mpr ⟨hc, hi⟩)
  · simpa [hi] using h
set_option maxRecDepth 65536 in
theorem w_c0 : (Jvm.Cond.code x code maxLocals ret).before args0 about1 = true := code_word (m := ⟨1, 1⟩) (meth := k1m1) (c := k1c1) (by decide +kernel) rfl rfl rfl (by decide +kernel)
set_option maxRecDepth 65536 in
theorem w_c1 : (Jvm.Cond.code ({ cls := "com/example/inclined_branches/inclinedbranches/TreeFirstVertexOffRootPinLaw", name := "entry", desc := "(II)I" } : Jvm.MethodName) method_3_code (2 : Nat) (Option.some Jvm.ClassFile.FieldType.int)).before args0 about1 = true := code_word (m := ⟨1, 2⟩) (meth := k1m2) (c := k1c2) (by decide +kernel) rfl rfl rfl (by decide +kernel)
set_option maxRecDepth 65536 in
theorem w_c2 : (Jvm.Cond.code ({ cls := "com/example/inclined_branches/inclinedbranches/TreeFirstVertexOffRootPinLaw", name := "make", desc := "(IIIIII)[I" } : Jvm.MethodName) method_4_code (6 : Nat) (Option.some (Jvm.ClassFile.FieldType.array Jvm.ClassFile.FieldType.int))).before args0 about1 = true := code_word (m := ⟨1, 3⟩) (meth := k1m3) (c := k1c3) (by decide +kernel) rfl rfl rfl (by decide +kernel)
set_option maxRecDepth 65536 in
theorem w_c3 : (Jvm.Cond.code ({ cls := "com/example/inclined_branches/inclinedbranches/TreeFirstVertexOffRootPinLaw", name := "reference", desc := "([II)I" } : Jvm.MethodName) method_7_code (2 : Nat) (Option.some Jvm.ClassFile.FieldType.int)).before args0 about1 = true := code_word (m := ⟨1, 6⟩) (meth := k1m6) (c := k1c6) (by decide +kernel) rfl rfl rfl (by decide +kernel)
set_option maxRecDepth 65536 in
theorem w_c4 : (Jvm.Cond.code ({ cls := "com/example/inclined_branches/inclinedbranches/Tree", name := "firstVertexOffRoot", desc := "([I)I" } : Jvm.MethodName) prog_83_method_13_code (7 : Nat) (Option.some Jvm.ClassFile.FieldType.int)).before args0 about1 = true := code_word (m := ⟨2, 0⟩) (meth := k2m0) (c := k2c0) (by decide +kernel) rfl rfl rfl (by decide +kernel)
set_option maxRecDepth 65536 in
theorem w_c5 : (Jvm.Cond.code ({ cls := "com/example/inclined_branches/inclinedbranches/TreeFirstVertexOffRootPinLaw", name := "leads", desc := "([II)Z" } : Jvm.MethodName) method_6_code (3 : Nat) (Option.some Jvm.ClassFile.FieldType.boolean)).before args0 about1 = true := code_word (m := ⟨1, 5⟩) (meth := k1m5) (c := k1c5) (by decide +kernel) rfl rfl rfl (by decide +kernel)
set_option maxRecDepth 65536 in
theorem w_c6 : (Jvm.Cond.code ({ cls := "com/example/inclined_branches/inclinedbranches/TreeFirstVertexOffRootPinLaw", name := "step", desc := "([II)I" } : Jvm.MethodName) method_5_code (2 : Nat) (Option.some Jvm.ClassFile.FieldType.int)).before args0 about1 = true := code_word (m := ⟨1, 4⟩) (meth := k1m4) (c := k1c4) (by decide +kernel) rfl rfl rfl (by decide +kernel)
def codes1 : List Jvm.Cond := [Jvm.Cond.code x code maxLocals ret, Jvm.Cond.code ({ cls := "com/example/inclined_branches/inclinedbranches/TreeFirstVertexOffRootPinLaw", name := "entry", desc := "(II)I" } : Jvm.MethodName) method_3_code (2 : Nat) (Option.some Jvm.ClassFile.FieldType.int), Jvm.Cond.code ({ cls := "com/example/inclined_branches/inclinedbranches/TreeFirstVertexOffRootPinLaw", name := "make", desc := "(IIIIII)[I" } : Jvm.MethodName) method_4_code (6 : Nat) (Option.some (Jvm.ClassFile.FieldType.array Jvm.ClassFile.FieldType.int)), Jvm.Cond.code ({ cls := "com/example/inclined_branches/inclinedbranches/TreeFirstVertexOffRootPinLaw", name := "reference", desc := "([II)I" } : Jvm.MethodName) method_7_code (2 : Nat) (Option.some Jvm.ClassFile.FieldType.int), Jvm.Cond.code ({ cls := "com/example/inclined_branches/inclinedbranches/Tree", name := "firstVertexOffRoot", desc := "([I)I" } : Jvm.MethodName) prog_83_method_13_code (7 : Nat) (Option.some Jvm.ClassFile.FieldType.int), Jvm.Cond.code ({ cls := "com/example/inclined_branches/inclinedbranches/TreeFirstVertexOffRootPinLaw", name := "leads", desc := "([II)Z" } : Jvm.MethodName) method_6_code (3 : Nat) (Option.some Jvm.ClassFile.FieldType.boolean), Jvm.Cond.code ({ cls := "com/example/inclined_branches/inclinedbranches/TreeFirstVertexOffRootPinLaw", name := "step", desc := "([II)I" } : Jvm.MethodName) method_5_code (2 : Nat) (Option.some Jvm.ClassFile.FieldType.int)]
set_option maxRecDepth 65536 in
theorem codes_eq : words1.filter isCode = codes1 := rfl
theorem w_codes : ∀ c ∈ words1.filter isCode, c.before args0 about1 = true := by
  rw [codes_eq]
  intro c hc
  simp only [codes1, List.mem_cons, List.not_mem_nil, or_false] at hc
  rcases hc with rfl | rfl | rfl | rfl | rfl | rfl | rfl
  · exact w_c0
  · exact w_c1
  · exact w_c2
  · exact w_c3
  · exact w_c4
  · exact w_c5
  · exact w_c6
set_option maxRecDepth 65536 in
theorem w_t1 : words1.all (fun c => isCode c || c.before args0 about1) = true := by decide +kernel
theorem w_tables : (allAtoms (Jvm.Cond.code x code maxLocals ret :: tables_1)).before args0 about1 = true := by
  rw [allAtoms_all]
  show words1.all (fun c => c.before args0 about1) = true
  refine all_split ?_ w_codes
  rw [w_t1]
set_option maxRecDepth 65536 in
theorem w_case : (Jvm.Cond.and given_1 narrow_1).before args0 about1 = true := by decide +kernel
theorem w_applies : (headSpec (Jvm.Cond.code x code maxLocals ret :: tables_1) room_1).applies x e0.platform about1 = true :=
  (Spec.applies_iff w_frames).mpr ⟨w_running, w_runnable, w_alone, w_named, w_hears, w_ripe, w_room, w_tables⟩
theorem atStart : AtStart classFile x code maxLocals ret World_1 tables_1 room_1 Calls_1 rest_1 Pre_1 launch0 p0 e0 about1 theMethod args0 below0 :=
  ⟨lists_1, trivial, launch0.admits_env _ _ _, launch0.least_env, fairChoices_fair.cas, fairChoices_fair.clock, w_frames, w_args, w_heap, w_applies, trivial, trivial, w_case⟩
end start1
theorem witness_1 : WitnessClaimed_1 := ⟨start1.p0, start1.e0, start1.about1, start1.theMethod, start1.args0, start1.below0, start1.atStart⟩
end Jvm.Pilot.@@N@@
