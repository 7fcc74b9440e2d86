import JvmDerived
import JvmDerived.Pilot.@@N@@Statement
import JvmDerived.Pilot.@@N@@Code
set_option linter.unusedVariables false
set_option linter.unusedSimpArgs false
namespace Jvm.OwnW
open Jvm Jvm.ClassFile Sem Op Lib Jvm.Free Jvm.Stand Jvm.LawKit Jvm.RoadKit
/-! ## shifts -/
def ushrI (x y : Int32) : Int32 := (x.toUInt32 >>> (y &&& 31).toUInt32).toInt32
def shlL (x : Int64) (y : Int32) : Int64 := x <<< (y &&& 0x3f).toInt64
def shrL (x : Int64) (y : Int32) : Int64 := x >>> (y &&& 0x3f).toInt64
def ushrL (x : Int64) (y : Int32) : Int64 := (x.toUInt64 >>> (y &&& 0x3f).toInt64.toUInt64).toInt64
theorem ushrI_c (x q : Int32) (k : Nat) (hk : q.toBitVec.toNat % 32 = k) (h0 : 0 < k) : (ushrI x q).toInt = (x.toInt % 4294967296) / (2 ^ k : Nat) := c_iushr x q k hk h0
theorem shlL_c (x : Int64) (q : Int32) (k : Nat) (hk : q.toBitVec.toNat % 64 = k) : ((shlL x q).toInt - x.toInt * (2 ^ k : Nat)) % 18446744073709551616 = 0 := c_lshl x q k hk
theorem shrL_c (x : Int64) (q : Int32) (k : Nat) (hk : q.toBitVec.toNat % 64 = k) : (shrL x q).toInt = x.toInt / (2 ^ k : Nat) := c_lshr x q k hk
theorem ushrL_c (x : Int64) (q : Int32) (k : Nat) (hk : q.toBitVec.toNat % 64 = k) (h0 : 0 < k) : (ushrL x q).toInt = (x.toInt % 18446744073709551616) / (2 ^ k : Nat) := c_lushr x q k hk h0
theorem ushrL_0 (x : Int64) : ushrL x 0 = x := by
  show (x.toUInt64 >>> (0 : UInt64)).toInt64 = x
  simp
/-! ## what the walk's own cells hold -/
/-- a field: the class that declares it, its name, its descriptor, its value -/
abbrev FldE := String × String × String × Value
/-- an object (its class, its fields) or an array (its component's kind, its values) -/
abbrev Obj := (String × List FldE) ⊕ (FieldType × List Value)
abbrev HL := List (Addr × Obj)
def Is (Z : State) (h : Heap) (a : Addr) : Obj → Prop
  | .inl (C, fs) => Exa Z h a C ∧ (∀ f ∈ fs, Fld Z h a f.1 f.2.1 f.2.2.1 f.2.2.2) ∧ fs.Pairwise fun f g => RoadKit.slotOf Z f.1 f.2.1 f.2.2.1 ≠ RoadKit.slotOf Z g.1 g.2.1 g.2.2.1
  | .inr (ty, vs) => ∃ c : Cell, Arr Z h a c ty ∧ Exa Z h a ("[" ++ ty.toString) ∧ c.slots.toList = vs ∧ vs.length < 2 ^ 31
def Hp (Z : State) (n0 kb : Nat) (h : Heap) (L : HL) : Prop :=
  (Old Z n0 h ∧ kb ≤ h.size) ∧ (∀ (i : Nat) (a : Addr) (o : Obj), L[i]? = some (a, o) → n0 ≤ a ∧ Is Z h a o) ∧ ∀ (i j : Nat) (a : Addr) (o o' : Obj), L[i]? = some (a, o) → L[j]? = some (a, o') → i = j
section Heaps
variable {Z : State} {a0 : Array Value} {n0 kb : Nat} {h h' : Heap} {a b : Addr} {o : Obj} {L : HL}
theorem Is.lt (F : Is Z h a o) : a < h.size := by
  rcases o with ⟨C, fs⟩ | ⟨ty, vs⟩
  · exact F.1.lt
  · obtain ⟨c, A, -⟩ := F; exact A.lt
theorem Is.ext (F : Is Z h a o) (E : Ext h h') : Is Z h' a o := by
  rcases o with ⟨C, fs⟩ | ⟨ty, vs⟩
  · exact ⟨F.1.ext E, fun f hf => (F.2.1 f hf).ext E, F.2.2⟩
  · obtain ⟨c, A, X, r⟩ := F; exact ⟨c, A.ext E, X.ext E, r⟩
theorem Is.other {sl : Nat} {v : Value} (F : Is Z h b o) (W : Wr h h' a sl v) (q : b ≠ a) : Is Z h' b o := by
  rcases o with ⟨C, fs⟩ | ⟨ty, vs⟩
  · exact ⟨F.1.wr W, fun f hf => (F.2.1 f hf).other W (Or.inl q), F.2.2⟩
  · obtain ⟨c, A, X, r⟩ := F; exact ⟨c, A.other W q, X.wr W, r⟩
theorem Hp.nil (O : Old Z n0 h) (hk : kb ≤ h.size) : Hp Z n0 kb h [] := ⟨⟨O, hk⟩, fun i a o q => by simp at q, fun i j a o o' q => by simp at q⟩
theorem Hp.at (H : Hp Z n0 kb h L) {i : Nat} (q : L[i]? = some (a, o)) : Is Z h a o := (H.2.1 i a o q).2
theorem Hp.obj {C : String} {fs : List FldE} (H : Hp Z n0 kb h L) {i : Nat} (q : L[i]? = some (a, .inl (C, fs))) : Exa Z h a C ∧ (∀ f ∈ fs, Fld Z h a f.1 f.2.1 f.2.2.1 f.2.2.2) ∧ fs.Pairwise fun f g => RoadKit.slotOf Z f.1 f.2.1 f.2.2.1 ≠ RoadKit.slotOf Z g.1 g.2.1 g.2.2.1 := (H.2.1 i a _ q).2
theorem Hp.arr {ty : FieldType} {vs : List Value} (H : Hp Z n0 kb h L) {i : Nat} (q : L[i]? = some (a, .inr (ty, vs))) : ∃ c : Cell, Arr Z h a c ty ∧ Exa Z h a ("[" ++ ty.toString) ∧ c.slots.toList = vs ∧ vs.length < 2 ^ 31 := (H.2.1 i a _ q).2
theorem Hp.ge (H : Hp Z n0 kb h L) {i : Nat} (q : L[i]? = some (a, o)) : n0 ≤ a := (H.2.1 i a o q).1
theorem Hp.push (H : Hp Z n0 kb h L) (E : Ext h h') (hn : n0 ≤ h.size) (F : Is Z h' h.size o) : Hp Z n0 kb h' (L ++ [(h.size, o)]) := by
  have lt : ∀ {i : Nat} {b : Addr} {o' : Obj}, (L ++ [(h.size, o)])[i]? = some (b, o') → (i < L.length ∧ L[i]? = some (b, o') ∧ b < h.size) ∨ (i = L.length ∧ b = h.size ∧ o' = o) := by
    intro i b o' q
    by_cases hi : i < L.length
    · rw [List.getElem?_append_left hi] at q
      exact Or.inl ⟨hi, q, (H.at q).lt⟩
    · rw [List.getElem?_append_right (Nat.le_of_not_lt hi)] at q
      have : i - L.length = 0 := by
        cases hk : i - L.length with
        | zero => rfl
        | succ k => rw [hk] at q; simp at q
      rw [this] at q
      simp at q
      exact Or.inr ⟨by omega, q.1.symm, q.2.symm⟩
  refine ⟨⟨H.1.1.ext E, Nat.le_trans H.1.2 E.1⟩, fun i b o' q => ?_, fun i j b o1 o2 q1 q2 => ?_⟩
  · rcases lt q with ⟨-, q', -⟩ | ⟨-, rfl, rfl⟩
    · exact ⟨H.ge q', (H.at q').ext E⟩
    · exact ⟨hn, F⟩
  · rcases lt q1 with ⟨-, q1', r1⟩ | ⟨e1, r1, -⟩ <;> rcases lt q2 with ⟨-, q2', r2⟩ | ⟨e2, r2, -⟩
    · exact H.2.2 i j b o1 o2 q1' q2'
    · exact absurd r2 (Nat.ne_of_lt r1)
    · exact absurd r1 (Nat.ne_of_lt r2)
    · exact e1.trans e2.symm
theorem Hp.size (H : Hp Z n0 kb h L) : n0 ≤ h.size := H.1.1.1 ▸ H.1.1.2.1
theorem Hp.lower {kb' : Nat} (H : Hp Z n0 kb h L) (q : kb' ≤ h.size) : Hp Z n0 kb' h L := ⟨⟨H.1.1, q⟩, H.2⟩
theorem Hp.put {sl : Nat} {v : Value} {o' : Obj} (H : Hp Z n0 kb h L) {i : Nat} (q : L[i]? = some (a, o)) (W : Wr h h' a sl v) (F : Is Z h' a o') : Hp Z n0 kb h' (L.set i (a, o')) := by
  have at' : ∀ {j : Nat} {b : Addr} {o2 : Obj}, (L.set i (a, o'))[j]? = some (b, o2) → (j = i ∧ b = a ∧ o2 = o') ∨ (j ≠ i ∧ L[j]? = some (b, o2)) := by
    intro j b o2 r
    by_cases hj : j = i
    · subst hj
      rw [List.getElem?_set_self (List.getElem?_eq_some_iff.mp q).1] at r
      simp at r
      exact Or.inl ⟨rfl, r.1.symm, r.2.symm⟩
    · rw [List.getElem?_set_ne (Ne.symm hj)] at r
      exact Or.inr ⟨hj, r⟩
  refine ⟨⟨H.1.1.wr W (H.ge q), by rw [W.size]; exact H.1.2⟩, fun j b o2 r => ?_, fun j j' b o1 o2 r1 r2 => ?_⟩
  · rcases at' r with ⟨rfl, rfl, rfl⟩ | ⟨hj, r'⟩
    · exact ⟨H.ge q, F⟩
    · exact ⟨H.ge r', (H.at r').other W fun e => hj (by subst e; exact H.2.2 _ _ _ _ _ r' q)⟩
  · rcases at' r1 with ⟨rfl, rfl, rfl⟩ | ⟨n1, r1'⟩ <;> rcases at' r2 with ⟨rfl, e2, -⟩ | ⟨n2, r2'⟩
    · rfl
    · exact absurd (H.2.2 _ _ _ _ _ r2' q) n2
    · subst e2; exact absurd (H.2.2 _ _ _ _ _ r1' q) n1
    · exact H.2.2 _ _ _ _ _ r1' r2'
theorem Is.field {C : String} {fs : List FldE} {j : Nat} {O n d : String} {v w : Value} (F : Is Z h a (.inl (C, fs))) (q : fs[j]? = some (O, n, d, w)) (W : Wr h h' a (RoadKit.slotOf Z O n d) v) : Is Z h' a (.inl (C, fs.set j (O, n, d, v))) := by
  obtain ⟨E, A, D⟩ := F
  obtain ⟨hj, e⟩ := List.getElem?_eq_some_iff.mp q
  have nth : ∀ k g, k ≠ j → fs[k]? = some g → RoadKit.slotOf Z g.1 g.2.1 g.2.2.1 ≠ RoadKit.slotOf Z O n d := by
    intro k g hk r
    obtain ⟨hk', e'⟩ := List.getElem?_eq_some_iff.mp r
    rw [List.pairwise_iff_getElem] at D
    rcases Nat.lt_or_gt_of_ne hk with u | u
    · have := D k j hk' hj u; rw [e, e'] at this; exact this
    · have := D j k hj hk' u; rw [e, e'] at this; exact Ne.symm this
  refine ⟨E.wr W, fun f hf => ?_, ?_⟩
  · obtain ⟨k, hk, ek⟩ := List.mem_iff_getElem.mp hf
    by_cases hkj : k = j
    · subst hkj
      have : f = (O, n, d, v) := by rw [← ek]; simp
      subst this
      exact (A (O, n, d, w) (List.mem_of_getElem? q)).same W
    · have r : fs[k]? = some f := by
        have : (fs.set j (O, n, d, v))[k]? = some f := List.getElem?_eq_some_iff.mpr ⟨hk, ek⟩
        rwa [List.getElem?_set_ne (Ne.symm hkj)] at this
      exact (A f (List.mem_of_getElem? r)).other W (Or.inr (nth k f hkj r))
  · have em : (fs.set j (O, n, d, v)).map (fun f => RoadKit.slotOf Z f.1 f.2.1 f.2.2.1) = fs.map (fun f => RoadKit.slotOf Z f.1 f.2.1 f.2.2.1) := by
      rw [List.map_set]
      refine List.ext_getElem? fun k => ?_
      by_cases hkj : j = k
      · subst hkj
        rw [List.getElem?_set_self (by simpa using hj)]
        simp [q]
      · rw [List.getElem?_set_ne hkj]
    have D' : (fs.map (fun f => RoadKit.slotOf Z f.1 f.2.1 f.2.2.1)).Pairwise (· ≠ ·) := List.pairwise_map.mpr D
    rw [← em] at D'
    exact List.pairwise_map.mp D'
theorem Is.elem {ty : FieldType} {vs : List Value} {v : Value} {c : Cell} (A : Arr Z h a c ty) (X : Exa Z h a ("[" ++ ty.toString)) (e : c.slots.toList = vs) (hl : vs.length < 2 ^ 31) {j : Nat} (W : Wr h h' a j v) : Is Z h' a (.inr (ty, vs.set j v)) :=
  ⟨c.setSlot j v, A.same W, X.wr W, by subst e; simp [Cell.setSlot], by simpa using hl⟩
/-- the fields of a fresh object -/
def FOk (Z : State) (a0 : Array Value) (C : String) : List FldE → Prop
  | [] => True
  | (O, n, d, v) :: r => Laid Z a0 C O n d ∧ (∃ ty, parseFieldDescriptor d = some ty ∧ v = defaultValue ty) ∧ FOk Z a0 C r
theorem FOk.cons {C O n d : String} {v : Value} {ty : FieldType} {r : List FldE} (l : Laid Z a0 C O n d) (p : parseFieldDescriptor d = some ty) (e : v = defaultValue ty) (k : FOk Z a0 C r) : FOk Z a0 C ((O, n, d, v) :: r) := ⟨l, ⟨ty, p, e⟩, k⟩
theorem FOk.mem {C : String} : ∀ {fs : List FldE}, FOk Z a0 C fs → ∀ f ∈ fs, Laid Z a0 C f.1 f.2.1 f.2.2.1 ∧ ∃ ty, parseFieldDescriptor f.2.2.1 = some ty ∧ f.2.2.2 = defaultValue ty
  | [], _, _, hf => by simp at hf
  | (O, n, d, v) :: r, k, f, hf => by
    rcases List.mem_cons.mp hf with rfl | hf
    · exact ⟨k.1, k.2.1⟩
    · exact FOk.mem k.2.2 f hf
theorem FOk.pw {C : String} {fs : List FldE} (k : FOk Z a0 C fs) (hn : (fs.map fun f => f.2.1).Nodup) : fs.Pairwise fun f g => RoadKit.slotOf Z f.1 f.2.1 f.2.2.1 ≠ RoadKit.slotOf Z g.1 g.2.1 g.2.2.1 := by
  have hn' : fs.Pairwise fun f g => f.2.1 ≠ g.2.1 := List.pairwise_map.mp hn
  refine List.Pairwise.imp_of_mem ?_ hn'
  intro f g hf hg q
  obtain ⟨l1, t1, p1, -⟩ := k.mem f hf
  obtain ⟨l2, t2, p2, -⟩ := k.mem g hg
  exact slot_ne l1 l2 q p1 p2
theorem set_at {L : HL} {i : Nat} {q r : Addr × Obj} (h : L[i]? = some q) : (L.set i r)[i]? = some r := List.getElem?_set_self (List.getElem?_eq_some_iff.mp h).1
theorem set_ne {L : HL} {i j : Nat} {q r : Addr × Obj} (n : i ≠ j) (h : L[j]? = some q) : (L.set i r)[j]? = some q := (List.getElem?_set_ne n).trans h
end Heaps
/-! ## the walk: where it stands, and that it comes to its end -/
def Wd (p : Program) (l : Launch) (e : Env) (R : Room) (s : State) (m : MethodId) (args : Array Value) (below : List Frame) (meth : Method) (c : Code) (Z : State) (a0 : Array Value) (n0 kb : Nat) (ws : List Cond)
    (y : MethodName) (bytes : ByteArray) (ml : Nat) (ret : Option FieldType) (T : State) (L : HL) (cells slots : Nat) : Prop :=
  (∃ locs, Stand p l e R s m args below meth c T locs cells slots ∧ Fr n0 locs) ∧ Hp Z n0 kb T.heap L ∧ p.tables.exec = Jvm.exec ∧ Z.Warmed39 s.vm ∧ s.vm.findClass y.cls = some m.cls ∧ c.code = bytes ∧ c.maxLocals = ml ∧
    meth.sig.returnType = ret ∧ meth.locks = false ∧ meth.name = y.name ∧ ∀ d ∈ ws, d.before a0 Z = true
/-- how a narrow walk ends: nothing of the tables has changed but what has been resolved -/
def EndN (s : State) (kc ks : Nat) (v : Option Value) (t : State) (Lc : List Loc) : Prop := FrameEnd s (.returned v) t Lc kc ks
def Go (p : Program) (e : Env) (below : List Frame) (Z : State) (n0 kg : Nat) (E : Option Value → State → List Loc → Prop) (P : Option Value → HL → Prop) (T : State) (g : JFrame) : Prop :=
  ∃ s₂ o, Steps p.tables e below (T.setTop g) s₂ ∧ s₂.status = .running ∧ Ended s₂ below o ∧ ∃ v Lc, o = .returned v ∧ (Fr n0 Lc ∧ ∃ L', Hp Z n0 kg s₂.heap L' ∧ P v L') ∧ E v s₂ Lc
/-- a method's contract: at these arguments and these cells it returns, with P of what it returns and of the cells -/
def Con (l : Launch) (y : MethodName) (bytes : ByteArray) (ml : Nat) (ret : Option FieldType) (rm : Room) (Z : State) (n0 : Nat) (as' : Array Value) (L : HL) (P : Option Value → HL → Prop) : Prop :=
  ∀ (wx : List Cond) (kb : Nat) (h : Heap), Hp Z n0 kb h L → MetFree l y (head1 (Cond.code y bytes ml ret :: wx) rm) (fun a U => a = as' ∧ Z.Warmed39 U.vm ∧ U.heap = h) (fun _ _ _ _ _ => True)
    (fun _ U o U' => ∃ v Lc, o = .returned v ∧ (Fr n0 Lc ∧ ∃ L', Hp Z n0 kb U'.heap L' ∧ P v L') ∧ FrameEnd U o U' Lc rm.cells rm.slots)
/-- what a call leaves on the stack -/
def pushV : Option Value → List Value → List Value
  | some v, r => v :: r
  | none, r => r
theorem pushV_eq (v : Option Value) (r : List Value) : v.toList ++ r = pushV v r := by cases v <;> rfl
section Walk
variable {p : Program} {l : Launch} {e : Env} {R : Room} {s : State} {m : MethodId} {args : Array Value} {below : List Frame} {meth : Method} {c : Code} {Z : State} {a0 : Array Value} {n0 kb kg : Nat} {ws : List Cond} {y : MethodName} {bytes : ByteArray} {ml : Nat} {ret : Option FieldType} {T T' : State} {L : HL} {cells slots : Nat} {P : Option Value → HL → Prop} {E : Option Value → State → List Loc → Prop} {kc ks : Nat}
theorem Go.pre {g g' : JFrame} (k : Go p e below Z n0 kg E P T' g') (f : ∀ t, Steps p.tables e below (T'.setTop g') t → Steps p.tables e below (T.setTop g) t) : Go p e below Z n0 kg E P T g := by
  obtain ⟨s₂, o, h1, r⟩ := k
  exact ⟨s₂, o, f _ h1, r⟩
theorem Go.mono {g : JFrame} {P' : Option Value → HL → Prop} (k : Go p e below Z n0 kg E P' T g) (f : ∀ v L, P' v L → P v L) : Go p e below Z n0 kg E P T g := by
  obtain ⟨s₂, o, h1, h2, h3, v, Lc, h4, ⟨h5, L', h6, h7⟩, h8⟩ := k
  exact ⟨s₂, o, h1, h2, h3, v, Lc, h4, ⟨h5, L', h6, f _ _ h7⟩, h8⟩
section Wds
variable (w : Wd p l e R s m args below meth c Z a0 n0 kb ws y bytes ml ret T L cells slots)
theorem Wd.here (w : Wd p l e R s m args below meth c Z a0 n0 kb ws y bytes ml ret T L cells slots) : At T m c below := by obtain ⟨⟨_, X, -⟩, -⟩ := w; exact X.here
theorem Wd.hx (w : Wd p l e R s m args below meth c Z a0 n0 kb ws y bytes ml ret T L cells slots) : p.tables.exec = Jvm.exec := w.2.2.1
theorem Wd.hby (w : Wd p l e R s m args below meth c Z a0 n0 kb ws y bytes ml ret T L cells slots) : c.code = bytes := w.2.2.2.2.2.1
theorem Wd.hp (w : Wd p l e R s m args below meth c Z a0 n0 kb ws y bytes ml ret T L cells slots) : Hp Z n0 kb T.heap L := w.2.1
theorem Wd.hw (w : Wd p l e R s m args below meth c Z a0 n0 kb ws y bytes ml ret T L cells slots) {k : Nat} {d : Cond} (h : ws[k]? = some d) : d.before a0 Z = true := w.2.2.2.2.2.2.2.2.2.2 _ (List.mem_of_getElem? h)
theorem Wd.to {L' : HL} (w : Wd p l e R s m args below meth c Z a0 n0 kb ws y bytes ml ret T L cells slots) (q : L = L') : Wd p l e R s m args below meth c Z a0 n0 kb ws y bytes ml ret T L' cells slots := q ▸ w
end Wds
theorem Con.of {rm : Room} {as' : Array Value} (hpl : plainFor y = true) (hws : ∀ d ∈ ws, d.before a0 Z = true)
    (body : ∀ {p : Program} {e : Env} {s : State} {m : MethodId} {below : List Frame} {meth : Method} {c : Code} {T : State} {kb : Nat}, Wd p l e rm s m as' below meth c Z a0 n0 kb ws y bytes ml ret T L 0 0 → Go p e below Z n0 kb (EndN s rm.cells rm.slots) P T (entryFrame m as' ml)) :
    Con l y bytes ml ret rm Z n0 as' L P := by
  intro wx kb h hH
  refine MetFree.of_bodySF hpl hisR ?_
  intro p e s m args below meth c s₁ Bd hml hP hK
  obtain ⟨rfl, hZ, hh⟩ := hP
  have X0 : Stand p l e rm s m args below meth c s₁ [] 0 0 := Stand.of_body Bd
  have e0 : s₁.heap = h := by rw [← hh, Bd.state]; rfl
  obtain ⟨s₂, o, h1, h2, h3, v, Lc, rfl, h5, h6⟩ := body ⟨⟨[], X0, Fr.nil n0⟩, by rw [e0]; exact hH, Bd.exec, hZ, findClass_of_methodNamed Bd.named, Bd.bytes, hml, Bd.returns, Bd.notSynchronized, (name_of_methodNamed Bd.named Bd.method).1, hws⟩
  obtain ⟨h5a, L', h5b, h5c⟩ := h5
  exact ⟨s₂, _, h1, h2, h3, v, Lc, rfl, ⟨h5a, L', h5b, h5c⟩, h6⟩
theorem g_entry {as' : Array Value} (Ls : Array Slot) (q : entryFrame m as' ml = mkF m 0 Ls []) (k : Go p e below Z n0 kg E P T (mkF m 0 Ls [])) : Go p e below Z n0 kg E P T (entryFrame m as' ml) := by rw [q]; exact k
theorem g_int {pc : Nat} {Ls : Array Slot} {x x' : Int32} {st : List Value} (q : x = x') (k : Go p e below Z n0 kg E P T (mkF m pc Ls (.int x' :: st))) : Go p e below Z n0 kg E P T (mkF m pc Ls (.int x :: st)) := by rw [q]; exact k
theorem g_long {pc : Nat} {Ls : Array Slot} {x x' : Int64} {st : List Value} (q : x = x') (k : Go p e below Z n0 kg E P T (mkF m pc Ls (.long x' :: st))) : Go p e below Z n0 kg E P T (mkF m pc Ls (.long x :: st)) := by rw [q]; exact k
theorem g_end {f : State → State} {fs : List Frame} {v : Option Value} {g : JFrame} {locs : List Loc} (X : Stand p l e R s m args below meth c T locs cells slots) (N : Fr n0 locs) (H : Hp Z n0 kb T.heap L) (hc : cells ≤ kc) (hs : slots ≤ ks) (hP : P v L)
    (st : Steps p.tables e below (T.setTop g) (T.setFrames fs)) (h1 : (T.setFrames fs).status = .running) (h2 : Ended (T.setFrames fs) below (.returned v)) (h3 : s.WarmedH (T.setFrames fs).vm) (h4 : s.sameButNew ({ T.setFrames fs with vm := s.vm } : State) locs cells slots) :
    Go p e below Z n0 kb (EndN s kc ks) P T g :=
  ⟨_, _, st, h1, h2, v, locs, rfl, ⟨N, L, H, hP⟩, ⟨_, rfl⟩, h3, h4.mono hc hs⟩
theorem g_ret (w : Wd p l e R s m args below meth c Z a0 n0 kb ws y bytes ml none T L cells slots) {pc : Nat} {Ls : Array Slot} (hd : decode bytes pc = .ok (.return_, 1)) (hc : cells ≤ kc) (hs : slots ≤ ks) (hP : P none L) :
    Go p e below Z n0 kb (EndN s kc ks) P T (mkF m pc Ls []) := by
  obtain ⟨⟨locs, X, N⟩, H, hx, hZ, hown, hby, hml, hret, hlk, hnm, hws⟩ := w
  obtain ⟨fs, hr, h1, h2, h3, h4⟩ := X.leave (v := none) (fun _ => rfl) hlk
  exact g_end (f := id) X N H hc hs hP (X.returnOut hx hret (hb hby hd) hr) h1 h2 h3 h4
theorem g_retW {t : FieldType} {i : Instr} (w : Wd p l e R s m args below meth c Z a0 n0 kb ws y bytes ml (some t) T L cells slots) {pc : Nat} {Ls : Array Slot} {v : Value} {st : List Value} (hd : decode bytes pc = .ok (i, 1)) (hn : narrow t v = v)
    (hi : (i = .ireturn ∧ (t = .int ∨ t = .boolean ∨ t = .byte ∨ t = .char ∨ t = .short) ∧ ∃ z, v = .int z) ∨ (i = .lreturn ∧ t = .long ∧ ∃ z, v = .long z) ∨ (i = .dreturn ∧ t = .double ∧ ∃ z, v = .double z) ∨ (i = .freturn ∧ t = .float ∧ ∃ z, v = .float z) ∨ (i = .areturn ∧ t.isReference = true ∧ v.isRef = true))
    (hc : cells ≤ kc) (hs : slots ≤ ks) (hP : P (some v) L) : Go p e below Z n0 kb (EndN s kc ks) P T (mkF m pc Ls (v :: st)) := by
  obtain ⟨⟨locs, X, N⟩, H, hx, hZ, hown, hby, hml, hret, hlk, hnm, hws⟩ := w
  obtain ⟨fs, hr, h1, h2, h3, h4⟩ := X.leave (v := some v) (fun q => by rw [hret] at q; cases q) hlk
  exact g_end (f := id) X N H hc hs hP (retOut X hx hret hn hi (hb hby hd) hr) h1 h2 h3 h4
theorem g_ireti (w : Wd p l e R s m args below meth c Z a0 n0 kb ws y bytes ml (some .int) T L cells slots) {pc : Nat} {Ls : Array Slot} {z : Int32} {st : List Value} (hd : decode bytes pc = .ok (.ireturn, 1)) (hc : cells ≤ kc) (hs : slots ≤ ks) (hP : P (some (.int z)) L) :
    Go p e below Z n0 kb (EndN s kc ks) P T (mkF m pc Ls (.int z :: st)) := g_retW w hd rfl (Or.inl ⟨rfl, Or.inl rfl, z, rfl⟩) hc hs hP
theorem g_lret (w : Wd p l e R s m args below meth c Z a0 n0 kb ws y bytes ml (some .long) T L cells slots) {pc : Nat} {Ls : Array Slot} {z : Int64} {st : List Value} (hd : decode bytes pc = .ok (.lreturn, 1)) (hc : cells ≤ kc) (hs : slots ≤ ks) (hP : P (some (.long z)) L) :
    Go p e below Z n0 kb (EndN s kc ks) P T (mkF m pc Ls (.long z :: st)) := g_retW w hd rfl (Or.inr (Or.inl ⟨rfl, rfl, z, rfl⟩)) hc hs hP
theorem g_aret {t : FieldType} (w : Wd p l e R s m args below meth c Z a0 n0 kb ws y bytes ml (some t) T L cells slots) {pc : Nat} {Ls : Array Slot} {v : Value} {st : List Value} (hd : decode bytes pc = .ok (.areturn, 1)) (ht : t.isReference = true) (hv : v.isRef = true) (hn : narrow t v = v) (hc : cells ≤ kc) (hs : slots ≤ ks) (hP : P (some v) L) :
    Go p e below Z n0 kb (EndN s kc ks) P T (mkF m pc Ls (v :: st)) := g_retW w hd hn (Or.inr (Or.inr (Or.inr (Or.inr ⟨rfl, ht, hv⟩)))) hc hs hP
/-- a boolean, byte, char or short: narrowed -/
theorem g_iretn {t : FieldType} (w : Wd p l e R s m args below meth c Z a0 n0 kb ws y bytes ml (some t) T L cells slots) (ht : t = .boolean ∨ t = .byte ∨ t = .char ∨ t = .short) {pc : Nat} {Ls : Array Slot} {z : Int32} {st : List Value} (hd : decode bytes pc = .ok (.ireturn, 1)) (hc : cells ≤ kc) (hs : slots ≤ ks) (hP : P (some (.int (nar t z))) L) :
    Go p e below Z n0 kb (EndN s kc ks) P T (mkF m pc Ls (.int z :: st)) := by
  obtain ⟨⟨locs, X, N⟩, H, hx, hZ, hown, hby, hml, hret, hlk, hnm, hws⟩ := w
  obtain ⟨fs, hr, h1, h2, h3, h4⟩ := X.leave (v := some (.int (nar t z))) (fun q => by rw [hret] at q; cases q) hlk
  exact g_end (f := id) X N H hc hs hP (retN X hx hret ht (hb hby hd) hr) h1 h2 h3 h4
/-! ## constants of the pool -/
theorem g_ldci (w : Wd p l e R s m args below meth c Z a0 n0 kb ws y bytes ml ret T L cells slots) {pc : Nat} {Ls : Array Slot} {st : List Value} {idx : Nat} (hd : decode bytes pc = .ok (.ldc idx, 2)) (k : Nat) {v : Int32} (hk : ws[k]? = some (.constant y.cls idx v)) (pc' : Nat) (hp : pc + 2 = pc')
    (kt : Go p e below Z n0 kg E P T (mkF m pc' Ls (.int v :: st))) : Go p e below Z n0 kg E P T (mkF m pc Ls st) := by
  subst hp
  have hk' := w.hw hk
  obtain ⟨⟨locs, X, N⟩, H, hx, hZ, hown, hby, hml, hret, hlk, hnm, hws⟩ := w
  exact kt.pre fun t q => X.ldcInt hx hown (mvT hZ hk') (g := mkF m pc Ls st) rfl (hb hby hd) t q
theorem g_ldcl (w : Wd p l e R s m args below meth c Z a0 n0 kb ws y bytes ml ret T L cells slots) {pc : Nat} {Ls : Array Slot} {st : List Value} {idx : Nat} (hd : decode bytes pc = .ok (.ldc2_w idx, 3)) (k : Nat) {v : Int64} (hk : ws[k]? = some (.constantLong y.cls idx v)) (pc' : Nat) (hp : pc + 3 = pc')
    (kt : Go p e below Z n0 kg E P T (mkF m pc' Ls (.long v :: st))) : Go p e below Z n0 kg E P T (mkF m pc Ls st) := by
  subst hp
  have hk' := w.hw hk
  obtain ⟨⟨locs, X, N⟩, H, hx, hZ, hown, hby, hml, hret, hlk, hnm, hws⟩ := w
  exact kt.pre fun t q => X.ldc2Long hx hown (mvT hZ hk') (g := mkF m pc Ls st) rfl (hb hby hd) t q
/-! ## fields -/
theorem g_getf (w : Wd p l e R s m args below meth c Z a0 n0 kb ws y bytes ml ret T L cells slots) {pc : Nat} {Ls : Array Slot} {st : List Value} {idx : Nat} {a : Addr} {C R0 O n d : String} {fs : List FldE} {v : Value} (hd : decode bytes pc = .ok (.getfield idx, 3)) (i : Nat) (hi : L[i]? = some (a, .inl (C, fs))) (j : Nat) (hj : fs[j]? = some (O, n, d, v))
    (k : Nat) (hk : ws[k]? = some (.fieldLink y.cls idx R0 n d)) (via : Via Z R0 O n d) (pc' : Nat) (hp : pc + 3 = pc')
    (kt : ∀ T', Wd p l e R s m args below meth c Z a0 n0 kb ws y bytes ml ret T' L cells slots → Go p e below Z n0 kg E P T' (mkF m pc' Ls (v :: st))) : Go p e below Z n0 kg E P T (mkF m pc Ls (.ref a :: st)) := by
  subst hp
  have hk' := w.hw hk
  obtain ⟨⟨locs, X, N⟩, H, hx, hZ, hown, hby, hml, hret, hlk, hnm, hws⟩ := w
  have F := (H.obj hi).2.1 _ (List.mem_of_getElem? hj)
  obtain ⟨T', X', e', st'⟩ := getF X hx hZ hown (host := "") (Or.inl hk') via rfl F (g := mkF m pc Ls (.ref a :: st)) rfl rfl (hb hby hd)
  exact (kt T' ⟨⟨locs, X', N⟩, by rw [e']; exact H, hx, hZ, hown, hby, hml, hret, hlk, hnm, hws⟩).pre st'
theorem g_putf (w : Wd p l e R s m args below meth c Z a0 n0 kb ws y bytes ml ret T L cells slots) {pc : Nat} {Ls : Array Slot} {st : List Value} {idx kk : Nat} {a : Addr} {C R0 O n d : String} {fs : List FldE} {u v : Value} {ty : FieldType} (hd : decode bytes pc = .ok (.putfield idx, 3)) (i : Nat) (hi : L[i]? = some (a, .inl (C, fs))) (j : Nat) (hj : fs[j]? = some (O, n, d, u))
    (k : Nat) (hk : ws[k]? = some (.fieldLink y.cls idx R0 n d)) (via : Via Z R0 O n d) (k2 : Nat) (hk2 : ws[k2]? = some (.lays C O n d) ∨ (ws[k2]? = some (.laysFinal C O n d) ∧ y.cls = O ∧ y.name = "<init>")) (k3 : Nat) (hk3 : ws[k3]? = some (.instantiable C kk)) (hty : parseFieldDescriptor d = some ty) (hn : narrow ty v = v) (hf : fits ty v = true) (pc' : Nat) (hp : pc + 3 = pc')
    (kt : ∀ T', Wd p l e R s m args below meth c Z a0 n0 kb ws y bytes ml ret T' (L.set i (a, .inl (C, fs.set j (O, n, d, v)))) cells slots → Go p e below Z n0 kg E P T' (mkF m pc' Ls st)) : Go p e below Z n0 kg E P T (mkF m pc Ls (v :: .ref a :: st)) := by
  subst hp
  have hk' := w.hw hk
  have hk3' := w.hw hk3
  have hk2' : (Cond.lays C O n d).before a0 Z = true ∨ ((Cond.laysFinal C O n d).before a0 Z = true ∧ y.cls = O ∧ y.name = "<init>") := hk2.imp (fun q => w.hw q) fun q => ⟨w.hw q.1, q.2⟩
  obtain ⟨⟨locs, X, N⟩, H, hx, hZ, hown, hby, hml, hret, hlk, hnm, hws⟩ := w
  have I := H.obj hi
  have F := I.2.1 _ (List.mem_of_getElem? hj)
  obtain ⟨T', h', X', e', W, st'⟩ := putF X hx hZ hown (host := "") (Or.inl hk') via rfl F I.1 (hk2'.imp id fun q => ⟨q.1, q.2.1, hnm.trans q.2.2⟩) hk3' hty hn hf (g := mkF m pc Ls (v :: .ref a :: st)) rfl rfl (hb hby hd)
  refine (kt T' ⟨⟨_, X', Fr.snoc X' N (H.ge hi)⟩, ?_, hx, hZ, hown, hby, hml, hret, hlk, hnm, hws⟩).pre st'
  rw [e']
  exact H.put hi W (Is.field (H.at hi) hj W)
/-! ## new objects and arrays -/
theorem g_new (w : Wd p l e R s m args below meth c Z a0 n0 kb ws y bytes ml ret T L cells slots) {pc : Nat} {Ls : Array Slot} {st : List Value} {idx n : Nat} {C : String} (fs : List FldE) (hd : decode bytes pc = .ok (.new idx, 3)) (k1 : Nat) (hk1 : ws[k1]? = some (.classLink y.cls idx C)) (k2 : Nat) (hk2 : ws[k2]? = some (.instantiable C n)) (k3 : Nat) (hk3 : ws[k3]? = some (.initialized C))
    (hfs : FOk Z a0 C fs) (hnd : (fs.map fun f => f.2.1).Nodup) (hc : cells + 1 ≤ R.cells) (hs : slots + n ≤ R.slots) (pc' : Nat) (hp : pc + 3 = pc')
    (kt : ∀ T' a, Wd p l e R s m args below meth c Z a0 n0 kb ws y bytes ml ret T' (L ++ [(a, .inl (C, fs))]) (cells + 1) (slots + n) → Go p e below Z n0 kg E P T' (mkF m pc' Ls (.ref a :: st))) : Go p e below Z n0 kg E P T (mkF m pc Ls st) := by
  subst hp
  have hk1' := w.hw hk1
  have hk2' := w.hw hk2
  have hk3' := w.hw hk3
  obtain ⟨⟨locs, X, N⟩, H, hx, hZ, hown, hby, hml, hret, hlk, hnm, hws⟩ := w
  obtain ⟨T', h', X', e', E, A, D, -, st'⟩ := newO X hx hZ hown hk1' hk2' hk3' rfl (g := mkF m pc Ls st) rfl (hb hby hd) hc hs
  refine (kt T' T.heap.size ⟨⟨_, X', N⟩, ?_, hx, hZ, hown, hby, hml, hret, hlk, hnm, hws⟩).pre st'
  rw [e']
  refine H.push E H.size (show Exa _ _ _ _ ∧ _ ∧ _ from ⟨A, fun f hf => ?_, hfs.pw hnd⟩)
  obtain ⟨l1, t1, p1, v1⟩ := hfs.mem f hf
  rw [v1]
  exact D l1 p1
theorem g_newarr (w : Wd p l e R s m args below meth c Z a0 n0 kb ws y bytes ml ret T L cells slots) {pc : Nat} {Ls : Array Slot} {st : List Value} {aty : ArrayType} {n : Int32} (hd : decode bytes pc = .ok (.newarray aty, 2)) (k1 : Nat) (hk1 : ws[k1]? = some (.arrayClass (newarray.typeOf aty))) (nn cap : Nat) (hn : n.toInt = (nn : Int)) (hcap : nn ≤ cap) (hb8 : cap * 8 ≤ 536870912)
    (vs : List Value) (hvs : vs = List.replicate nn (defaultValue (newarray.typeOf aty))) (hc : cells + 1 ≤ R.cells) (hs : slots + cap ≤ R.slots) (pc' : Nat) (hp : pc + 2 = pc')
    (kt : ∀ T' a, Wd p l e R s m args below meth c Z a0 n0 kb ws y bytes ml ret T' (L ++ [(a, .inr (newarray.typeOf aty, vs))]) (cells + 1) (slots + cap) → Go p e below Z n0 kg E P T' (mkF m pc' Ls (.ref a :: st))) : Go p e below Z n0 kg E P T (mkF m pc Ls (.int n :: st)) := by
  subst hp hvs
  have hk1' := w.hw hk1
  obtain ⟨⟨locs, X, N⟩, H, hx, hZ, hown, hby, hml, hret, hlk, hnm, hws⟩ := w
  have q0 : ¬ n < 0 := by rw [Int32.lt_iff_toInt_lt, hn]; show ¬ ((nn : Int) < 0); omega
  have q1 : n.toNatClampNeg = nn := by have := nat_of q0; rw [hn] at this; exact (Int.ofNat.inj this).symm
  obtain ⟨T', h', cA, X', e', E, A, XA, st'⟩ := newPE X hx hZ hk1' rfl (g := mkF m pc Ls (.int n :: st)) rfl (hb hby hd) rfl q0 (cap := cap) (by rw [q1]; exact hcap) hb8 hc hs (ad := "[" ++ (newarray.typeOf aty).toString) rfl
  refine (kt T' T.heap.size ⟨⟨_, X', N⟩, ?_, hx, hZ, hown, hby, hml, hret, hlk, hnm, hws⟩).pre st'
  rw [e']
  refine H.push E H.size (show ∃ c : Cell, _ from ⟨_, A, XA, by simp [newA, q1], ?_⟩)
  have := Int32.toInt_lt n
  rw [hn] at this
  simp only [List.length_replicate]
  omega
theorem inb {j : Int32} {jn : Nat} {cl : Cell} {vs : List Value} (hj : j.toInt = (jn : Int)) (e : cl.slots.toList = vs) (hl : jn < vs.length) : ¬ (j < 0 ∨ cl.slots.size ≤ j.toNatClampNeg) ∧ j.toNatClampNeg = jn := by
  have q0 : ¬ j < 0 := by rw [Int32.lt_iff_toInt_lt, hj]; show ¬ ((jn : Int) < 0); omega
  have q1 : j.toNatClampNeg = jn := by have := nat_of q0; rw [hj] at this; exact (Int.ofNat.inj this).symm
  refine ⟨fun q => q.elim q0 fun r => ?_, q1⟩
  rw [q1] at r
  have : cl.slots.size = vs.length := by rw [← e]; simp
  omega
theorem g_alen (w : Wd p l e R s m args below meth c Z a0 n0 kb ws y bytes ml ret T L cells slots) {pc : Nat} {Ls : Array Slot} {st : List Value} {a : Addr} {ty : FieldType} {vs : List Value} (hd : decode bytes pc = .ok (.arraylength, 1)) (i : Nat) (hi : L[i]? = some (a, .inr (ty, vs))) (z : Int32) (hz : z.toInt = (vs.length : Int)) (pc' : Nat) (hp : pc + 1 = pc')
    (kt : Go p e below Z n0 kg E P T (mkF m pc' Ls (.int z :: st))) : Go p e below Z n0 kg E P T (mkF m pc Ls (.ref a :: st)) := by
  subst hp
  obtain ⟨⟨locs, X, N⟩, H, hx, hZ, hown, hby, hml, hret, hlk, hnm, hws⟩ := w
  obtain ⟨cl, A, -, ev, hl⟩ := H.arr hi
  refine kt.pre fun t q => X.arraylength hx A.1 (State.isArrayOf_alike hZ.alike A.2.1) (g := mkF m pc Ls (.ref a :: st)) rfl rfl (hb hby hd) t ?_
  have : cl.slots.size.toInt32 = z := by
    apply Int32.toInt_inj.mp
    have e1 : cl.slots.size = vs.length := by rw [← ev]; simp
    rw [hz, e1]
    exact len_toInt hl
  rw [this]
  exact q
theorem g_castA (w : Wd p l e R s m args below meth c Z a0 n0 kb ws y bytes ml ret T L cells slots) {pc : Nat} {Ls : Array Slot} {st : List Value} {a : Addr} {ty : FieldType} {vs : List Value} {idx : Nat} {K : String} (hd : decode bytes pc = .ok (.checkcast idx, 3)) (i : Nat) (hi : L[i]? = some (a, .inr (ty, vs))) (k : Nat) (hk : ws[k]? = some (.classLink y.cls idx K)) (hK : "[" ++ ty.toString = K) (pc' : Nat) (hp : pc + 3 = pc')
    (kt : ∀ T', Wd p l e R s m args below meth c Z a0 n0 kb ws y bytes ml ret T' L cells slots → Go p e below Z n0 kg E P T' (mkF m pc' Ls (.ref a :: st))) : Go p e below Z n0 kg E P T (mkF m pc Ls (.ref a :: st)) := by
  subst hp hK
  have hk' := w.hw hk
  obtain ⟨⟨locs, X, N⟩, H, hx, hZ, hown, hby, hml, hret, hlk, hnm, hws⟩ := w
  obtain ⟨cl, A, XA, ev, hl⟩ := H.arr hi
  obtain ⟨T', X', e', st'⟩ := castY X hx hZ hown hk' rfl (Ins.self XA) (g := mkF m pc Ls (.ref a :: st)) rfl rfl (hb hby hd)
  exact (kt T' ⟨⟨locs, X', N⟩, by rw [e']; exact H, hx, hZ, hown, hby, hml, hret, hlk, hnm, hws⟩).pre st'
theorem g_cloneA (w : Wd p l e R s m args below meth c Z a0 n0 kb ws y bytes ml ret T L cells slots) {pc : Nat} {Ls : Array Slot} {st : List Value} {a : Addr} {ty : FieldType} {vs : List Value} {idx : Nat} {ad : String} (hd : decode bytes pc = .ok (.invokevirtual idx, 3)) (i : Nat) (hi : L[i]? = some (a, .inr (ty, vs))) (had : "[" ++ ty.toString = ad)
    (k1 : Nat) (hk1 : ws[k1]? = some (.methodLink y.cls idx ⟨ad, "clone", "()Ljava/lang/Object;"⟩)) (k2 : Nat) (hk2 : ws[k2]? = some (.sameMethod ad "java/lang/Object" "clone" "()Ljava/lang/Object;")) (k3 : Nat) (hk3 : ws[k3]? = some (.native ⟨"java/lang/Object", "clone", "()Ljava/lang/Object;"⟩)) (k4 : Nat) (hk4 : ws[k4]? = some (.instanceMethod ⟨"java/lang/Object", "clone", "()Ljava/lang/Object;"⟩))
    (k5 : Nat) (hk5 : ws[k5]? = some (.selects ad ⟨ad, "clone", "()Ljava/lang/Object;"⟩ ⟨"java/lang/Object", "clone", "()Ljava/lang/Object;"⟩)) (k6 : Nat) (hk6 : ws[k6]? = some (.castable ad "java/lang/Cloneable")) (hfit : ∀ v ∈ vs, fits ty v = true) (hsz : Ls.size = ml) (hf : 1 ≤ R.frames) (W cap : Nat) (hW : (st.map fun v => v.category).sum = W) (hl : W + 14 ≤ R.locals) (hcap : vs.length ≤ cap) (hc : cells + 1 ≤ R.cells) (hs : slots + cap ≤ R.slots) (pc' : Nat) (hp : pc + 3 = pc')
    (kt : ∀ T' a', Wd p l e R s m args below meth c Z a0 n0 kb ws y bytes ml ret T' (L ++ [(a', .inr (ty, vs))]) (cells + 1) (slots + cap) → Go p e below Z n0 kg E P T' (mkF m pc' Ls (.ref a' :: st))) : Go p e below Z n0 kg E P T (mkF m pc Ls (.ref a :: st)) := by
  subst hp had
  have hk1' := w.hw hk1
  have hk2' := w.hw hk2
  have hk3' := w.hw hk3
  have hk4' := w.hw hk4
  have hk5' := w.hw hk5
  have hk6' := w.hw hk6
  obtain ⟨⟨locs, X, N⟩, H, hx, hZ, hown, hby, hml, hret, hlk, hnm, hws⟩ := w
  obtain ⟨cl, A, XA, ev, hL⟩ := H.arr hi
  have FC : FitC Z cl := fitC_of A fun i hi v hv => hfit v (by rw [← ev]; exact Array.mem_toList_iff.mpr (Array.mem_of_getElem? hv))
  have hlen : cl.slots.size = vs.length := by rw [← ev]; simp
  obtain ⟨T', h', X', e', E, A', XA', st'⟩ := cloneA X hx hZ hown hk1' hk2' hk3' hk4' hk5' hk6' rfl A XA FC (g := mkF m pc Ls (.ref a :: st)) rfl (by rw [hml]; exact hsz) rfl (hb hby hd) hf (W := W) (cap := cap) (by show 2 * 0 + _ ≤ _; rw [hW]; omega) hl (by rw [hlen]; exact hcap) hc hs
  refine (kt T' T.heap.size ⟨⟨_, X', N⟩, ?_, hx, hZ, hown, hby, hml, hret, hlk, hnm, hws⟩).pre st'
  rw [e']
  exact H.push E H.size ⟨_, A', XA', ev, hL⟩
/-! ## what stood at the start: statics and old objects (never written) -/
theorem Hp.old (H : Hp Z n0 kb T.heap L) : Ext Z.heap T.heap := H.1.1.2
theorem g_gets (w : Wd p l e R s m args below meth c Z a0 n0 kb ws y bytes ml ret T L cells slots) {pc : Nat} {Ls : Array Slot} {st : List Value} {idx : Nat} {O n d : String} {v : Value} (F : Sta Z Z.heap O n d v) (hd : decode bytes pc = .ok (.getstatic idx, 3)) (k : Nat) (hk : ws[k]? = some (.fieldLink y.cls idx O n d)) (pc' : Nat) (hp : pc + 3 = pc')
    (kt : ∀ T', Wd p l e R s m args below meth c Z a0 n0 kb ws y bytes ml ret T' L cells slots → Go p e below Z n0 kg E P T' (mkF m pc' Ls (v :: st))) : Go p e below Z n0 kg E P T (mkF m pc Ls st) := by
  subst hp
  have hk' := w.hw hk
  obtain ⟨⟨locs, X, N⟩, H, hx, hZ, hown, hby, hml, hret, hlk, hnm, hws⟩ := w
  obtain ⟨T', X', e', st'⟩ := getS X hx hZ hown (host := "") hk' Via.refl rfl (F.ext H.old) (g := mkF m pc Ls st) rfl (hb hby hd)
  exact (kt T' ⟨⟨locs, X', N⟩, by rw [e']; exact H, hx, hZ, hown, hby, hml, hret, hlk, hnm, hws⟩).pre st'
theorem g_getfO (w : Wd p l e R s m args below meth c Z a0 n0 kb ws y bytes ml ret T L cells slots) {pc : Nat} {Ls : Array Slot} {st : List Value} {idx : Nat} {a : Addr} {O n d : String} {v : Value} (F : Fld Z Z.heap a O n d v) (hd : decode bytes pc = .ok (.getfield idx, 3)) (k : Nat) (hk : ws[k]? = some (.fieldLink y.cls idx O n d)) (pc' : Nat) (hp : pc + 3 = pc')
    (kt : ∀ T', Wd p l e R s m args below meth c Z a0 n0 kb ws y bytes ml ret T' L cells slots → Go p e below Z n0 kg E P T' (mkF m pc' Ls (v :: st))) : Go p e below Z n0 kg E P T (mkF m pc Ls (.ref a :: st)) := by
  subst hp
  have hk' := w.hw hk
  obtain ⟨⟨locs, X, N⟩, H, hx, hZ, hown, hby, hml, hret, hlk, hnm, hws⟩ := w
  obtain ⟨T', X', e', st'⟩ := getF X hx hZ hown (host := "") (Or.inl hk') Via.refl rfl (F.ext H.old) (g := mkF m pc Ls (.ref a :: st)) rfl rfl (hb hby hd)
  exact (kt T' ⟨⟨locs, X', N⟩, by rw [e']; exact H, hx, hZ, hown, hby, hml, hret, hlk, hnm, hws⟩).pre st'
theorem g_iaload (w : Wd p l e R s m args below meth c Z a0 n0 kb ws y bytes ml ret T L cells slots) {pc : Nat} {Ls : Array Slot} {st : List Value} {a : Addr} {vs : List Value} {j : Int32} {v : Value} (hd : decode bytes pc = .ok (.iaload, 1)) (i : Nat) (hi : L[i]? = some (a, .inr (.int, vs))) (jn : Nat) (hj : j.toInt = (jn : Int)) (hv : vs[jn]? = some v) (pc' : Nat) (hp : pc + 1 = pc')
    (kt : Go p e below Z n0 kg E P T (mkF m pc' Ls (v :: st))) : Go p e below Z n0 kg E P T (mkF m pc Ls (.int j :: .ref a :: st)) := by
  subst hp
  obtain ⟨⟨locs, X, N⟩, H, hx, hZ, hown, hby, hml, hret, hlk, hnm, hws⟩ := w
  obtain ⟨cl, A, -, ev, hl⟩ := H.arr hi
  obtain ⟨q1, q2⟩ := inb hj ev (List.getElem?_eq_some_iff.mp hv).1
  exact kt.pre fun t q => X.iaload hx (j := j) (v := v) A.1 (State.isArrayOf_alike hZ.alike A.2.1) A.2.2 q1 (by rw [q2, ← hv, ← ev]; simp) (g := mkF m pc Ls (.int j :: .ref a :: st)) rfl rfl (hb hby hd) t q
theorem g_laload (w : Wd p l e R s m args below meth c Z a0 n0 kb ws y bytes ml ret T L cells slots) {pc : Nat} {Ls : Array Slot} {st : List Value} {a : Addr} {vs : List Value} {j : Int32} {v : Value} (hd : decode bytes pc = .ok (.laload, 1)) (i : Nat) (hi : L[i]? = some (a, .inr (.long, vs))) (jn : Nat) (hj : j.toInt = (jn : Int)) (hv : vs[jn]? = some v) (pc' : Nat) (hp : pc + 1 = pc')
    (kt : Go p e below Z n0 kg E P T (mkF m pc' Ls (v :: st))) : Go p e below Z n0 kg E P T (mkF m pc Ls (.int j :: .ref a :: st)) := by
  subst hp
  obtain ⟨⟨locs, X, N⟩, H, hx, hZ, hown, hby, hml, hret, hlk, hnm, hws⟩ := w
  obtain ⟨cl, A, -, ev, hl⟩ := H.arr hi
  obtain ⟨q1, q2⟩ := inb hj ev (List.getElem?_eq_some_iff.mp hv).1
  exact kt.pre fun t q => X.laload hx (j := j) (v := v) A.1 (State.isArrayOf_alike hZ.alike A.2.1) A.2.2 q1 (by rw [q2, ← hv, ← ev]; simp) (g := mkF m pc Ls (.int j :: .ref a :: st)) rfl rfl (hb hby hd) t q
theorem g_caload (w : Wd p l e R s m args below meth c Z a0 n0 kb ws y bytes ml ret T L cells slots) {pc : Nat} {Ls : Array Slot} {st : List Value} {a : Addr} {vs : List Value} {j : Int32} {v : Value} (hd : decode bytes pc = .ok (.caload, 1)) (i : Nat) (hi : L[i]? = some (a, .inr (.char, vs))) (jn : Nat) (hj : j.toInt = (jn : Int)) (hv : vs[jn]? = some v) (pc' : Nat) (hp : pc + 1 = pc')
    (kt : Go p e below Z n0 kg E P T (mkF m pc' Ls (v :: st))) : Go p e below Z n0 kg E P T (mkF m pc Ls (.int j :: .ref a :: st)) := by
  subst hp
  obtain ⟨⟨locs, X, N⟩, H, hx, hZ, hown, hby, hml, hret, hlk, hnm, hws⟩ := w
  obtain ⟨cl, A, -, ev, hl⟩ := H.arr hi
  obtain ⟨q1, q2⟩ := inb hj ev (List.getElem?_eq_some_iff.mp hv).1
  exact kt.pre fun t q => X.caload hx (j := j) (v := v) A.1 (State.isArrayOf_alike hZ.alike A.2.1) A.2.2 q1 (by rw [q2, ← hv, ← ev]; simp) (g := mkF m pc Ls (.int j :: .ref a :: st)) rfl rfl (hb hby hd) t q
theorem g_baload (w : Wd p l e R s m args below meth c Z a0 n0 kb ws y bytes ml ret T L cells slots) {pc : Nat} {Ls : Array Slot} {st : List Value} {a : Addr} {vs : List Value} {j : Int32} {v : Value} (hd : decode bytes pc = .ok (.baload, 1)) (i : Nat) (hi : L[i]? = some (a, .inr (.byte, vs))) (jn : Nat) (hj : j.toInt = (jn : Int)) (hv : vs[jn]? = some v) (pc' : Nat) (hp : pc + 1 = pc')
    (kt : Go p e below Z n0 kg E P T (mkF m pc' Ls (v :: st))) : Go p e below Z n0 kg E P T (mkF m pc Ls (.int j :: .ref a :: st)) := by
  subst hp
  obtain ⟨⟨locs, X, N⟩, H, hx, hZ, hown, hby, hml, hret, hlk, hnm, hws⟩ := w
  obtain ⟨cl, A, -, ev, hl⟩ := H.arr hi
  obtain ⟨q1, q2⟩ := inb hj ev (List.getElem?_eq_some_iff.mp hv).1
  exact kt.pre fun t q => X.baloadBytes hx (j := j) (v := v) A.1 (State.isArrayOf_alike hZ.alike A.2.1) A.2.2 q1 (by rw [q2, ← hv, ← ev]; simp) (g := mkF m pc Ls (.int j :: .ref a :: st)) rfl rfl (hb hby hd) t q
theorem g_zaload (w : Wd p l e R s m args below meth c Z a0 n0 kb ws y bytes ml ret T L cells slots) {pc : Nat} {Ls : Array Slot} {st : List Value} {a : Addr} {vs : List Value} {j : Int32} {v : Value} (hd : decode bytes pc = .ok (.baload, 1)) (i : Nat) (hi : L[i]? = some (a, .inr (.boolean, vs))) (jn : Nat) (hj : j.toInt = (jn : Int)) (hv : vs[jn]? = some v) (pc' : Nat) (hp : pc + 1 = pc')
    (kt : Go p e below Z n0 kg E P T (mkF m pc' Ls (v :: st))) : Go p e below Z n0 kg E P T (mkF m pc Ls (.int j :: .ref a :: st)) := by
  subst hp
  obtain ⟨⟨locs, X, N⟩, H, hx, hZ, hown, hby, hml, hret, hlk, hnm, hws⟩ := w
  obtain ⟨cl, A, -, ev, hl⟩ := H.arr hi
  obtain ⟨q1, q2⟩ := inb hj ev (List.getElem?_eq_some_iff.mp hv).1
  exact kt.pre fun t q => X.baloadBooleans hx (j := j) (v := v) A.1 (State.isArrayOf_alike hZ.alike A.2.1) A.2.2 q1 (by rw [q2, ← hv, ← ev]; simp) (g := mkF m pc Ls (.int j :: .ref a :: st)) rfl rfl (hb hby hd) t q
theorem g_iastore (w : Wd p l e R s m args below meth c Z a0 n0 kb ws y bytes ml ret T L cells slots) {pc : Nat} {Ls : Array Slot} {st : List Value} {a : Addr} {vs : List Value} {j : Int32} {x : Int32} (hd : decode bytes pc = .ok (.iastore, 1)) (i : Nat) (hi : L[i]? = some (a, .inr (.int, vs))) (jn : Nat) (hj : j.toInt = (jn : Int)) (hl : jn < vs.length) (v : Value) (hv : (.int x) = v) (pc' : Nat) (hp : pc + 1 = pc')
    (kt : ∀ T', Wd p l e R s m args below meth c Z a0 n0 kb ws y bytes ml ret T' (L.set i (a, .inr (.int, vs.set jn v))) cells slots → Go p e below Z n0 kg E P T' (mkF m pc' Ls st)) : Go p e below Z n0 kg E P T (mkF m pc Ls (.int x :: .int j :: .ref a :: st)) := by
  subst hp hv
  obtain ⟨⟨locs, X, N⟩, H, hx, hZ, hown, hby, hml, hret, hlk, hnm, hws⟩ := w
  obtain ⟨cl, A, XA, ev, hL⟩ := H.arr hi
  obtain ⟨q1, q2⟩ := inb hj ev hl
  obtain ⟨T', h', X', e', W, st'⟩ := stI X hx hZ rfl A (j := j) (x := x) q1 (g := mkF m pc Ls (.int x :: .int j :: .ref a :: st)) rfl rfl (hb hby hd)
  rw [q2] at W
  refine (kt T' ⟨⟨_, X', Fr.snoc X' N (H.ge hi)⟩, ?_, hx, hZ, hown, hby, hml, hret, hlk, hnm, hws⟩).pre st'
  rw [e']
  exact H.put hi W (Is.elem A XA ev hL W)
theorem g_lastore (w : Wd p l e R s m args below meth c Z a0 n0 kb ws y bytes ml ret T L cells slots) {pc : Nat} {Ls : Array Slot} {st : List Value} {a : Addr} {vs : List Value} {j : Int32} {x : Int64} (hd : decode bytes pc = .ok (.lastore, 1)) (i : Nat) (hi : L[i]? = some (a, .inr (.long, vs))) (jn : Nat) (hj : j.toInt = (jn : Int)) (hl : jn < vs.length) (v : Value) (hv : (.long x) = v) (pc' : Nat) (hp : pc + 1 = pc')
    (kt : ∀ T', Wd p l e R s m args below meth c Z a0 n0 kb ws y bytes ml ret T' (L.set i (a, .inr (.long, vs.set jn v))) cells slots → Go p e below Z n0 kg E P T' (mkF m pc' Ls st)) : Go p e below Z n0 kg E P T (mkF m pc Ls (.long x :: .int j :: .ref a :: st)) := by
  subst hp hv
  obtain ⟨⟨locs, X, N⟩, H, hx, hZ, hown, hby, hml, hret, hlk, hnm, hws⟩ := w
  obtain ⟨cl, A, XA, ev, hL⟩ := H.arr hi
  obtain ⟨q1, q2⟩ := inb hj ev hl
  obtain ⟨T', h', X', e', W, st'⟩ := stJ X hx hZ rfl A (j := j) (x := x) q1 (g := mkF m pc Ls (.long x :: .int j :: .ref a :: st)) rfl rfl (hb hby hd)
  rw [q2] at W
  refine (kt T' ⟨⟨_, X', Fr.snoc X' N (H.ge hi)⟩, ?_, hx, hZ, hown, hby, hml, hret, hlk, hnm, hws⟩).pre st'
  rw [e']
  exact H.put hi W (Is.elem A XA ev hL W)
theorem g_castore (w : Wd p l e R s m args below meth c Z a0 n0 kb ws y bytes ml ret T L cells slots) {pc : Nat} {Ls : Array Slot} {st : List Value} {a : Addr} {vs : List Value} {j : Int32} {x : Int32} (hd : decode bytes pc = .ok (.castore, 1)) (i : Nat) (hi : L[i]? = some (a, .inr (.char, vs))) (jn : Nat) (hj : j.toInt = (jn : Int)) (hl : jn < vs.length) (v : Value) (hv : (.int (nar .char x)) = v) (pc' : Nat) (hp : pc + 1 = pc')
    (kt : ∀ T', Wd p l e R s m args below meth c Z a0 n0 kb ws y bytes ml ret T' (L.set i (a, .inr (.char, vs.set jn v))) cells slots → Go p e below Z n0 kg E P T' (mkF m pc' Ls st)) : Go p e below Z n0 kg E P T (mkF m pc Ls (.int x :: .int j :: .ref a :: st)) := by
  subst hp hv
  obtain ⟨⟨locs, X, N⟩, H, hx, hZ, hown, hby, hml, hret, hlk, hnm, hws⟩ := w
  obtain ⟨cl, A, XA, ev, hL⟩ := H.arr hi
  obtain ⟨q1, q2⟩ := inb hj ev hl
  obtain ⟨T', h', X', e', W, st'⟩ := stC X hx hZ rfl A (j := j) (x := x) q1 (g := mkF m pc Ls (.int x :: .int j :: .ref a :: st)) rfl rfl (hb hby hd)
  rw [q2] at W
  refine (kt T' ⟨⟨_, X', Fr.snoc X' N (H.ge hi)⟩, ?_, hx, hZ, hown, hby, hml, hret, hlk, hnm, hws⟩).pre st'
  rw [e']
  exact H.put hi W (Is.elem A XA ev hL W)
theorem g_bastore (w : Wd p l e R s m args below meth c Z a0 n0 kb ws y bytes ml ret T L cells slots) {pc : Nat} {Ls : Array Slot} {st : List Value} {a : Addr} {vs : List Value} {j : Int32} {x : Int32} (hd : decode bytes pc = .ok (.bastore, 1)) (i : Nat) (hi : L[i]? = some (a, .inr (.byte, vs))) (jn : Nat) (hj : j.toInt = (jn : Int)) (hl : jn < vs.length) (v : Value) (hv : (.int (nar .byte x)) = v) (pc' : Nat) (hp : pc + 1 = pc')
    (kt : ∀ T', Wd p l e R s m args below meth c Z a0 n0 kb ws y bytes ml ret T' (L.set i (a, .inr (.byte, vs.set jn v))) cells slots → Go p e below Z n0 kg E P T' (mkF m pc' Ls st)) : Go p e below Z n0 kg E P T (mkF m pc Ls (.int x :: .int j :: .ref a :: st)) := by
  subst hp hv
  obtain ⟨⟨locs, X, N⟩, H, hx, hZ, hown, hby, hml, hret, hlk, hnm, hws⟩ := w
  obtain ⟨cl, A, XA, ev, hL⟩ := H.arr hi
  obtain ⟨q1, q2⟩ := inb hj ev hl
  obtain ⟨T', h', X', e', W, st'⟩ := stB X hx hZ rfl A (j := j) (x := x) q1 (g := mkF m pc Ls (.int x :: .int j :: .ref a :: st)) rfl rfl (hb hby hd)
  rw [q2] at W
  refine (kt T' ⟨⟨_, X', Fr.snoc X' N (H.ge hi)⟩, ?_, hx, hZ, hown, hby, hml, hret, hlk, hnm, hws⟩).pre st'
  rw [e']
  exact H.put hi W (Is.elem A XA ev hL W)
theorem g_zastore (w : Wd p l e R s m args below meth c Z a0 n0 kb ws y bytes ml ret T L cells slots) {pc : Nat} {Ls : Array Slot} {st : List Value} {a : Addr} {vs : List Value} {j : Int32} {x : Int32} (hd : decode bytes pc = .ok (.bastore, 1)) (i : Nat) (hi : L[i]? = some (a, .inr (.boolean, vs))) (jn : Nat) (hj : j.toInt = (jn : Int)) (hl : jn < vs.length) (v : Value) (hv : (.int (nar .boolean x)) = v) (pc' : Nat) (hp : pc + 1 = pc')
    (kt : ∀ T', Wd p l e R s m args below meth c Z a0 n0 kb ws y bytes ml ret T' (L.set i (a, .inr (.boolean, vs.set jn v))) cells slots → Go p e below Z n0 kg E P T' (mkF m pc' Ls st)) : Go p e below Z n0 kg E P T (mkF m pc Ls (.int x :: .int j :: .ref a :: st)) := by
  subst hp hv
  obtain ⟨⟨locs, X, N⟩, H, hx, hZ, hown, hby, hml, hret, hlk, hnm, hws⟩ := w
  obtain ⟨cl, A, XA, ev, hL⟩ := H.arr hi
  obtain ⟨q1, q2⟩ := inb hj ev hl
  obtain ⟨T', h', X', e', W, st'⟩ := stZ X hx hZ rfl A (j := j) (x := x) q1 (g := mkF m pc Ls (.int x :: .int j :: .ref a :: st)) rfl rfl (hb hby hd)
  rw [q2] at W
  refine (kt T' ⟨⟨_, X', Fr.snoc X' N (H.ge hi)⟩, ?_, hx, hZ, hown, hby, hml, hret, hlk, hnm, hws⟩).pre st'
  rw [e']
  exact H.put hi W (Is.elem A XA ev hL W)
theorem g_iadd (w : Wd p l e R s m args below meth c Z a0 n0 kb ws y bytes ml ret T L cells slots) {pc : Nat} {Ls : Array Slot} {x y : Int32} {st : List Value} (hd : decode bytes pc = .ok (.iadd, 1)) (pc' : Nat) (hp : pc + 1 = pc')
    (k : Go p e below Z n0 kg E P T (mkF m pc' Ls (.int (x + y) :: st))) : Go p e below Z n0 kg E P T (mkF m pc Ls (.int y :: .int x :: st)) := by
  subst hp
  exact k.pre fun t q => XS.iadd w.here w.hx rfl (hb w.hby hd) rfl q
theorem g_isub (w : Wd p l e R s m args below meth c Z a0 n0 kb ws y bytes ml ret T L cells slots) {pc : Nat} {Ls : Array Slot} {x y : Int32} {st : List Value} (hd : decode bytes pc = .ok (.isub, 1)) (pc' : Nat) (hp : pc + 1 = pc')
    (k : Go p e below Z n0 kg E P T (mkF m pc' Ls (.int (x - y) :: st))) : Go p e below Z n0 kg E P T (mkF m pc Ls (.int y :: .int x :: st)) := by
  subst hp
  exact k.pre fun t q => XS.isub w.here w.hx rfl (hb w.hby hd) rfl q
theorem g_imul (w : Wd p l e R s m args below meth c Z a0 n0 kb ws y bytes ml ret T L cells slots) {pc : Nat} {Ls : Array Slot} {x y : Int32} {st : List Value} (hd : decode bytes pc = .ok (.imul, 1)) (pc' : Nat) (hp : pc + 1 = pc')
    (k : Go p e below Z n0 kg E P T (mkF m pc' Ls (.int (x * y) :: st))) : Go p e below Z n0 kg E P T (mkF m pc Ls (.int y :: .int x :: st)) := by
  subst hp
  exact k.pre fun t q => XS.imul w.here w.hx rfl (hb w.hby hd) rfl q
theorem g_iand (w : Wd p l e R s m args below meth c Z a0 n0 kb ws y bytes ml ret T L cells slots) {pc : Nat} {Ls : Array Slot} {x y : Int32} {st : List Value} (hd : decode bytes pc = .ok (.iand, 1)) (pc' : Nat) (hp : pc + 1 = pc')
    (k : Go p e below Z n0 kg E P T (mkF m pc' Ls (.int (x &&& y) :: st))) : Go p e below Z n0 kg E P T (mkF m pc Ls (.int y :: .int x :: st)) := by
  subst hp
  exact k.pre fun t q => XS.iand w.here w.hx rfl (hb w.hby hd) rfl q
theorem g_ior (w : Wd p l e R s m args below meth c Z a0 n0 kb ws y bytes ml ret T L cells slots) {pc : Nat} {Ls : Array Slot} {x y : Int32} {st : List Value} (hd : decode bytes pc = .ok (.ior, 1)) (pc' : Nat) (hp : pc + 1 = pc')
    (k : Go p e below Z n0 kg E P T (mkF m pc' Ls (.int (x ||| y) :: st))) : Go p e below Z n0 kg E P T (mkF m pc Ls (.int y :: .int x :: st)) := by
  subst hp
  exact k.pre fun t q => XT.ior w.here w.hx rfl (hb w.hby hd) rfl q
theorem g_ixor (w : Wd p l e R s m args below meth c Z a0 n0 kb ws y bytes ml ret T L cells slots) {pc : Nat} {Ls : Array Slot} {x y : Int32} {st : List Value} (hd : decode bytes pc = .ok (.ixor, 1)) (pc' : Nat) (hp : pc + 1 = pc')
    (k : Go p e below Z n0 kg E P T (mkF m pc' Ls (.int (x ^^^ y) :: st))) : Go p e below Z n0 kg E P T (mkF m pc Ls (.int y :: .int x :: st)) := by
  subst hp
  exact k.pre fun t q => XT.ixor w.here w.hx rfl (hb w.hby hd) rfl q
theorem g_ishl (w : Wd p l e R s m args below meth c Z a0 n0 kb ws y bytes ml ret T L cells slots) {pc : Nat} {Ls : Array Slot} {x y : Int32} {st : List Value} (hd : decode bytes pc = .ok (.ishl, 1)) (pc' : Nat) (hp : pc + 1 = pc')
    (k : Go p e below Z n0 kg E P T (mkF m pc' Ls (.int (x <<< (y &&& 31)) :: st))) : Go p e below Z n0 kg E P T (mkF m pc Ls (.int y :: .int x :: st)) := by
  subst hp
  exact k.pre fun t q => XS.ishl w.here w.hx rfl (hb w.hby hd) rfl q
theorem g_ishr (w : Wd p l e R s m args below meth c Z a0 n0 kb ws y bytes ml ret T L cells slots) {pc : Nat} {Ls : Array Slot} {x y : Int32} {st : List Value} (hd : decode bytes pc = .ok (.ishr, 1)) (pc' : Nat) (hp : pc + 1 = pc')
    (k : Go p e below Z n0 kg E P T (mkF m pc' Ls (.int (x >>> (y &&& 31)) :: st))) : Go p e below Z n0 kg E P T (mkF m pc Ls (.int y :: .int x :: st)) := by
  subst hp
  exact k.pre fun t q => XS.ishr w.here w.hx rfl (hb w.hby hd) rfl q
theorem g_iushr (w : Wd p l e R s m args below meth c Z a0 n0 kb ws y bytes ml ret T L cells slots) {pc : Nat} {Ls : Array Slot} {x y : Int32} {st : List Value} (hd : decode bytes pc = .ok (.iushr, 1)) (pc' : Nat) (hp : pc + 1 = pc')
    (k : Go p e below Z n0 kg E P T (mkF m pc' Ls (.int (ushrI x y) :: st))) : Go p e below Z n0 kg E P T (mkF m pc Ls (.int y :: .int x :: st)) := by
  subst hp
  exact k.pre fun t q => XS.iushr w.here w.hx rfl (hb w.hby hd) rfl q
theorem g_ladd (w : Wd p l e R s m args below meth c Z a0 n0 kb ws y bytes ml ret T L cells slots) {pc : Nat} {Ls : Array Slot} {x y : Int64} {st : List Value} (hd : decode bytes pc = .ok (.ladd, 1)) (pc' : Nat) (hp : pc + 1 = pc')
    (k : Go p e below Z n0 kg E P T (mkF m pc' Ls (.long (x + y) :: st))) : Go p e below Z n0 kg E P T (mkF m pc Ls (.long y :: .long x :: st)) := by
  subst hp
  exact k.pre fun t q => XT.ladd w.here w.hx rfl (hb w.hby hd) rfl q
theorem g_lsub (w : Wd p l e R s m args below meth c Z a0 n0 kb ws y bytes ml ret T L cells slots) {pc : Nat} {Ls : Array Slot} {x y : Int64} {st : List Value} (hd : decode bytes pc = .ok (.lsub, 1)) (pc' : Nat) (hp : pc + 1 = pc')
    (k : Go p e below Z n0 kg E P T (mkF m pc' Ls (.long (x - y) :: st))) : Go p e below Z n0 kg E P T (mkF m pc Ls (.long y :: .long x :: st)) := by
  subst hp
  exact k.pre fun t q => XT.lsub w.here w.hx rfl (hb w.hby hd) rfl q
theorem g_lmul (w : Wd p l e R s m args below meth c Z a0 n0 kb ws y bytes ml ret T L cells slots) {pc : Nat} {Ls : Array Slot} {x y : Int64} {st : List Value} (hd : decode bytes pc = .ok (.lmul, 1)) (pc' : Nat) (hp : pc + 1 = pc')
    (k : Go p e below Z n0 kg E P T (mkF m pc' Ls (.long (x * y) :: st))) : Go p e below Z n0 kg E P T (mkF m pc Ls (.long y :: .long x :: st)) := by
  subst hp
  exact k.pre fun t q => XT.lmul w.here w.hx rfl (hb w.hby hd) rfl q
theorem g_land (w : Wd p l e R s m args below meth c Z a0 n0 kb ws y bytes ml ret T L cells slots) {pc : Nat} {Ls : Array Slot} {x y : Int64} {st : List Value} (hd : decode bytes pc = .ok (.land, 1)) (pc' : Nat) (hp : pc + 1 = pc')
    (k : Go p e below Z n0 kg E P T (mkF m pc' Ls (.long (x &&& y) :: st))) : Go p e below Z n0 kg E P T (mkF m pc Ls (.long y :: .long x :: st)) := by
  subst hp
  exact k.pre fun t q => XT.land w.here w.hx rfl (hb w.hby hd) rfl q
theorem g_lor (w : Wd p l e R s m args below meth c Z a0 n0 kb ws y bytes ml ret T L cells slots) {pc : Nat} {Ls : Array Slot} {x y : Int64} {st : List Value} (hd : decode bytes pc = .ok (.lor, 1)) (pc' : Nat) (hp : pc + 1 = pc')
    (k : Go p e below Z n0 kg E P T (mkF m pc' Ls (.long (x ||| y) :: st))) : Go p e below Z n0 kg E P T (mkF m pc Ls (.long y :: .long x :: st)) := by
  subst hp
  exact k.pre fun t q => XT.lor w.here w.hx rfl (hb w.hby hd) rfl q
theorem g_lxor (w : Wd p l e R s m args below meth c Z a0 n0 kb ws y bytes ml ret T L cells slots) {pc : Nat} {Ls : Array Slot} {x y : Int64} {st : List Value} (hd : decode bytes pc = .ok (.lxor, 1)) (pc' : Nat) (hp : pc + 1 = pc')
    (k : Go p e below Z n0 kg E P T (mkF m pc' Ls (.long (x ^^^ y) :: st))) : Go p e below Z n0 kg E P T (mkF m pc Ls (.long y :: .long x :: st)) := by
  subst hp
  exact k.pre fun t q => XT.lxor w.here w.hx rfl (hb w.hby hd) rfl q
theorem g_lshl (w : Wd p l e R s m args below meth c Z a0 n0 kb ws y bytes ml ret T L cells slots) {pc : Nat} {Ls : Array Slot} {x : Int64} {y : Int32} {st : List Value} (hd : decode bytes pc = .ok (.lshl, 1)) (pc' : Nat) (hp : pc + 1 = pc')
    (k : Go p e below Z n0 kg E P T (mkF m pc' Ls (.long (shlL x y) :: st))) : Go p e below Z n0 kg E P T (mkF m pc Ls (.int y :: .long x :: st)) := by
  subst hp
  exact k.pre fun t q => XS.lshl w.here w.hx rfl (hb w.hby hd) rfl q
theorem g_lshr (w : Wd p l e R s m args below meth c Z a0 n0 kb ws y bytes ml ret T L cells slots) {pc : Nat} {Ls : Array Slot} {x : Int64} {y : Int32} {st : List Value} (hd : decode bytes pc = .ok (.lshr, 1)) (pc' : Nat) (hp : pc + 1 = pc')
    (k : Go p e below Z n0 kg E P T (mkF m pc' Ls (.long (shrL x y) :: st))) : Go p e below Z n0 kg E P T (mkF m pc Ls (.int y :: .long x :: st)) := by
  subst hp
  exact k.pre fun t q => XS.lshr w.here w.hx rfl (hb w.hby hd) rfl q
theorem g_lushr (w : Wd p l e R s m args below meth c Z a0 n0 kb ws y bytes ml ret T L cells slots) {pc : Nat} {Ls : Array Slot} {x : Int64} {y : Int32} {st : List Value} (hd : decode bytes pc = .ok (.lushr, 1)) (pc' : Nat) (hp : pc + 1 = pc')
    (k : Go p e below Z n0 kg E P T (mkF m pc' Ls (.long (ushrL x y) :: st))) : Go p e below Z n0 kg E P T (mkF m pc Ls (.int y :: .long x :: st)) := by
  subst hp
  exact k.pre fun t q => XS.lushr w.here w.hx rfl (hb w.hby hd) rfl q
theorem g_lcmp (w : Wd p l e R s m args below meth c Z a0 n0 kb ws y bytes ml ret T L cells slots) {pc : Nat} {Ls : Array Slot} {x y : Int64} {st : List Value} (hd : decode bytes pc = .ok (.lcmp, 1)) (pc' : Nat) (hp : pc + 1 = pc')
    (k : Go p e below Z n0 kg E P T (mkF m pc' Ls (.int (XT.cmpL x y) :: st))) : Go p e below Z n0 kg E P T (mkF m pc Ls (.long y :: .long x :: st)) := by
  subst hp
  exact k.pre fun t q => XT.lcmp w.here w.hx rfl (hb w.hby hd) rfl q
theorem g_idiv (w : Wd p l e R s m args below meth c Z a0 n0 kb ws y bytes ml ret T L cells slots) {pc : Nat} {Ls : Array Slot} {x y : Int32} {st : List Value} (hd : decode bytes pc = .ok (.idiv, 1)) (hy : y ≠ 0) (pc' : Nat) (hp : pc + 1 = pc')
    (k : Go p e below Z n0 kg E P T (mkF m pc' Ls (.int (x / y) :: st))) : Go p e below Z n0 kg E P T (mkF m pc Ls (.int y :: .int x :: st)) := by
  subst hp
  exact k.pre fun t q => XS.idiv w.here w.hx rfl (hb w.hby hd) rfl hy q
theorem g_ldiv (w : Wd p l e R s m args below meth c Z a0 n0 kb ws y bytes ml ret T L cells slots) {pc : Nat} {Ls : Array Slot} {x y : Int64} {st : List Value} (hd : decode bytes pc = .ok (.ldiv, 1)) (hy : y ≠ 0) (pc' : Nat) (hp : pc + 1 = pc')
    (k : Go p e below Z n0 kg E P T (mkF m pc' Ls (.long (x / y) :: st))) : Go p e below Z n0 kg E P T (mkF m pc Ls (.long y :: .long x :: st)) := by
  subst hp
  exact k.pre fun t q => XT.ldiv w.here w.hx rfl (hb w.hby hd) rfl hy q
theorem g_irem (w : Wd p l e R s m args below meth c Z a0 n0 kb ws y bytes ml ret T L cells slots) {pc : Nat} {Ls : Array Slot} {x y : Int32} {st : List Value} (hd : decode bytes pc = .ok (.irem, 1)) (hy : y ≠ 0) (pc' : Nat) (hp : pc + 1 = pc')
    (k : Go p e below Z n0 kg E P T (mkF m pc' Ls (.int (x % y) :: st))) : Go p e below Z n0 kg E P T (mkF m pc Ls (.int y :: .int x :: st)) := by
  subst hp
  exact k.pre fun t q => XS.irem w.here w.hx rfl (hb w.hby hd) rfl hy (by rw [irem_eq_mod]; exact q)
theorem g_lrem (w : Wd p l e R s m args below meth c Z a0 n0 kb ws y bytes ml ret T L cells slots) {pc : Nat} {Ls : Array Slot} {x y : Int64} {st : List Value} (hd : decode bytes pc = .ok (.lrem, 1)) (hy : y ≠ 0) (pc' : Nat) (hp : pc + 1 = pc')
    (k : Go p e below Z n0 kg E P T (mkF m pc' Ls (.long (x % y) :: st))) : Go p e below Z n0 kg E P T (mkF m pc Ls (.long y :: .long x :: st)) := by
  subst hp
  exact k.pre fun t q => XT.lrem w.here w.hx rfl (hb w.hby hd) rfl hy (by rw [lrem_mod]; exact q)
theorem g_ineg (w : Wd p l e R s m args below meth c Z a0 n0 kb ws y bytes ml ret T L cells slots) {pc : Nat} {Ls : Array Slot} {x : Int32} {st : List Value} (hd : decode bytes pc = .ok (.ineg, 1)) (pc' : Nat) (hp : pc + 1 = pc')
    (k : Go p e below Z n0 kg E P T (mkF m pc' Ls (.int (-x) :: st))) : Go p e below Z n0 kg E P T (mkF m pc Ls (.int x :: st)) := by
  subst hp
  exact k.pre fun t q => XS.ineg w.here w.hx rfl (hb w.hby hd) rfl q
theorem g_lneg (w : Wd p l e R s m args below meth c Z a0 n0 kb ws y bytes ml ret T L cells slots) {pc : Nat} {Ls : Array Slot} {x : Int64} {st : List Value} (hd : decode bytes pc = .ok (.lneg, 1)) (pc' : Nat) (hp : pc + 1 = pc')
    (k : Go p e below Z n0 kg E P T (mkF m pc' Ls (.long (-x) :: st))) : Go p e below Z n0 kg E P T (mkF m pc Ls (.long x :: st)) := by
  subst hp
  exact k.pre fun t q => XT.lneg w.here w.hx rfl (hb w.hby hd) rfl q
theorem g_i2l (w : Wd p l e R s m args below meth c Z a0 n0 kb ws y bytes ml ret T L cells slots) {pc : Nat} {Ls : Array Slot} {x : Int32} {st : List Value} (hd : decode bytes pc = .ok (.i2l, 1)) (pc' : Nat) (hp : pc + 1 = pc')
    (k : Go p e below Z n0 kg E P T (mkF m pc' Ls (.long (x.toInt64) :: st))) : Go p e below Z n0 kg E P T (mkF m pc Ls (.int x :: st)) := by
  subst hp
  exact k.pre fun t q => XT.i2l w.here w.hx rfl (hb w.hby hd) rfl q
theorem g_l2i (w : Wd p l e R s m args below meth c Z a0 n0 kb ws y bytes ml ret T L cells slots) {pc : Nat} {Ls : Array Slot} {x : Int64} {st : List Value} (hd : decode bytes pc = .ok (.l2i, 1)) (pc' : Nat) (hp : pc + 1 = pc')
    (k : Go p e below Z n0 kg E P T (mkF m pc' Ls (.int (x.toInt32) :: st))) : Go p e below Z n0 kg E P T (mkF m pc Ls (.long x :: st)) := by
  subst hp
  exact k.pre fun t q => XT.l2i w.here w.hx rfl (hb w.hby hd) rfl q
theorem g_i2b (w : Wd p l e R s m args below meth c Z a0 n0 kb ws y bytes ml ret T L cells slots) {pc : Nat} {Ls : Array Slot} {x : Int32} {st : List Value} (hd : decode bytes pc = .ok (.i2b, 1)) (pc' : Nat) (hp : pc + 1 = pc')
    (k : Go p e below Z n0 kg E P T (mkF m pc' Ls (.int (x.toInt8.toInt32) :: st))) : Go p e below Z n0 kg E P T (mkF m pc Ls (.int x :: st)) := by
  subst hp
  exact k.pre fun t q => XT.i2b w.here w.hx rfl (hb w.hby hd) rfl q
theorem g_i2c (w : Wd p l e R s m args below meth c Z a0 n0 kb ws y bytes ml ret T L cells slots) {pc : Nat} {Ls : Array Slot} {x : Int32} {st : List Value} (hd : decode bytes pc = .ok (.i2c, 1)) (pc' : Nat) (hp : pc + 1 = pc')
    (k : Go p e below Z n0 kg E P T (mkF m pc' Ls (.int (x.toUInt32.toUInt16.toUInt32.toInt32) :: st))) : Go p e below Z n0 kg E P T (mkF m pc Ls (.int x :: st)) := by
  subst hp
  exact k.pre fun t q => XT.i2c w.here w.hx rfl (hb w.hby hd) rfl q
theorem g_i2s (w : Wd p l e R s m args below meth c Z a0 n0 kb ws y bytes ml ret T L cells slots) {pc : Nat} {Ls : Array Slot} {x : Int32} {st : List Value} (hd : decode bytes pc = .ok (.i2s, 1)) (pc' : Nat) (hp : pc + 1 = pc')
    (k : Go p e below Z n0 kg E P T (mkF m pc' Ls (.int (x.toInt16.toInt32) :: st))) : Go p e below Z n0 kg E P T (mkF m pc Ls (.int x :: st)) := by
  subst hp
  exact k.pre fun t q => XT.i2s w.here w.hx rfl (hb w.hby hd) rfl q
theorem g_iload (w : Wd p l e R s m args below meth c Z a0 n0 kb ws y bytes ml ret T L cells slots) {pc : Nat} {Ls : Array Slot} {i : Nat} {v : Int32} {st : List Value} (hd : decode bytes pc = .ok (.iload i, 2)) (hl : Ls[i]? = some (.val (.int v))) (pc' : Nat) (hp : pc + 2 = pc')
    (k : Go p e below Z n0 kg E P T (mkF m pc' Ls (.int v :: st))) : Go p e below Z n0 kg E P T (mkF m pc Ls (st)) := by
  subst hp
  exact k.pre fun t q => XS.iload w.here w.hx rfl (hb w.hby hd) hl q
theorem g_iloadN (w : Wd p l e R s m args below meth c Z a0 n0 kb ws y bytes ml ret T L cells slots) {pc : Nat} {Ls : Array Slot} {i : Fin 4} {v : Int32} {st : List Value} (hd : decode bytes pc = .ok (.iload_n i, 1)) (hl : Ls[i.val]? = some (.val (.int v))) (pc' : Nat) (hp : pc + 1 = pc')
    (k : Go p e below Z n0 kg E P T (mkF m pc' Ls (.int v :: st))) : Go p e below Z n0 kg E P T (mkF m pc Ls (st)) := by
  subst hp
  exact k.pre fun t q => XS.iloadN w.here w.hx rfl (hb w.hby hd) hl q
theorem g_lload (w : Wd p l e R s m args below meth c Z a0 n0 kb ws y bytes ml ret T L cells slots) {pc : Nat} {Ls : Array Slot} {i : Nat} {v : Int64} {st : List Value} (hd : decode bytes pc = .ok (.lload i, 2)) (hl : Ls[i]? = some (.val (.long v))) (pc' : Nat) (hp : pc + 2 = pc')
    (k : Go p e below Z n0 kg E P T (mkF m pc' Ls (.long v :: st))) : Go p e below Z n0 kg E P T (mkF m pc Ls (st)) := by
  subst hp
  exact k.pre fun t q => XT.lload w.here w.hx rfl (hb w.hby hd) hl q
theorem g_lloadN (w : Wd p l e R s m args below meth c Z a0 n0 kb ws y bytes ml ret T L cells slots) {pc : Nat} {Ls : Array Slot} {i : Fin 4} {v : Int64} {st : List Value} (hd : decode bytes pc = .ok (.lload_n i, 1)) (hl : Ls[i.val]? = some (.val (.long v))) (pc' : Nat) (hp : pc + 1 = pc')
    (k : Go p e below Z n0 kg E P T (mkF m pc' Ls (.long v :: st))) : Go p e below Z n0 kg E P T (mkF m pc Ls (st)) := by
  subst hp
  exact k.pre fun t q => XT.lloadN w.here w.hx rfl (hb w.hby hd) hl q
theorem g_aload (w : Wd p l e R s m args below meth c Z a0 n0 kb ws y bytes ml ret T L cells slots) {pc : Nat} {Ls : Array Slot} {i : Nat} {v : Value} {st : List Value} (hd : decode bytes pc = .ok (.aload i, 2)) (hl : Ls[i]? = some (.val v)) (hv : v.isRef = true) (pc' : Nat) (hp : pc + 2 = pc')
    (k : Go p e below Z n0 kg E P T (mkF m pc' Ls (v :: st))) : Go p e below Z n0 kg E P T (mkF m pc Ls (st)) := by
  subst hp
  exact k.pre fun t q => XS.aload w.here w.hx rfl (hb w.hby hd) hl hv q
theorem g_aloadN (w : Wd p l e R s m args below meth c Z a0 n0 kb ws y bytes ml ret T L cells slots) {pc : Nat} {Ls : Array Slot} {i : Fin 4} {v : Value} {st : List Value} (hd : decode bytes pc = .ok (.aload_n i, 1)) (hl : Ls[i.val]? = some (.val v)) (hv : v.isRef = true) (pc' : Nat) (hp : pc + 1 = pc')
    (k : Go p e below Z n0 kg E P T (mkF m pc' Ls (v :: st))) : Go p e below Z n0 kg E P T (mkF m pc Ls (st)) := by
  subst hp
  exact k.pre fun t q => XS.aloadN w.here w.hx rfl (hb w.hby hd) hl hv q
theorem g_iconst (w : Wd p l e R s m args below meth c Z a0 n0 kb ws y bytes ml ret T L cells slots) {pc : Nat} {Ls : Array Slot} {i : Int} {st : List Value} (hd : decode bytes pc = .ok (.iconst i, 1)) (z : Int32) (hz : Int32.ofInt i = z) (pc' : Nat) (hp : pc + 1 = pc')
    (k : Go p e below Z n0 kg E P T (mkF m pc' Ls (.int z :: st))) : Go p e below Z n0 kg E P T (mkF m pc Ls (st)) := by
  subst hp
  exact k.pre fun t q => XS.iconst w.here w.hx rfl (hb w.hby hd) (by rw [hz]; exact q)
theorem g_bipush (w : Wd p l e R s m args below meth c Z a0 n0 kb ws y bytes ml ret T L cells slots) {pc : Nat} {Ls : Array Slot} {i : Int} {st : List Value} (hd : decode bytes pc = .ok (.bipush i, 2)) (z : Int32) (hz : (Int8.ofInt i).toInt32 = z) (pc' : Nat) (hp : pc + 2 = pc')
    (k : Go p e below Z n0 kg E P T (mkF m pc' Ls (.int z :: st))) : Go p e below Z n0 kg E P T (mkF m pc Ls (st)) := by
  subst hp
  exact k.pre fun t q => XS.bipush w.here w.hx rfl (hb w.hby hd) (by rw [hz]; exact q)
theorem g_sipush (w : Wd p l e R s m args below meth c Z a0 n0 kb ws y bytes ml ret T L cells slots) {pc : Nat} {Ls : Array Slot} {i : Int} {st : List Value} (hd : decode bytes pc = .ok (.sipush i, 3)) (z : Int32) (hz : (Int16.ofInt i).toInt32 = z) (pc' : Nat) (hp : pc + 3 = pc')
    (k : Go p e below Z n0 kg E P T (mkF m pc' Ls (.int z :: st))) : Go p e below Z n0 kg E P T (mkF m pc Ls (st)) := by
  subst hp
  exact k.pre fun t q => XS.sipush w.here w.hx rfl (hb w.hby hd) (by rw [hz]; exact q)
theorem g_lconst (w : Wd p l e R s m args below meth c Z a0 n0 kb ws y bytes ml ret T L cells slots) {pc : Nat} {Ls : Array Slot} {i : Fin 2} {st : List Value} (hd : decode bytes pc = .ok (.lconst i, 1)) (z : Int64) (hz : Int64.ofNat i = z) (pc' : Nat) (hp : pc + 1 = pc')
    (k : Go p e below Z n0 kg E P T (mkF m pc' Ls (.long z :: st))) : Go p e below Z n0 kg E P T (mkF m pc Ls (st)) := by
  subst hp
  exact k.pre fun t q => XT.lconst w.here w.hx rfl (hb w.hby hd) (by rw [hz]; exact q)
theorem g_anull (w : Wd p l e R s m args below meth c Z a0 n0 kb ws y bytes ml ret T L cells slots) {pc : Nat} {Ls : Array Slot} {st : List Value} (hd : decode bytes pc = .ok (.aconst_null, 1)) (pc' : Nat) (hp : pc + 1 = pc')
    (k : Go p e below Z n0 kg E P T (mkF m pc' Ls (.null :: st))) : Go p e below Z n0 kg E P T (mkF m pc Ls (st)) := by
  subst hp
  exact k.pre fun t q => XS.aconstNull w.here w.hx rfl (hb w.hby hd) q
theorem g_dup (w : Wd p l e R s m args below meth c Z a0 n0 kb ws y bytes ml ret T L cells slots) {pc : Nat} {Ls : Array Slot} {x : Value} {st : List Value} (hd : decode bytes pc = .ok (.dup, 1)) (hc : x.category = 1) (pc' : Nat) (hp : pc + 1 = pc')
    (k : Go p e below Z n0 kg E P T (mkF m pc' Ls (x :: x :: st))) : Go p e below Z n0 kg E P T (mkF m pc Ls (x :: st)) := by
  subst hp
  exact k.pre fun t q => XS.dup w.here w.hx rfl (hb w.hby hd) rfl hc q
theorem g_pop (w : Wd p l e R s m args below meth c Z a0 n0 kb ws y bytes ml ret T L cells slots) {pc : Nat} {Ls : Array Slot} {x : Value} {st : List Value} (hd : decode bytes pc = .ok (.pop, 1)) (hc : x.category = 1) (pc' : Nat) (hp : pc + 1 = pc')
    (k : Go p e below Z n0 kg E P T (mkF m pc' Ls (st))) : Go p e below Z n0 kg E P T (mkF m pc Ls (x :: st)) := by
  subst hp
  exact k.pre fun t q => XT.pop w.here w.hx rfl (hb w.hby hd) rfl hc q
theorem g_dup_x1 (w : Wd p l e R s m args below meth c Z a0 n0 kb ws y bytes ml ret T L cells slots) {pc : Nat} {Ls : Array Slot} {x x' : Value} {st : List Value} (hd : decode bytes pc = .ok (.dup_x1, 1)) (hc : x.category = 1) (hc' : x'.category = 1) (pc' : Nat) (hp : pc + 1 = pc')
    (k : Go p e below Z n0 kg E P T (mkF m pc' Ls (x :: x' :: x :: st))) : Go p e below Z n0 kg E P T (mkF m pc Ls (x :: x' :: st)) := by
  subst hp
  exact k.pre fun t q => XT.dupX1 w.here w.hx rfl (hb w.hby hd) rfl hc hc' q
theorem g_dup2 (w : Wd p l e R s m args below meth c Z a0 n0 kb ws y bytes ml ret T L cells slots) {pc : Nat} {Ls : Array Slot} {x x' : Value} {st : List Value} (hd : decode bytes pc = .ok (.dup2, 1)) (hc : x.category = 1) (hc' : x'.category = 1) (pc' : Nat) (hp : pc + 1 = pc')
    (k : Go p e below Z n0 kg E P T (mkF m pc' Ls (x :: x' :: x :: x' :: st))) : Go p e below Z n0 kg E P T (mkF m pc Ls (x :: x' :: st)) := by
  subst hp
  exact k.pre fun t q => XT.dup2 w.here w.hx rfl (hb w.hby hd) rfl hc hc' q
theorem g_istore (w : Wd p l e R s m args below meth c Z a0 n0 kb ws y bytes ml ret T L cells slots) {pc : Nat} {Ls : Array Slot} {i : Nat} {x x' : Int32} {st : List Value} (hd : decode bytes pc = .ok (.istore i, 2)) (pc' : Nat) (hp : pc + 2 = pc') (e1 : x = x') (Ls' : Array Slot) (hl : storeLocals Ls i (.int x') = some Ls')
    (k : Go p e below Z n0 kg E P T (mkF m pc' Ls' st)) : Go p e below Z n0 kg E P T (mkF m pc Ls (.int x :: st)) := by
  subst hp e1
  exact k.pre fun t q => XS.istore w.here w.hx rfl (hb w.hby hd) rfl hl q
theorem g_istoreN (w : Wd p l e R s m args below meth c Z a0 n0 kb ws y bytes ml ret T L cells slots) {pc : Nat} {Ls : Array Slot} {i : Fin 4} {x x' : Int32} {st : List Value} (hd : decode bytes pc = .ok (.istore_n i, 1)) (pc' : Nat) (hp : pc + 1 = pc') (e1 : x = x') (Ls' : Array Slot) (hl : storeLocals Ls i.val (.int x') = some Ls')
    (k : Go p e below Z n0 kg E P T (mkF m pc' Ls' st)) : Go p e below Z n0 kg E P T (mkF m pc Ls (.int x :: st)) := by
  subst hp e1
  exact k.pre fun t q => XS.istoreN w.here w.hx rfl (hb w.hby hd) rfl hl q
theorem g_lstore (w : Wd p l e R s m args below meth c Z a0 n0 kb ws y bytes ml ret T L cells slots) {pc : Nat} {Ls : Array Slot} {i : Nat} {x x' : Int64} {st : List Value} (hd : decode bytes pc = .ok (.lstore i, 2)) (pc' : Nat) (hp : pc + 2 = pc') (e1 : x = x') (Ls' : Array Slot) (hl : storeLocals Ls i (.long x') = some Ls')
    (k : Go p e below Z n0 kg E P T (mkF m pc' Ls' st)) : Go p e below Z n0 kg E P T (mkF m pc Ls (.long x :: st)) := by
  subst hp e1
  exact k.pre fun t q => XT.lstore w.here w.hx rfl (hb w.hby hd) rfl hl q
theorem g_lstoreN (w : Wd p l e R s m args below meth c Z a0 n0 kb ws y bytes ml ret T L cells slots) {pc : Nat} {Ls : Array Slot} {i : Fin 4} {x x' : Int64} {st : List Value} (hd : decode bytes pc = .ok (.lstore_n i, 1)) (pc' : Nat) (hp : pc + 1 = pc') (e1 : x = x') (Ls' : Array Slot) (hl : storeLocals Ls i.val (.long x') = some Ls')
    (k : Go p e below Z n0 kg E P T (mkF m pc' Ls' st)) : Go p e below Z n0 kg E P T (mkF m pc Ls (.long x :: st)) := by
  subst hp e1
  exact k.pre fun t q => XT.lstoreN w.here w.hx rfl (hb w.hby hd) rfl hl q
theorem g_astore (w : Wd p l e R s m args below meth c Z a0 n0 kb ws y bytes ml ret T L cells slots) {pc : Nat} {Ls : Array Slot} {i : Nat} {x : Value} {st : List Value} (hd : decode bytes pc = .ok (.astore i, 2)) (pc' : Nat) (hp : pc + 2 = pc') (hv : x.isRef = true) (Ls' : Array Slot) (hl : storeLocals Ls i x = some Ls')
    (k : Go p e below Z n0 kg E P T (mkF m pc' Ls' st)) : Go p e below Z n0 kg E P T (mkF m pc Ls (x :: st)) := by
  subst hp
  exact k.pre fun t q => XS.astore w.here w.hx rfl (hb w.hby hd) rfl hv hl q
theorem g_astoreN (w : Wd p l e R s m args below meth c Z a0 n0 kb ws y bytes ml ret T L cells slots) {pc : Nat} {Ls : Array Slot} {i : Fin 4} {x : Value} {st : List Value} (hd : decode bytes pc = .ok (.astore_n i, 1)) (pc' : Nat) (hp : pc + 1 = pc') (hv : x.isRef = true) (Ls' : Array Slot) (hl : storeLocals Ls i.val x = some Ls')
    (k : Go p e below Z n0 kg E P T (mkF m pc' Ls' st)) : Go p e below Z n0 kg E P T (mkF m pc Ls (x :: st)) := by
  subst hp
  exact k.pre fun t q => XS.astoreN w.here w.hx rfl (hb w.hby hd) rfl hv hl q
theorem g_iinc (w : Wd p l e R s m args below meth c Z a0 n0 kb ws y bytes ml ret T L cells slots) {pc : Nat} {Ls : Array Slot} {i : Nat} {cst : Int} {x x' : Int32} {st : List Value} (hd : decode bytes pc = .ok (.iinc i cst, 3)) (pc' : Nat) (hp : pc + 3 = pc') (hl0 : Ls[i]? = some (.val (.int x))) (e1 : x + Int32.ofInt cst = x') (Ls' : Array Slot) (hl : storeLocals Ls i (.int x') = some Ls')
    (k : Go p e below Z n0 kg E P T (mkF m pc' Ls' st)) : Go p e below Z n0 kg E P T (mkF m pc Ls st) := by
  subst hp e1
  exact k.pre fun t q => XS.iinc w.here w.hx rfl (hb w.hby hd) hl0 hl q
theorem g_goto (w : Wd p l e R s m args below meth c Z a0 n0 kb ws y bytes ml ret T L cells slots) {pc : Nat} {Ls : Array Slot} {o : Int} {st : List Value} (hd : decode bytes pc = .ok (.goto o, 3)) (pc' : Nat) (ho : 0 ≤ (pc : Int) + o) (hp : ((pc : Int) + o).toNat = pc')
    (k : Go p e below Z n0 kg E P T (mkF m pc' Ls st)) : Go p e below Z n0 kg E P T (mkF m pc Ls st) := k.pre fun t q => XS.goto w.here w.hx rfl rfl (hb w.hby hd) ho hp q
theorem g_icmp_eq (w : Wd p l e R s m args below meth c Z a0 n0 kb ws y bytes ml ret T L cells slots) {pc : Nat} {Ls : Array Slot} {x y' : Int32} {o : Int} {st : List Value} (hd : decode bytes pc = .ok (.if_icmp .eq o, 3)) (pcT : Nat) (ho : 0 ≤ (pc : Int) + o) (hT : ((pc : Int) + o).toNat = pcT) (pcF : Nat) (hF : pc + 3 = pcF)
    (k1 : x = y' → Go p e below Z n0 kg E P T (mkF m pcT Ls st)) (k2 : ¬ x = y' → Go p e below Z n0 kg E P T (mkF m pcF Ls st)) : Go p e below Z n0 kg E P T (mkF m pc Ls (.int y' :: .int x :: st)) := by
  subst hF
  by_cases h : x = y'
  · exact (k1 h).pre fun t q => XS.icmpYes w.here w.hx rfl rfl (hb w.hby hd) rfl (XT.ii_eq_t h) ho hT q
  · exact (k2 h).pre fun t q => XS.icmpNo w.here w.hx rfl (hb w.hby hd) rfl (XT.ii_eq_f h) q
theorem g_if_eq (w : Wd p l e R s m args below meth c Z a0 n0 kb ws y bytes ml ret T L cells slots) {pc : Nat} {Ls : Array Slot} {x : Int32} {o : Int} {st : List Value} (hd : decode bytes pc = .ok (.ifCond .eq o, 3)) (pcT : Nat) (ho : 0 ≤ (pc : Int) + o) (hT : ((pc : Int) + o).toNat = pcT) (pcF : Nat) (hF : pc + 3 = pcF)
    (k1 : x = 0 → Go p e below Z n0 kg E P T (mkF m pcT Ls st)) (k2 : ¬ x = 0 → Go p e below Z n0 kg E P T (mkF m pcF Ls st)) : Go p e below Z n0 kg E P T (mkF m pc Ls (.int x :: st)) := by
  subst hF
  by_cases h : x = 0
  · exact (k1 h).pre fun t q => XS.ifYes w.here w.hx rfl rfl (hb w.hby hd) rfl (XT.i0_eq_t h) ho hT q
  · exact (k2 h).pre fun t q => XS.ifNo w.here w.hx rfl (hb w.hby hd) rfl (XT.i0_eq_f h) q
theorem g_lif_eq (w : Wd p l e R s m args below meth c Z a0 n0 kb ws y bytes ml ret T L cells slots) {pc : Nat} {Ls : Array Slot} {x y' : Int64} {o : Int} {st : List Value} (hd : decode bytes pc = .ok (.ifCond .eq o, 3)) (pcT : Nat) (ho : 0 ≤ (pc : Int) + o) (hT : ((pc : Int) + o).toNat = pcT) (pcF : Nat) (hF : pc + 3 = pcF)
    (k1 : x = y' → Go p e below Z n0 kg E P T (mkF m pcT Ls st)) (k2 : ¬ x = y' → Go p e below Z n0 kg E P T (mkF m pcF Ls st)) : Go p e below Z n0 kg E P T (mkF m pc Ls (.int (XT.cmpL x y') :: st)) := by
  subst hF
  by_cases h : x = y'
  · exact (k1 h).pre fun t q => XS.ifYes w.here w.hx rfl rfl (hb w.hby hd) rfl (XT.ll_eq_t h) ho hT q
  · exact (k2 h).pre fun t q => XS.ifNo w.here w.hx rfl (hb w.hby hd) rfl (XT.ll_eq_f h) q
theorem g_icmp_ne (w : Wd p l e R s m args below meth c Z a0 n0 kb ws y bytes ml ret T L cells slots) {pc : Nat} {Ls : Array Slot} {x y' : Int32} {o : Int} {st : List Value} (hd : decode bytes pc = .ok (.if_icmp .ne o, 3)) (pcT : Nat) (ho : 0 ≤ (pc : Int) + o) (hT : ((pc : Int) + o).toNat = pcT) (pcF : Nat) (hF : pc + 3 = pcF)
    (k1 : ¬ x = y' → Go p e below Z n0 kg E P T (mkF m pcT Ls st)) (k2 : x = y' → Go p e below Z n0 kg E P T (mkF m pcF Ls st)) : Go p e below Z n0 kg E P T (mkF m pc Ls (.int y' :: .int x :: st)) := by
  subst hF
  by_cases h : x = y'
  · exact (k2 h).pre fun t q => XS.icmpNo w.here w.hx rfl (hb w.hby hd) rfl (XT.ii_ne_f h) q
  · exact (k1 h).pre fun t q => XS.icmpYes w.here w.hx rfl rfl (hb w.hby hd) rfl (XT.ii_ne_t h) ho hT q
theorem g_if_ne (w : Wd p l e R s m args below meth c Z a0 n0 kb ws y bytes ml ret T L cells slots) {pc : Nat} {Ls : Array Slot} {x : Int32} {o : Int} {st : List Value} (hd : decode bytes pc = .ok (.ifCond .ne o, 3)) (pcT : Nat) (ho : 0 ≤ (pc : Int) + o) (hT : ((pc : Int) + o).toNat = pcT) (pcF : Nat) (hF : pc + 3 = pcF)
    (k1 : ¬ x = 0 → Go p e below Z n0 kg E P T (mkF m pcT Ls st)) (k2 : x = 0 → Go p e below Z n0 kg E P T (mkF m pcF Ls st)) : Go p e below Z n0 kg E P T (mkF m pc Ls (.int x :: st)) := by
  subst hF
  by_cases h : x = 0
  · exact (k2 h).pre fun t q => XS.ifNo w.here w.hx rfl (hb w.hby hd) rfl (XT.i0_ne_f h) q
  · exact (k1 h).pre fun t q => XS.ifYes w.here w.hx rfl rfl (hb w.hby hd) rfl (XT.i0_ne_t h) ho hT q
theorem g_lif_ne (w : Wd p l e R s m args below meth c Z a0 n0 kb ws y bytes ml ret T L cells slots) {pc : Nat} {Ls : Array Slot} {x y' : Int64} {o : Int} {st : List Value} (hd : decode bytes pc = .ok (.ifCond .ne o, 3)) (pcT : Nat) (ho : 0 ≤ (pc : Int) + o) (hT : ((pc : Int) + o).toNat = pcT) (pcF : Nat) (hF : pc + 3 = pcF)
    (k1 : ¬ x = y' → Go p e below Z n0 kg E P T (mkF m pcT Ls st)) (k2 : x = y' → Go p e below Z n0 kg E P T (mkF m pcF Ls st)) : Go p e below Z n0 kg E P T (mkF m pc Ls (.int (XT.cmpL x y') :: st)) := by
  subst hF
  by_cases h : x = y'
  · exact (k2 h).pre fun t q => XS.ifNo w.here w.hx rfl (hb w.hby hd) rfl (XT.ll_ne_f h) q
  · exact (k1 h).pre fun t q => XS.ifYes w.here w.hx rfl rfl (hb w.hby hd) rfl (XT.ll_ne_t h) ho hT q
theorem g_icmp_lt (w : Wd p l e R s m args below meth c Z a0 n0 kb ws y bytes ml ret T L cells slots) {pc : Nat} {Ls : Array Slot} {x y' : Int32} {o : Int} {st : List Value} (hd : decode bytes pc = .ok (.if_icmp .lt o, 3)) (pcT : Nat) (ho : 0 ≤ (pc : Int) + o) (hT : ((pc : Int) + o).toNat = pcT) (pcF : Nat) (hF : pc + 3 = pcF)
    (k1 : x < y' → Go p e below Z n0 kg E P T (mkF m pcT Ls st)) (k2 : ¬ x < y' → Go p e below Z n0 kg E P T (mkF m pcF Ls st)) : Go p e below Z n0 kg E P T (mkF m pc Ls (.int y' :: .int x :: st)) := by
  subst hF
  by_cases h : x < y'
  · exact (k1 h).pre fun t q => XS.icmpYes w.here w.hx rfl rfl (hb w.hby hd) rfl (XT.ii_lt_t h) ho hT q
  · exact (k2 h).pre fun t q => XS.icmpNo w.here w.hx rfl (hb w.hby hd) rfl (XT.ii_lt_f h) q
theorem g_if_lt (w : Wd p l e R s m args below meth c Z a0 n0 kb ws y bytes ml ret T L cells slots) {pc : Nat} {Ls : Array Slot} {x : Int32} {o : Int} {st : List Value} (hd : decode bytes pc = .ok (.ifCond .lt o, 3)) (pcT : Nat) (ho : 0 ≤ (pc : Int) + o) (hT : ((pc : Int) + o).toNat = pcT) (pcF : Nat) (hF : pc + 3 = pcF)
    (k1 : x < 0 → Go p e below Z n0 kg E P T (mkF m pcT Ls st)) (k2 : ¬ x < 0 → Go p e below Z n0 kg E P T (mkF m pcF Ls st)) : Go p e below Z n0 kg E P T (mkF m pc Ls (.int x :: st)) := by
  subst hF
  by_cases h : x < 0
  · exact (k1 h).pre fun t q => XS.ifYes w.here w.hx rfl rfl (hb w.hby hd) rfl (XT.i0_lt_t h) ho hT q
  · exact (k2 h).pre fun t q => XS.ifNo w.here w.hx rfl (hb w.hby hd) rfl (XT.i0_lt_f h) q
theorem g_lif_lt (w : Wd p l e R s m args below meth c Z a0 n0 kb ws y bytes ml ret T L cells slots) {pc : Nat} {Ls : Array Slot} {x y' : Int64} {o : Int} {st : List Value} (hd : decode bytes pc = .ok (.ifCond .lt o, 3)) (pcT : Nat) (ho : 0 ≤ (pc : Int) + o) (hT : ((pc : Int) + o).toNat = pcT) (pcF : Nat) (hF : pc + 3 = pcF)
    (k1 : x < y' → Go p e below Z n0 kg E P T (mkF m pcT Ls st)) (k2 : ¬ x < y' → Go p e below Z n0 kg E P T (mkF m pcF Ls st)) : Go p e below Z n0 kg E P T (mkF m pc Ls (.int (XT.cmpL x y') :: st)) := by
  subst hF
  by_cases h : x < y'
  · exact (k1 h).pre fun t q => XS.ifYes w.here w.hx rfl rfl (hb w.hby hd) rfl (XT.ll_lt_t h) ho hT q
  · exact (k2 h).pre fun t q => XS.ifNo w.here w.hx rfl (hb w.hby hd) rfl (XT.ll_lt_f h) q
theorem g_icmp_ge (w : Wd p l e R s m args below meth c Z a0 n0 kb ws y bytes ml ret T L cells slots) {pc : Nat} {Ls : Array Slot} {x y' : Int32} {o : Int} {st : List Value} (hd : decode bytes pc = .ok (.if_icmp .ge o, 3)) (pcT : Nat) (ho : 0 ≤ (pc : Int) + o) (hT : ((pc : Int) + o).toNat = pcT) (pcF : Nat) (hF : pc + 3 = pcF)
    (k1 : ¬ x < y' → Go p e below Z n0 kg E P T (mkF m pcT Ls st)) (k2 : x < y' → Go p e below Z n0 kg E P T (mkF m pcF Ls st)) : Go p e below Z n0 kg E P T (mkF m pc Ls (.int y' :: .int x :: st)) := by
  subst hF
  by_cases h : x < y'
  · exact (k2 h).pre fun t q => XS.icmpNo w.here w.hx rfl (hb w.hby hd) rfl (XT.ii_ge_f h) q
  · exact (k1 h).pre fun t q => XS.icmpYes w.here w.hx rfl rfl (hb w.hby hd) rfl (XT.ii_ge_t h) ho hT q
theorem g_if_ge (w : Wd p l e R s m args below meth c Z a0 n0 kb ws y bytes ml ret T L cells slots) {pc : Nat} {Ls : Array Slot} {x : Int32} {o : Int} {st : List Value} (hd : decode bytes pc = .ok (.ifCond .ge o, 3)) (pcT : Nat) (ho : 0 ≤ (pc : Int) + o) (hT : ((pc : Int) + o).toNat = pcT) (pcF : Nat) (hF : pc + 3 = pcF)
    (k1 : ¬ x < 0 → Go p e below Z n0 kg E P T (mkF m pcT Ls st)) (k2 : x < 0 → Go p e below Z n0 kg E P T (mkF m pcF Ls st)) : Go p e below Z n0 kg E P T (mkF m pc Ls (.int x :: st)) := by
  subst hF
  by_cases h : x < 0
  · exact (k2 h).pre fun t q => XS.ifNo w.here w.hx rfl (hb w.hby hd) rfl (XT.i0_ge_f h) q
  · exact (k1 h).pre fun t q => XS.ifYes w.here w.hx rfl rfl (hb w.hby hd) rfl (XT.i0_ge_t h) ho hT q
theorem g_lif_ge (w : Wd p l e R s m args below meth c Z a0 n0 kb ws y bytes ml ret T L cells slots) {pc : Nat} {Ls : Array Slot} {x y' : Int64} {o : Int} {st : List Value} (hd : decode bytes pc = .ok (.ifCond .ge o, 3)) (pcT : Nat) (ho : 0 ≤ (pc : Int) + o) (hT : ((pc : Int) + o).toNat = pcT) (pcF : Nat) (hF : pc + 3 = pcF)
    (k1 : ¬ x < y' → Go p e below Z n0 kg E P T (mkF m pcT Ls st)) (k2 : x < y' → Go p e below Z n0 kg E P T (mkF m pcF Ls st)) : Go p e below Z n0 kg E P T (mkF m pc Ls (.int (XT.cmpL x y') :: st)) := by
  subst hF
  by_cases h : x < y'
  · exact (k2 h).pre fun t q => XS.ifNo w.here w.hx rfl (hb w.hby hd) rfl (XT.ll_ge_f h) q
  · exact (k1 h).pre fun t q => XS.ifYes w.here w.hx rfl rfl (hb w.hby hd) rfl (XT.ll_ge_t h) ho hT q
theorem g_icmp_gt (w : Wd p l e R s m args below meth c Z a0 n0 kb ws y bytes ml ret T L cells slots) {pc : Nat} {Ls : Array Slot} {x y' : Int32} {o : Int} {st : List Value} (hd : decode bytes pc = .ok (.if_icmp .gt o, 3)) (pcT : Nat) (ho : 0 ≤ (pc : Int) + o) (hT : ((pc : Int) + o).toNat = pcT) (pcF : Nat) (hF : pc + 3 = pcF)
    (k1 : y' < x → Go p e below Z n0 kg E P T (mkF m pcT Ls st)) (k2 : ¬ y' < x → Go p e below Z n0 kg E P T (mkF m pcF Ls st)) : Go p e below Z n0 kg E P T (mkF m pc Ls (.int y' :: .int x :: st)) := by
  subst hF
  by_cases h : y' < x
  · exact (k1 h).pre fun t q => XS.icmpYes w.here w.hx rfl rfl (hb w.hby hd) rfl (XT.ii_gt_t h) ho hT q
  · exact (k2 h).pre fun t q => XS.icmpNo w.here w.hx rfl (hb w.hby hd) rfl (XT.ii_gt_f h) q
theorem g_if_gt (w : Wd p l e R s m args below meth c Z a0 n0 kb ws y bytes ml ret T L cells slots) {pc : Nat} {Ls : Array Slot} {x : Int32} {o : Int} {st : List Value} (hd : decode bytes pc = .ok (.ifCond .gt o, 3)) (pcT : Nat) (ho : 0 ≤ (pc : Int) + o) (hT : ((pc : Int) + o).toNat = pcT) (pcF : Nat) (hF : pc + 3 = pcF)
    (k1 : 0 < x → Go p e below Z n0 kg E P T (mkF m pcT Ls st)) (k2 : ¬ 0 < x → Go p e below Z n0 kg E P T (mkF m pcF Ls st)) : Go p e below Z n0 kg E P T (mkF m pc Ls (.int x :: st)) := by
  subst hF
  by_cases h : 0 < x
  · exact (k1 h).pre fun t q => XS.ifYes w.here w.hx rfl rfl (hb w.hby hd) rfl (XT.i0_gt_t h) ho hT q
  · exact (k2 h).pre fun t q => XS.ifNo w.here w.hx rfl (hb w.hby hd) rfl (XT.i0_gt_f h) q
theorem g_lif_gt (w : Wd p l e R s m args below meth c Z a0 n0 kb ws y bytes ml ret T L cells slots) {pc : Nat} {Ls : Array Slot} {x y' : Int64} {o : Int} {st : List Value} (hd : decode bytes pc = .ok (.ifCond .gt o, 3)) (pcT : Nat) (ho : 0 ≤ (pc : Int) + o) (hT : ((pc : Int) + o).toNat = pcT) (pcF : Nat) (hF : pc + 3 = pcF)
    (k1 : y' < x → Go p e below Z n0 kg E P T (mkF m pcT Ls st)) (k2 : ¬ y' < x → Go p e below Z n0 kg E P T (mkF m pcF Ls st)) : Go p e below Z n0 kg E P T (mkF m pc Ls (.int (XT.cmpL x y') :: st)) := by
  subst hF
  by_cases h : y' < x
  · exact (k1 h).pre fun t q => XS.ifYes w.here w.hx rfl rfl (hb w.hby hd) rfl (XT.ll_gt_t h) ho hT q
  · exact (k2 h).pre fun t q => XS.ifNo w.here w.hx rfl (hb w.hby hd) rfl (XT.ll_gt_f h) q
theorem g_icmp_le (w : Wd p l e R s m args below meth c Z a0 n0 kb ws y bytes ml ret T L cells slots) {pc : Nat} {Ls : Array Slot} {x y' : Int32} {o : Int} {st : List Value} (hd : decode bytes pc = .ok (.if_icmp .le o, 3)) (pcT : Nat) (ho : 0 ≤ (pc : Int) + o) (hT : ((pc : Int) + o).toNat = pcT) (pcF : Nat) (hF : pc + 3 = pcF)
    (k1 : ¬ y' < x → Go p e below Z n0 kg E P T (mkF m pcT Ls st)) (k2 : y' < x → Go p e below Z n0 kg E P T (mkF m pcF Ls st)) : Go p e below Z n0 kg E P T (mkF m pc Ls (.int y' :: .int x :: st)) := by
  subst hF
  by_cases h : y' < x
  · exact (k2 h).pre fun t q => XS.icmpNo w.here w.hx rfl (hb w.hby hd) rfl (XT.ii_le_f h) q
  · exact (k1 h).pre fun t q => XS.icmpYes w.here w.hx rfl rfl (hb w.hby hd) rfl (XT.ii_le_t h) ho hT q
theorem g_if_le (w : Wd p l e R s m args below meth c Z a0 n0 kb ws y bytes ml ret T L cells slots) {pc : Nat} {Ls : Array Slot} {x : Int32} {o : Int} {st : List Value} (hd : decode bytes pc = .ok (.ifCond .le o, 3)) (pcT : Nat) (ho : 0 ≤ (pc : Int) + o) (hT : ((pc : Int) + o).toNat = pcT) (pcF : Nat) (hF : pc + 3 = pcF)
    (k1 : ¬ 0 < x → Go p e below Z n0 kg E P T (mkF m pcT Ls st)) (k2 : 0 < x → Go p e below Z n0 kg E P T (mkF m pcF Ls st)) : Go p e below Z n0 kg E P T (mkF m pc Ls (.int x :: st)) := by
  subst hF
  by_cases h : 0 < x
  · exact (k2 h).pre fun t q => XS.ifNo w.here w.hx rfl (hb w.hby hd) rfl (XT.i0_le_f h) q
  · exact (k1 h).pre fun t q => XS.ifYes w.here w.hx rfl rfl (hb w.hby hd) rfl (XT.i0_le_t h) ho hT q
theorem g_lif_le (w : Wd p l e R s m args below meth c Z a0 n0 kb ws y bytes ml ret T L cells slots) {pc : Nat} {Ls : Array Slot} {x y' : Int64} {o : Int} {st : List Value} (hd : decode bytes pc = .ok (.ifCond .le o, 3)) (pcT : Nat) (ho : 0 ≤ (pc : Int) + o) (hT : ((pc : Int) + o).toNat = pcT) (pcF : Nat) (hF : pc + 3 = pcF)
    (k1 : ¬ y' < x → Go p e below Z n0 kg E P T (mkF m pcT Ls st)) (k2 : y' < x → Go p e below Z n0 kg E P T (mkF m pcF Ls st)) : Go p e below Z n0 kg E P T (mkF m pc Ls (.int (XT.cmpL x y') :: st)) := by
  subst hF
  by_cases h : y' < x
  · exact (k2 h).pre fun t q => XS.ifNo w.here w.hx rfl (hb w.hby hd) rfl (XT.ll_le_f h) q
  · exact (k1 h).pre fun t q => XS.ifYes w.here w.hx rfl rfl (hb w.hby hd) rfl (XT.ll_le_t h) ho hT q
theorem g_acmp_eq (w : Wd p l e R s m args below meth c Z a0 n0 kb ws y bytes ml ret T L cells slots) {pc : Nat} {Ls : Array Slot} {x y' : Value} {o : Int} {st : List Value} (hd : decode bytes pc = .ok (.if_acmp .eq o, 3)) (hx' : x.isRef = true) (hy' : y'.isRef = true) (pcT : Nat) (ho : 0 ≤ (pc : Int) + o) (hT : ((pc : Int) + o).toNat = pcT) (pcF : Nat) (hF : pc + 3 = pcF)
    (k1 : x = y' → Go p e below Z n0 kg E P T (mkF m pcT Ls st)) (k2 : ¬ x = y' → Go p e below Z n0 kg E P T (mkF m pcF Ls st)) : Go p e below Z n0 kg E P T (mkF m pc Ls (y' :: x :: st)) := by
  subst hF
  by_cases h : x = y'
  · exact (k1 h).pre fun t q => XT.acmpYes w.here w.hx rfl rfl (hb w.hby hd) rfl hx' hy' (XT.aa_eq_t h) ho hT q
  · exact (k2 h).pre fun t q => XT.acmpNo w.here w.hx rfl (hb w.hby hd) rfl hx' hy' (XT.aa_eq_f h) q
theorem g_acmp_ne (w : Wd p l e R s m args below meth c Z a0 n0 kb ws y bytes ml ret T L cells slots) {pc : Nat} {Ls : Array Slot} {x y' : Value} {o : Int} {st : List Value} (hd : decode bytes pc = .ok (.if_acmp .ne o, 3)) (hx' : x.isRef = true) (hy' : y'.isRef = true) (pcT : Nat) (ho : 0 ≤ (pc : Int) + o) (hT : ((pc : Int) + o).toNat = pcT) (pcF : Nat) (hF : pc + 3 = pcF)
    (k1 : ¬ x = y' → Go p e below Z n0 kg E P T (mkF m pcT Ls st)) (k2 : x = y' → Go p e below Z n0 kg E P T (mkF m pcF Ls st)) : Go p e below Z n0 kg E P T (mkF m pc Ls (y' :: x :: st)) := by
  subst hF
  by_cases h : x = y'
  · exact (k2 h).pre fun t q => XT.acmpNo w.here w.hx rfl (hb w.hby hd) rfl hx' hy' (XT.aa_ne_f h) q
  · exact (k1 h).pre fun t q => XT.acmpYes w.here w.hx rfl rfl (hb w.hby hd) rfl hx' hy' (XT.aa_ne_t h) ho hT q
theorem g_ifnullT (w : Wd p l e R s m args below meth c Z a0 n0 kb ws y bytes ml ret T L cells slots) {pc : Nat} {Ls : Array Slot} {o : Int} {st : List Value} (hd : decode bytes pc = .ok (.ifnull o, 3)) (pcT : Nat) (ho : 0 ≤ (pc : Int) + o) (hT : ((pc : Int) + o).toNat = pcT) (k : Go p e below Z n0 kg E P T (mkF m pcT Ls st)) : Go p e below Z n0 kg E P T (mkF m pc Ls (.null :: st)) := k.pre fun t q => XS.ifnullYes w.here w.hx rfl rfl (hb w.hby hd) rfl ho hT q
theorem g_ifnullF (w : Wd p l e R s m args below meth c Z a0 n0 kb ws y bytes ml ret T L cells slots) {pc : Nat} {Ls : Array Slot} {r : Addr} {o : Int} {st : List Value} (hd : decode bytes pc = .ok (.ifnull o, 3)) (pcF : Nat) (hF : pc + 3 = pcF) (k : Go p e below Z n0 kg E P T (mkF m pcF Ls st)) : Go p e below Z n0 kg E P T (mkF m pc Ls (.ref r :: st)) := by
  subst hF
  exact k.pre fun t q => XS.ifnullNo w.here w.hx rfl (hb w.hby hd) rfl q
theorem g_ifnonnullT (w : Wd p l e R s m args below meth c Z a0 n0 kb ws y bytes ml ret T L cells slots) {pc : Nat} {Ls : Array Slot} {r : Addr} {o : Int} {st : List Value} (hd : decode bytes pc = .ok (.ifnonnull o, 3)) (pcT : Nat) (ho : 0 ≤ (pc : Int) + o) (hT : ((pc : Int) + o).toNat = pcT) (k : Go p e below Z n0 kg E P T (mkF m pcT Ls st)) : Go p e below Z n0 kg E P T (mkF m pc Ls (.ref r :: st)) := k.pre fun t q => XT.ifnonnullYes w.here w.hx rfl rfl (hb w.hby hd) rfl ho hT q
theorem g_ifnonnullF (w : Wd p l e R s m args below meth c Z a0 n0 kb ws y bytes ml ret T L cells slots) {pc : Nat} {Ls : Array Slot} {o : Int} {st : List Value} (hd : decode bytes pc = .ok (.ifnonnull o, 3)) (pcF : Nat) (hF : pc + 3 = pcF) (k : Go p e below Z n0 kg E P T (mkF m pcF Ls st)) : Go p e below Z n0 kg E P T (mkF m pc Ls (.null :: st)) := by
  subst hF
  exact k.pre fun t q => XT.ifnonnullNo w.here w.hx rfl (hb w.hby hd) rfl q
/-! ## calls -/
theorem g_initO (w : Wd p l e R s m args below meth c Z a0 n0 kb ws y bytes ml ret T L cells slots) {pc : Nat} {Ls : Array Slot} {st : List Value} {idx : Nat} {a : Addr} (hd : decode bytes pc = .ok (.invokespecial idx, 3)) (k1 : Nat) (hk1 : ws[k1]? = some (.methodLink y.cls idx Lib.objectInit)) (k2 : Nat) (hk2 : ws[k2]? = some (.instanceMethod Lib.objectInit)) (k3 : Nat) (hk3 : ws[k3]? = some (.code Lib.objectInit ⟨#[0xb1]⟩ 1 none))
    (hsz : Ls.size = ml) (hf : 1 ≤ R.frames) (W : Nat) (hW : (st.map fun v => v.category).sum = W) (hl : W + 12 ≤ R.locals) (pc' : Nat) (hp : pc + 3 = pc')
    (kt : ∀ T', Wd p l e R s m args below meth c Z a0 n0 kb ws y bytes ml ret T' L cells slots → Go p e below Z n0 kg E P T' (mkF m pc' Ls st)) : Go p e below Z n0 kg E P T (mkF m pc Ls (.ref a :: st)) := by
  subst hp
  have hk1' := w.hw hk1
  have hk2' := w.hw hk2
  have hk3' := w.hw hk3
  obtain ⟨⟨locs, X, N⟩, H, hx, hZ, hown, hby, hml, hret, hlk, hnm, hws⟩ := w
  obtain ⟨T', X', e', st'⟩ := initO X hx hZ hown hk1' hk2' hk3' rfl (g := mkF m pc Ls (.ref a :: st)) rfl (by rw [hml]; exact hsz) rfl (hb hby hd) hf (W := W) (by show 2 * 0 + _ ≤ _; rw [hW]; omega) hl
  exact (kt T' ⟨⟨locs, X', N⟩, by rw [e']; exact H, hx, hZ, hown, hby, hml, hret, hlk, hnm, hws⟩).pre st'
theorem Con.back {y' : MethodName} {bytes' : ByteArray} {ml' : Nat} {ret' : Option FieldType} {rm : Room} {as' : Array Value} {P' : Option Value → HL → Prop} {h : Heap} {len W : Nat} (C : Con l y' bytes' ml' ret' rm Z n0 as' L P') (H : Hp Z n0 kb h L) (hZ : Z.Warmed39 s.vm) (wc : (Cond.code y' bytes' ml' ret').before a0 Z = true) (wz : (Cond.initialized y'.cls).before a0 Z = true) (hf : rm.frames + 1 ≤ R.frames) (hl : W + (ml' + 11) + rm.locals ≤ R.locals) :
    Back l R p e below s args y' len W (fun A a => a = as' ∧ A.U.heap = h ∧ A.cells + rm.cells ≤ R.cells ∧ A.slots + rm.slots ≤ R.slots)
      (fun A _ v B => ∃ Lc, (Fr n0 Lc ∧ ∃ L', Hp Z n0 kb B.U.heap L' ∧ P' v L') ∧ B.locs = A.locs ++ Lc ∧ B.cells = A.cells + rm.cells ∧ B.slots = A.slots + rm.slots) :=
  backOf (Q := fun v hh Lc => Fr n0 Lc ∧ ∃ L', Hp Z n0 kb hh L' ∧ P' v L') (C [] kb h H) hZ wc wz hf hl
/-- behind a call -/
theorem g_behind {rm : Room} {P' : Option Value → HL → Prop} {pc : Nat} {Ls : Array Slot} {rest : List Value} {v : Option Value} {B : Pt} {locs : List Loc}
    (N : Fr n0 locs) (hx : p.tables.exec = Jvm.exec) (hZ : Z.Warmed39 s.vm) (hown : s.vm.findClass y.cls = some m.cls) (hby : c.code = bytes) (hml : c.maxLocals = ml) (hret : meth.sig.returnType = ret) (hlk : meth.locks = false) (hnm : meth.name = y.name) (hws : ∀ d ∈ ws, d.before a0 Z = true)
    (X' : Stand p l e R s m args below meth c B.U B.locs B.cells B.slots)
    (hQ : ∃ Lc, (Fr n0 Lc ∧ ∃ L', Hp Z n0 kb B.U.heap L' ∧ P' v L') ∧ Pt.locs B = locs ++ Lc ∧ Pt.cells B = cells + rm.cells ∧ Pt.slots B = slots + rm.slots)
    (kt : ∀ T' v L', Wd p l e R s m args below meth c Z a0 n0 kb ws y bytes ml ret T' L' (cells + rm.cells) (slots + rm.slots) → P' v L' → Go p e below Z n0 kg E P T' (mkF m pc Ls (pushV v rest))) :
    Go p e below Z n0 kg E P B.U (mkF m pc Ls (v.toList ++ rest)) := by
  obtain ⟨Lc, ⟨N', L', H', hP⟩, h1, h2, h3⟩ := hQ
  obtain ⟨U, bl, bc, bs⟩ := B
  dsimp only [Pt.U, Pt.locs, Pt.cells, Pt.slots] at h1 h2 h3 X' H' ⊢
  subst h1 h2 h3
  rw [pushV_eq]
  exact kt U v L' ⟨⟨_, X', Fr.app N N'⟩, H', hx, hZ, hown, hby, hml, hret, hlk, hnm, hws⟩ hP
theorem g_static (w : Wd p l e R s m args below meth c Z a0 n0 kb ws y bytes ml ret T L cells slots) {pc : Nat} {Ls : Array Slot} {st : List Value} {idx : Nat} {y' : MethodName} {bytes' : ByteArray} {ml' : Nat} {ret' : Option FieldType} {rm : Room} {P' : Option Value → HL → Prop} {ps : List FieldType} {rt : Option FieldType} {argsL rest : List Value}
    (C : Con l y' bytes' ml' ret' rm Z n0 argsL.toArray L P') (hd : decode bytes pc = .ok (.invokestatic idx, 3)) (k1 : Nat) (hk1 : ws[k1]? = some (.methodLink y.cls idx y')) (k2 : Nat) (hk2 : ws[k2]? = some (.static y')) (k3 : Nat) (hk3 : ws[k3]? = some (.initialized y'.cls)) (k4 : Nat) (hk4 : ws[k4]? = some (.code y' bytes' ml' ret'))
    (hy : y'.cls ≠ "java/lang/invoke/MethodHandle" ∧ y'.cls ≠ "java/lang/invoke/VarHandle") (hpd : parseMethodDescriptor y'.desc = some ⟨ps, rt⟩) (hlen : argsL.length = ps.length) (hst : st = argsL.reverse ++ rest) (hsz : Ls.size = ml) (W : Nat) (hW : (rest.map fun v => v.category).sum = W) (hf : rm.frames + 1 ≤ R.frames) (hl : W + (ml' + 11) + rm.locals ≤ R.locals)
    (hc : cells + rm.cells ≤ R.cells) (hs : slots + rm.slots ≤ R.slots) (pc' : Nat) (hp : pc + 3 = pc')
    (kt : ∀ T' v L', Wd p l e R s m args below meth c Z a0 n0 kb ws y bytes ml ret T' L' (cells + rm.cells) (slots + rm.slots) → P' v L' → Go p e below Z n0 kg E P T' (mkF m pc' Ls (pushV v rest))) : Go p e below Z n0 kg E P T (mkF m pc Ls st) := by
  subst hp hst
  have hk1' := w.hw hk1
  have hk2' := w.hw hk2
  have hk3' := w.hw hk3
  have hk4' := w.hw hk4
  obtain ⟨⟨locs, X, N⟩, H, hx, hZ, hown, hby, hml, hret, hlk, hnm, hws⟩ := w
  obtain ⟨v, vm₁, B, -, X', hQ, st'⟩ := Jvm.LawKit.callS X hx hown (mvT hZ hk1') (mvT hZ hk2') (mvT hZ hk3') (mvT hZ hk4') hy (Con.back C H hZ hk4' hk3' hf hl) (g := mkF m pc Ls (argsL.reverse ++ rest)) rfl (by rw [hml]; exact hsz) (argsL := argsL) (rest := rest) (lenOf hpd hlen) rfl (by show 2 * 0 + _ ≤ _; rw [hW]; omega) (hb hby hd) (fun _ _ => ⟨rfl, rfl, hc, hs⟩)
  exact (g_behind (rm := rm) (P' := P') N hx hZ hown hby hml hret hlk hnm hws X' hQ kt).pre st'
theorem g_ctor (w : Wd p l e R s m args below meth c Z a0 n0 kb ws y bytes ml ret T L cells slots) {pc : Nat} {Ls : Array Slot} {st : List Value} {idx : Nat} {y' : MethodName} {bytes' : ByteArray} {ml' : Nat} {rm : Room} {P' : Option Value → HL → Prop} {ps : List FieldType} {rt : Option FieldType} {a : Addr} {argsL rest : List Value}
    (C : Con l y' bytes' ml' none rm Z n0 (Value.ref a :: argsL).toArray L P') (hd : decode bytes pc = .ok (.invokespecial idx, 3)) (k1 : Nat) (hk1 : ws[k1]? = some (.methodLink y.cls idx y')) (k2 : Nat) (hk2 : ws[k2]? = some (.instanceMethod y')) (k3 : Nat) (hk3 : ws[k3]? = some (.initialized y'.cls)) (k4 : Nat) (hk4 : ws[k4]? = some (.code y' bytes' ml' none))
    (hyn : y'.name = "<init>") (hy : y'.cls ≠ "java/lang/invoke/MethodHandle" ∧ y'.cls ≠ "java/lang/invoke/VarHandle") (hpd : parseMethodDescriptor y'.desc = some ⟨ps, rt⟩) (hlen : argsL.length = ps.length) (hst : st = argsL.reverse ++ .ref a :: rest) (hsz : Ls.size = ml) (W : Nat) (hW : (rest.map fun v => v.category).sum = W) (hf : rm.frames + 1 ≤ R.frames) (hl : W + (ml' + 11) + rm.locals ≤ R.locals)
    (hc : cells + rm.cells ≤ R.cells) (hs : slots + rm.slots ≤ R.slots) (pc' : Nat) (hp : pc + 3 = pc')
    (kt : ∀ T' v L', Wd p l e R s m args below meth c Z a0 n0 kb ws y bytes ml ret T' L' (cells + rm.cells) (slots + rm.slots) → P' v L' → Go p e below Z n0 kg E P T' (mkF m pc' Ls (pushV v rest))) : Go p e below Z n0 kg E P T (mkF m pc Ls st) := by
  subst hp hst
  have hk1' := w.hw hk1
  have hk2' := w.hw hk2
  have hk3' := w.hw hk3
  have hk4' := w.hw hk4
  obtain ⟨⟨locs, X, N⟩, H, hx, hZ, hown, hby, hml, hret, hlk, hnm, hws⟩ := w
  obtain ⟨v, vm₁, B, -, X', hQ, st'⟩ := X.specialBack hx hyn hown (mvT hZ hk1') (mvT hZ hk2') (mvT hZ hk4') hy (Con.back C H hZ hk4' hk3' hf hl) (g := mkF m pc Ls (argsL.reverse ++ .ref a :: rest)) rfl (by rw [hml]; exact hsz) (Steps.refl _) (a := a) (argsL := argsL) (rest := rest) (lenOf hpd hlen) rfl (by show 2 * 0 + _ ≤ _; rw [hW]; omega) (hb hby hd) (fun _ _ => ⟨rfl, rfl, hc, hs⟩)
  exact (g_behind (rm := rm) (P' := P') N hx hZ hown hby hml hret hlk hnm hws X' hQ kt).pre fun t q => st'.trans q
theorem g_virt (w : Wd p l e R s m args below meth c Z a0 n0 kb ws y bytes ml ret T L cells slots) {pc : Nat} {Ls : Array Slot} {st : List Value} {idx : Nat} {y' : MethodName} {bytes' : ByteArray} {ml' : Nat} {ret' : Option FieldType} {rm : Room} {P' : Option Value → HL → Prop} {ps : List FieldType} {rt : Option FieldType} {a : Addr} {Cn : String} {fs : List FldE} {argsL rest : List Value}
    (C : Con l y' bytes' ml' ret' rm Z n0 (Value.ref a :: argsL).toArray L P') (hd : decode bytes pc = .ok (.invokevirtual idx, 3)) (i : Nat) (hi : L[i]? = some (a, .inl (Cn, fs))) (k1 : Nat) (hk1 : ws[k1]? = some (.methodLink y.cls idx y')) (k2 : Nat) (hk2 : ws[k2]? = some (.declares y')) (k3 : Nat) (hk3 : ws[k3]? = some (.initialized y'.cls)) (k4 : Nat) (hk4 : ws[k4]? = some (.code y' bytes' ml' ret'))
    (k5 : Nat) (hk5 : ws[k5]? = some (.selects Cn y' y')) (k6 : Nat) (hk6 : ws[k6]? = some (.instanceMethod y'))
    (hy : y'.cls ≠ "java/lang/invoke/MethodHandle" ∧ y'.cls ≠ "java/lang/invoke/VarHandle") (hpd : parseMethodDescriptor y'.desc = some ⟨ps, rt⟩) (hlen : argsL.length = ps.length) (hst : st = argsL.reverse ++ .ref a :: rest) (hsz : Ls.size = ml) (W : Nat) (hW : (rest.map fun v => v.category).sum = W) (hf : rm.frames + 1 ≤ R.frames) (hl : W + (ml' + 11) + rm.locals ≤ R.locals)
    (hc : cells + rm.cells ≤ R.cells) (hs : slots + rm.slots ≤ R.slots) (pc' : Nat) (hp : pc + 3 = pc')
    (kt : ∀ T' v L', Wd p l e R s m args below meth c Z a0 n0 kb ws y bytes ml ret T' L' (cells + rm.cells) (slots + rm.slots) → P' v L' → Go p e below Z n0 kg E P T' (mkF m pc' Ls (pushV v rest))) : Go p e below Z n0 kg E P T (mkF m pc Ls st) := by
  subst hp hst
  have hk1' := w.hw hk1
  have hk2' := w.hw hk2
  have hk3' := w.hw hk3
  have hk4' := w.hw hk4
  have hk5' := w.hw hk5
  have hk6' := w.hw hk6
  obtain ⟨⟨locs, X, N⟩, H, hx, hZ, hown, hby, hml, hret, hlk, hnm, hws⟩ := w
  obtain ⟨cq, kq, qa, qb, qc⟩ := isOf hZ rfl (H.obj hi).1
  obtain ⟨v, vm₁, B, -, X', hQ, st'⟩ := X.virtualBack hx (y := y') (z := y') hown (mvT hZ hk1') (mvT hZ hk2') (notFace_of_selects (args := #[]) (mvT hZ hk5')) (mvT hZ hk5') (mvT hZ hk6') hy (Con.back C H hZ hk4' hk3' hf hl) qa qc (g := mkF m pc Ls (argsL.reverse ++ .ref a :: rest)) rfl (by rw [hml]; exact hsz) (Steps.refl _) (argsL := argsL) (rest := rest) (lenOf hpd hlen) rfl (by show 2 * 0 + _ ≤ _; rw [hW]; omega) (hb hby hd) (fun _ _ => ⟨rfl, rfl, hc, hs⟩)
  exact (g_behind (rm := rm) (P' := P') N hx hZ hown hby hml hret hlk hnm hws X' hQ kt).pre fun t q => st'.trans q
theorem g_virtO (w : Wd p l e R s m args below meth c Z a0 n0 kb ws y bytes ml ret T L cells slots) {pc : Nat} {Ls : Array Slot} {st : List Value} {idx : Nat} {y' : MethodName} {bytes' : ByteArray} {ml' : Nat} {ret' : Option FieldType} {rm : Room} {P' : Option Value → HL → Prop} {ps : List FieldType} {rt : Option FieldType} {a : Addr} {Cn : String} {argsL rest : List Value}
    (C : Con l y' bytes' ml' ret' rm Z n0 (Value.ref a :: argsL).toArray L P') (hd : decode bytes pc = .ok (.invokevirtual idx, 3)) (EO : Exa Z Z.heap a Cn) (k1 : Nat) (hk1 : ws[k1]? = some (.methodLink y.cls idx y')) (k2 : Nat) (hk2 : ws[k2]? = some (.declares y')) (k3 : Nat) (hk3 : ws[k3]? = some (.initialized y'.cls)) (k4 : Nat) (hk4 : ws[k4]? = some (.code y' bytes' ml' ret'))
    (k5 : Nat) (hk5 : ws[k5]? = some (.selects Cn y' y')) (k6 : Nat) (hk6 : ws[k6]? = some (.instanceMethod y'))
    (hy : y'.cls ≠ "java/lang/invoke/MethodHandle" ∧ y'.cls ≠ "java/lang/invoke/VarHandle") (hpd : parseMethodDescriptor y'.desc = some ⟨ps, rt⟩) (hlen : argsL.length = ps.length) (hst : st = argsL.reverse ++ .ref a :: rest) (hsz : Ls.size = ml) (W : Nat) (hW : (rest.map fun v => v.category).sum = W) (hf : rm.frames + 1 ≤ R.frames) (hl : W + (ml' + 11) + rm.locals ≤ R.locals)
    (hc : cells + rm.cells ≤ R.cells) (hs : slots + rm.slots ≤ R.slots) (pc' : Nat) (hp : pc + 3 = pc')
    (kt : ∀ T' v L', Wd p l e R s m args below meth c Z a0 n0 kb ws y bytes ml ret T' L' (cells + rm.cells) (slots + rm.slots) → P' v L' → Go p e below Z n0 kg E P T' (mkF m pc' Ls (pushV v rest))) : Go p e below Z n0 kg E P T (mkF m pc Ls st) := by
  subst hp hst
  have hk1' := w.hw hk1
  have hk2' := w.hw hk2
  have hk3' := w.hw hk3
  have hk4' := w.hw hk4
  have hk5' := w.hw hk5
  have hk6' := w.hw hk6
  obtain ⟨⟨locs, X, N⟩, H, hx, hZ, hown, hby, hml, hret, hlk, hnm, hws⟩ := w
  obtain ⟨cq, kq, qa, qb, qc⟩ := isOf hZ rfl (EO.ext H.old)
  obtain ⟨v, vm₁, B, -, X', hQ, st'⟩ := X.virtualBack hx (y := y') (z := y') hown (mvT hZ hk1') (mvT hZ hk2') (notFace_of_selects (args := #[]) (mvT hZ hk5')) (mvT hZ hk5') (mvT hZ hk6') hy (Con.back C H hZ hk4' hk3' hf hl) qa qc (g := mkF m pc Ls (argsL.reverse ++ .ref a :: rest)) rfl (by rw [hml]; exact hsz) (Steps.refl _) (argsL := argsL) (rest := rest) (lenOf hpd hlen) rfl (by show 2 * 0 + _ ≤ _; rw [hW]; omega) (hb hby hd) (fun _ _ => ⟨rfl, rfl, hc, hs⟩)
  exact (g_behind (rm := rm) (P' := P') N hx hZ hown hby hml hret hlk hnm hws X' hQ kt).pre fun t q => st'.trans q
theorem g_priv (w : Wd p l e R s m args below meth c Z a0 n0 kb ws y bytes ml ret T L cells slots) {pc : Nat} {Ls : Array Slot} {st : List Value} {idx nI : Nat} {y' : MethodName} {bytes' : ByteArray} {ml' : Nat} {ret' : Option FieldType} {rm : Room} {P' : Option Value → HL → Prop} {ps : List FieldType} {rt : Option FieldType} {a : Addr} {Cn : String} {fs : List FldE} {argsL rest : List Value}
    (C : Con l y' bytes' ml' ret' rm Z n0 (Value.ref a :: argsL).toArray L P') (hd : decode bytes pc = .ok (.invokevirtual idx, 3)) (i : Nat) (hi : L[i]? = some (a, .inl (Cn, fs))) (k1 : Nat) (hk1 : ws[k1]? = some (.methodLink y.cls idx y')) (k2 : Nat) (hk2 : ws[k2]? = some (.instanceMethod y')) (k3 : Nat) (hk3 : ws[k3]? = some (.initialized y'.cls)) (k4 : Nat) (hk4 : ws[k4]? = some (.code y' bytes' ml' ret'))
    (k5 : Nat) (hk5 : ws[k5]? = some (.privateMethod y')) (k6 : Nat) (hk6 : ws[k6]? = some (.instantiable y'.cls nI))
    (hy : y'.cls ≠ "java/lang/invoke/MethodHandle" ∧ y'.cls ≠ "java/lang/invoke/VarHandle") (hpd : parseMethodDescriptor y'.desc = some ⟨ps, rt⟩) (hlen : argsL.length = ps.length) (hst : st = argsL.reverse ++ .ref a :: rest) (hsz : Ls.size = ml) (W : Nat) (hW : (rest.map fun v => v.category).sum = W) (hf : rm.frames + 1 ≤ R.frames) (hl : W + (ml' + 11) + rm.locals ≤ R.locals)
    (hc : cells + rm.cells ≤ R.cells) (hs : slots + rm.slots ≤ R.slots) (pc' : Nat) (hp : pc + 3 = pc')
    (kt : ∀ T' v L', Wd p l e R s m args below meth c Z a0 n0 kb ws y bytes ml ret T' L' (cells + rm.cells) (slots + rm.slots) → P' v L' → Go p e below Z n0 kg E P T' (mkF m pc' Ls (pushV v rest))) : Go p e below Z n0 kg E P T (mkF m pc Ls st) := by
  subst hp hst
  have hk1' := w.hw hk1
  have hk2' := w.hw hk2
  have hk3' := w.hw hk3
  have hk4' := w.hw hk4
  have hk5' := w.hw hk5
  have hk6' := w.hw hk6
  obtain ⟨⟨locs, X, N⟩, H, hx, hZ, hown, hby, hml, hret, hlk, hnm, hws⟩ := w
  obtain ⟨cl, hcl, hst0⟩ := (H.obj hi).1.cell
  have hpa : s.PrivateAt y' := Cond.privateMethod_at (mvP hZ hk5' (args := #[]))
  have hin : (Cond.instanceMethod y').before args s = true := mvT hZ hk2'
  have hic : (Cond.instantiable y'.cls nI).before args s = true := mvT hZ hk6'
  obtain ⟨cI, kI, i1, i2, i3, i4, -⟩ := Cond.instantiable_spec hic
  have hsel : (Cond.selects y'.cls y' y').before args s = true := selects_self_of_private i1 i2 (Bool.or_eq_false_iff.mp i4).1 hpa hin hy
  obtain ⟨v, vm₁, B, -, X', hQ, st'⟩ := X.privateBack hx (y := y') hown (mvT hZ hk1') hin hsel hpa (mvT hZ hk4') hy (Con.back C H hZ hk4' hk3' hf hl) (g := mkF m pc Ls (argsL.reverse ++ .ref a :: rest)) rfl (by rw [hml]; exact hsz) (Steps.refl _) (a := a) hcl hst0 (argsL := argsL) (rest := rest) (lenOf hpd hlen) rfl (by show 2 * 0 + _ ≤ _; rw [hW]; omega) (hb hby hd) (fun _ _ => ⟨rfl, rfl, hc, hs⟩)
  exact (g_behind (rm := rm) (P' := P') N hx hZ hown hby hml hret hlk hnm hws X' hQ kt).pre fun t q => st'.trans q
/-! ## from the case's words to the contract of the law -/
theorem fr_end {Lc : List Loc} {v : Option Value} {u : State} (N : Fr s.heap.size Lc) (hq : FrameEnd s (.returned v) u Lc kc ks) (L0 : List Loc) {kc' ks' : Nat} (h1 : kc ≤ kc') (h2 : ks ≤ ks') : FrameEnd s (.returned v) u L0 kc' ks' :=
  ⟨hq.1, hq.2.1, (hq.2.2.sift fun y hy => Or.inr (N y hy)).mono h1 h2⟩
end Walk
end Jvm.OwnW
namespace Jvm.Pilot.@@N@@
open Jvm Jvm.ClassFile Sem Op Lib Jvm.Free Jvm.Stand Jvm.LawKit Jvm.RoadKit Bundle Jvm.OwnW Jvm.Pilot.@@N@@.Jvm.D
theorem own_tn {q : Int32} {k : Nat} (h : q.toInt = (k : Int)) : q.toBitVec.toNat = k := by
  have e : q.toInt = q.toBitVec.toInt := rfl
  have hb := q.toBitVec.isLt
  rw [e, BitVec.toInt_eq_toNat_cond] at h
  split at h <;> omega
theorem own_pow_le {a b : Nat} (h : a ≤ b) : (2 : Nat) ^ a ≤ 2 ^ b := Nat.pow_le_pow_right (by decide) h
/-- an unsigned shift of a number that isn't negative -/
theorem own_ush {x : Int64} {q : Int32} {k : Nat} (hk : q.toInt = (k : Int)) (h64 : k < 64) (hx : 0 ≤ x.toInt) : (ushrL x q).toInt = x.toInt / (2 ^ k : Nat) := by
  have hn := own_tn hk
  by_cases h0 : k = 0
  · subst h0
    have : q = 0 := Int32.toInt_inj.mp (by rw [hk]; rfl)
    subst this
    rw [ushrL_0]
    simp
  · have h := ushrL_c x q k (by rw [hn]; omega) (by omega)
    rw [h]
    have := x.toInt_lt
    congr 1
    omega
/-- a shift to the left that stays in the range -/
theorem own_shl {x : Int64} {q : Int32} {k : Nat} (hk : q.toInt = (k : Int)) (h64 : k < 64) (h1 : 0 ≤ x.toInt) (h2 : x.toInt * (2 ^ k : Nat) < 9223372036854775808) : (shlL x q).toInt = x.toInt * (2 ^ k : Nat) := by
  have hn := own_tn hk
  have h := shlL_c x q k (by rw [hn]; omega)
  have a := (shlL x q).toInt_lt
  have b := (shlL x q).le_toInt
  have c : 0 ≤ x.toInt * ((2 ^ k : Nat) : Int) := Int.mul_nonneg h1 (Int.natCast_nonneg _)
  generalize x.toInt * ((2 ^ k : Nat) : Int) = y at *
  omega
def own_gap (g : Int32) : Int64 := shlL (g &&& 255).toInt64 (ushrI g 8 % 52)
theorem own_gap_b (g : Int32) : 0 ≤ (own_gap g).toInt ∧ (own_gap g).toInt < 576460752303423488 := by
  have h1 := c_mask g 255 8 (by decide) (by decide)
  have h2 := ushrI_c g 8 8 (by decide) (by decide)
  have h3 := (c_irem (ushrI g 8) 52 52 rfl).1 (by omega)
  have h4 := c_i2l (g &&& 255)
  obtain ⟨k, hk⟩ : ∃ k : Nat, (ushrI g 8 % 52).toInt = (k : Int) := ⟨(ushrI g 8 % 52).toInt.toNat, by omega⟩
  have hk51 : k ≤ 51 := by omega
  have hp := own_pow_le hk51
  have hb : (g &&& 255).toInt64.toInt * ((2 ^ k : Nat) : Int) ≤ 255 * ((2 ^ 51 : Nat) : Int) := Int.mul_le_mul (by omega) (by omega) (Int.natCast_nonneg _) (by decide)
  have h5 := own_shl (x := (g &&& 255).toInt64) hk (by omega) (by omega) (by omega)
  have h6 : 0 ≤ (g &&& 255).toInt64.toInt * ((2 ^ k : Nat) : Int) := Int.mul_nonneg (by omega) (Int.natCast_nonneg _)
  unfold own_gap
  omega
def own_below (n i : Int32) (q v : Int64) : Int32 := if i < n then (if q < v then 1 else 0) else 0
/-- what is known of the sorted values -/
def own_srt (xs : List Int64) : Prop := xs.length ≤ 4 ∧ (∀ i j, i ≤ j → j < xs.length → (xs.getD i 0).toInt ≤ (xs.getD j 0).toInt) ∧ (-2305843009213693952 ≤ (xs.getD 0 0).toInt ∧ (xs.getD 0 0).toInt < 2305843009213693952) ∧ ∀ j, j < xs.length → (xs.getD j 0).toInt - (xs.getD 0 0).toInt < 2305843009213693952
def own_R (xs : List Int64) : Int64 := if xs.length = 0 then 0 else xs.getD (xs.length - 1) 0 - xs.getD 0 0
theorem own_R_b {xs : List Int64} (h : own_srt xs) : 0 ≤ (own_R xs).toInt ∧ (own_R xs).toInt < 2305843009213693952 ∧ (0 < xs.length → (own_R xs).toInt = (xs.getD (xs.length - 1) 0).toInt - (xs.getD 0 0).toInt) := by
  obtain ⟨h1, h2, h3, h4⟩ := h
  unfold own_R
  by_cases hn : xs.length = 0
  · rw [if_pos hn]
    exact ⟨by decide, by decide, fun q => by omega⟩
  · rw [if_neg hn]
    have a := h2 0 (xs.length - 1) (by omega) (by omega)
    have b := h4 (xs.length - 1) (by omega)
    have c := c_lsub (xs.getD (xs.length - 1) 0) (xs.getD 0 0)
    have d := (xs.getD (xs.length - 1) 0 - xs.getD 0 0).toInt_lt
    have e := (xs.getD (xs.length - 1) 0 - xs.getD 0 0).le_toInt
    exact ⟨by omega, by omega, fun _ => by omega⟩
theorem own_vat (xs : List Int64) {j : Nat} (h : j < xs.length) : (xs.map Value.long)[j]? = some (.long (xs.getD j 0)) := by
  simp [List.getElem?_map, List.getElem?_eq_getElem h, List.getD_eq_getElem?_getD]
def own_cn (xs : List Int64) (j : Nat) (t : Int) : Prop := j ≤ xs.length ∧ (∀ i, i < j → (xs.getD i 0).toInt < t) ∧ ∀ i, j ≤ i → i < xs.length → t ≤ (xs.getD i 0).toInt
def own_st (xs : List Int64) (k i : Nat) : Int := if xs.length = 0 then 0 else (xs.getD 0 0).toInt + (i : Int) * ((2 ^ k : Nat) : Int)
theorem own_st_le (xs : List Int64) (k i : Nat) : own_st xs k i ≤ own_st xs k (i + 1) := by
  unfold own_st
  split
  · exact Int.le_refl _
  · have : (0 : Int) ≤ ((2 ^ k : Nat) : Int) := Int.natCast_nonneg _
    rw [Int.natCast_add, Int.add_mul]
    omega
def own_bn (xs : List Int64) (k : Nat) : Nat := (own_R xs).toInt.toNat / 2 ^ k
def own_bk (xs : List Int64) (k : Nat) (bs : List Value) (n i : Nat) : Prop := bs.length = n ∧ ∀ b, b < i → ∃ (z : Int32) (j : Nat), bs[b]? = some (.int z) ∧ z.toInt = (j : Int) ∧ own_cn xs j (own_st xs k b)
theorem own_div {x : Int} (hx : 0 ≤ x) (k : Nat) : x / ((2 ^ k : Nat) : Int) = ((x.toNat / 2 ^ k : Nat) : Int) := by
  obtain ⟨y, rfl⟩ := Int.eq_ofNat_of_zero_le hx
  simp
theorem own_A {xs : List Int64} {r : Int64} {sh len : Int32} {k : Nat} (h : own_srt xs) (hr : r = own_R xs) (hk : sh.toInt = (k : Int)) (h61 : k ≤ 61) (hlen : len.toInt = (xs.length : Int)) : (ushrL r sh).toInt = (own_bn xs k : Int) ∧ (ushrL r sh < 2 * len.toInt64 + 1 ↔ own_bn xs k < 2 * xs.length + 1) := by
  have b := own_R_b h
  subst hr
  have e := own_ush (x := own_R xs) hk (by omega) b.1
  rw [own_div b.1] at e
  have e' : (ushrL (own_R xs) sh).toInt = (own_bn xs k : Int) := e
  refine ⟨e', ?_⟩
  rw [Int64.lt_iff_toInt_lt, e']
  have c1 := c_ladd (2 * len.toInt64) 1
  have c2 := c_lmul 2 len.toInt64
  have c3 := c_i2l len
  have k2 : (2 : Int64).toInt = 2 := rfl
  have k1 : (1 : Int64).toInt = 1 := rfl
  rw [k2] at c2
  rw [k1] at c1
  have b1 := (2 * len.toInt64).toInt_lt
  have b2 := (2 * len.toInt64).le_toInt
  have b3 := (2 * len.toInt64 + 1).toInt_lt
  have b4 := (2 * len.toInt64 + 1).le_toInt
  have h4 := h.1
  omega
theorem own_bn61 {xs : List Int64} (h : own_srt xs) : own_bn xs 61 < 2 * xs.length + 1 := by
  have b := own_R_b h
  have : own_bn xs 61 = 0 := Nat.div_eq_of_lt (by omega)
  omega
theorem own_inc {sh : Int32} {k : Nat} (hk : sh.toInt = (k : Int)) (h : k < 1000) : (sh + 1).toInt = ((k + 1 : Nat) : Int) := by
  have a := c_iadd sh 1
  have b := (sh + 1).toInt_lt
  have c := (sh + 1).le_toInt
  have k1 : (1 : Int32).toInt = 1 := rfl
  omega
theorem own_new {xs : List Int64} {r : Int64} {sh len : Int32} {k : Nat} (h : own_srt xs) (hr : r = own_R xs) (hk : sh.toInt = (k : Int)) (h61 : k ≤ 61) (hlen : len.toInt = (xs.length : Int)) (hb : own_bn xs k < 2 * xs.length + 1) : ((ushrL r sh).toInt32 + 2).toInt = ((own_bn xs k + 2 : Nat) : Int) := by
  have e := (own_A h hr hk h61 hlen).1
  have h4 := h.1
  have c1 := c_l2i (ushrL r sh)
  have c2 := c_iadd (ushrL r sh).toInt32 2
  have k2 : (2 : Int32).toInt = 2 := rfl
  have b1 := (ushrL r sh).toInt32.toInt_lt
  have b2 := (ushrL r sh).toInt32.le_toInt
  have b3 := ((ushrL r sh).toInt32 + 2).toInt_lt
  have b4 := ((ushrL r sh).toInt32 + 2).le_toInt
  omega
/-- a bucket's first value -/
theorem own_start {xs : List Int64} {sh i : Int32} {k ni : Nat} (h : own_srt xs) (hk : sh.toInt = (k : Int)) (h61 : k ≤ 61) (hi : i.toInt = (ni : Int)) (hn : 0 < xs.length) (hle : ni ≤ own_bn xs k + 1) : (xs.getD 0 0 + shlL i.toInt64 sh).toInt = own_st xs k ni := by
  have b := own_R_b h
  have hp := own_pow_le h61
  have c1 := c_i2l i
  have m1 : own_bn xs k * 2 ^ k ≤ (own_R xs).toInt.toNat := Nat.div_mul_le_self _ _
  have m2 : ni * 2 ^ k ≤ (own_bn xs k + 1) * 2 ^ k := Nat.mul_le_mul_right _ hle
  rw [Nat.add_mul] at m2
  have m3 : i.toInt64.toInt * ((2 ^ k : Nat) : Int) = ((ni * 2 ^ k : Nat) : Int) := by rw [c1, hi, Int.natCast_mul]
  have e := own_shl (x := i.toInt64) hk (by omega) (by omega) (by rw [m3]; omega)
  rw [m3] at e
  have c2 := c_ladd (xs.getD 0 0) (shlL i.toInt64 sh)
  have b1 := (xs.getD 0 0 + shlL i.toInt64 sh).toInt_lt
  have b2 := (xs.getD 0 0 + shlL i.toInt64 sh).le_toInt
  have h3 := h.2.2.1
  unfold own_st
  rw [if_neg (by omega), ← Int.natCast_mul]
  omega
theorem own_bk_set {xs : List Int64} {k n ni nj : Nat} {bs : List Value} {j : Int32} (hb : own_bk xs k bs n ni) (hj : j.toInt = (nj : Int)) (hc : own_cn xs nj (own_st xs k ni)) (hl : ni < n) : own_bk xs k (bs.set ni (.int j)) n (ni + 1) := by
  refine ⟨by simpa using hb.1, fun b hlt => ?_⟩
  by_cases e : b = ni
  · subst e
    exact ⟨j, nj, List.getElem?_set_self (by rw [hb.1]; exact hl), hj, hc⟩
  · obtain ⟨z, q, r1, r2, r3⟩ := hb.2 b (by omega)
    exact ⟨z, q, (List.getElem?_set_ne (Ne.symm e)).trans r1, r2, r3⟩
theorem own_nz {len : Int32} {n : Nat} (h : len.toInt = (n : Int)) : len = 0 ↔ n = 0 := by
  rw [← Int32.toInt_inj, h]
  have : (0 : Int32).toInt = 0 := rfl
  omega
theorem own_n0 {len : Int32} {n : Nat} (h : len.toInt = (n : Int)) (q : ¬ len = 0) : 0 < n := Nat.pos_of_ne_zero fun z => q ((own_nz h).mpr z)
theorem own_ltN {a b : Int32} {n k : Nat} (h1 : a.toInt = (n : Int)) (h2 : b.toInt = (k : Int)) : a < b ↔ n < k := by
  rw [Int32.lt_iff_toInt_lt, h1, h2]
  omega
theorem own_last {len : Int32} {n : Nat} (h : len.toInt = (n : Int)) (h0 : 0 < n) : (len - 1).toInt = ((n - 1 : Nat) : Int) := by
  have a := c_isub len 1
  have b := (len - 1).toInt_lt
  have c := (len - 1).le_toInt
  have d := len.toInt_lt
  have k1 : (1 : Int32).toInt = 1 := rfl
  omega
theorem own_mid {a b : Int32} {n k : Nat} (h1 : a.toInt = (n : Int)) (h2 : b.toInt = (k : Int)) (h : n + k < 1000) : (ushrI (a + b) 1).toInt = (((n + k) / 2 : Nat) : Int) := by
  have c := c_iadd a b
  have d := (a + b).toInt_lt
  have e := (a + b).le_toInt
  have f := ushrI_c (a + b) 1 1 (by decide) (by decide)
  omega
/-- the bucket of a value between the first and the last -/
theorem own_buck {xs : List Int64} {sh : Int32} {k : Nat} {v : Int64} (h : own_srt xs) (hk : sh.toInt = (k : Int)) (h61 : k ≤ 61) (hn : 0 < xs.length) (hb : own_bn xs k < 2 * xs.length + 1) (h1 : xs.getD 0 0 < v) (h2 : ¬ xs.getD (xs.length - 1) 0 < v) :
    ∃ b : Nat, (ushrL (v - xs.getD 0 0) sh).toInt32.toInt = (b : Int) ∧ b < own_bn xs k + 1 ∧ own_st xs k b ≤ v.toInt ∧ v.toInt < own_st xs k (b + 1) := by
  have b := own_R_b h
  have b3 := b.2.2 hn
  rw [Int64.lt_iff_toInt_lt] at h1 h2
  have h3 := h.2.2.1
  have h4 := h.1
  have c1 := c_lsub v (xs.getD 0 0)
  have c2 := (v - xs.getD 0 0).toInt_lt
  have c3 := (v - xs.getD 0 0).le_toInt
  have e1 : (v - xs.getD 0 0).toInt = v.toInt - (xs.getD 0 0).toInt := by omega
  obtain ⟨d, hd⟩ := Int.eq_ofNat_of_zero_le (a := v.toInt - (xs.getD 0 0).toInt) (by omega)
  have e2 := own_ush (x := v - xs.getD 0 0) hk (by omega) (by omega)
  rw [own_div (by omega), e1, hd, Int.toNat_natCast] at e2
  have m0 : d ≤ (own_R xs).toInt.toNat := by omega
  have m1 : d / 2 ^ k ≤ own_bn xs k := Nat.div_le_div_right m0
  have m2 := Nat.div_add_mod d (2 ^ k)
  have m3 := Nat.mod_lt d (Nat.pow_pos (by decide : 0 < 2) : 0 < 2 ^ k)
  rw [Nat.mul_comm] at m2
  have c4 := c_l2i (ushrL (v - xs.getD 0 0) sh)
  have c5 := (ushrL (v - xs.getD 0 0) sh).toInt32.toInt_lt
  have c6 := (ushrL (v - xs.getD 0 0) sh).toInt32.le_toInt
  generalize d / 2 ^ k = b' at *
  refine ⟨b', by omega, by omega, ?_, ?_⟩
  · unfold own_st
    rw [if_neg (by omega), ← Int.natCast_mul]
    generalize d % 2 ^ k = r at *
    generalize b' * 2 ^ k = y at *
    omega
  · unfold own_st
    rw [if_neg (by omega), ← Int.natCast_mul, Nat.add_mul, Nat.one_mul]
    generalize d % 2 ^ k = r at *
    generalize b' * 2 ^ k = y at *
    generalize 2 ^ k = P at *
    omega
theorem own_sum0 (q0 q1 q2 q3 v : Int64) {z : Int32} {j : Nat} (hz : z.toInt = (j : Int)) (h : own_cn ([] : List Int64) j v.toInt) : z = (((own_below 0 0 q0 v + own_below 0 1 q1 v) + own_below 0 2 q2 v) + own_below 0 3 q3 v) := by
  obtain ⟨h1, h2, h3⟩ := h
  simp only [List.length_cons, List.length_nil] at h1 h3
  have e0 : own_below 0 0 q0 v = 0 := by unfold own_below; rw [if_neg (by decide)]
  have e1 : own_below 0 1 q1 v = 0 := by unfold own_below; rw [if_neg (by decide)]
  have e2 : own_below 0 2 q2 v = 0 := by unfold own_below; rw [if_neg (by decide)]
  have e3 : own_below 0 3 q3 v = 0 := by unfold own_below; rw [if_neg (by decide)]
  rw [e0, e1, e2, e3]
  have k0 : z = 0 ∨ z = 1 ∨ z = 2 ∨ z = 3 ∨ z = 4 := by
    simp only [← Int32.toInt_inj, hz, show (0 : Int32).toInt = 0 from rfl, show (1 : Int32).toInt = 1 from rfl, show (2 : Int32).toInt = 2 from rfl, show (3 : Int32).toInt = 3 from rfl, show (4 : Int32).toInt = 4 from rfl]
    omega
  rcases k0 with rfl | rfl | rfl | rfl | rfl
  · have hj : j = 0 := by
      have h9 : (0 : Int32).toInt = 0 := rfl
      omega
    subst hj
    rfl
  · exfalso
    have h9 : (1 : Int32).toInt = 1 := rfl
    omega
  · exfalso
    have h9 : (2 : Int32).toInt = 2 := rfl
    omega
  · exfalso
    have h9 : (3 : Int32).toInt = 3 := rfl
    omega
  · exfalso
    have h9 : (4 : Int32).toInt = 4 := rfl
    omega
theorem own_sum1 (q0 q1 q2 q3 v : Int64) {z : Int32} {j : Nat} (hz : z.toInt = (j : Int)) (h : own_cn [q0] j v.toInt) : z = (((own_below 1 0 q0 v + own_below 1 1 q1 v) + own_below 1 2 q2 v) + own_below 1 3 q3 v) := by
  obtain ⟨h1, h2, h3⟩ := h
  simp only [List.length_cons, List.length_nil] at h1 h3
  have a0 : 0 < j → q0.toInt < v.toInt := fun u => by simpa using h2 0 u
  have b0 : j ≤ 0 → v.toInt ≤ q0.toInt := fun u => by simpa using h3 0 u (by decide)
  have e0 : own_below 1 0 q0 v = if q0.toInt < v.toInt then 1 else 0 := by unfold own_below; rw [if_pos (by decide)]; simp only [Int64.lt_iff_toInt_lt]
  have e1 : own_below 1 1 q1 v = 0 := by unfold own_below; rw [if_neg (by decide)]
  have e2 : own_below 1 2 q2 v = 0 := by unfold own_below; rw [if_neg (by decide)]
  have e3 : own_below 1 3 q3 v = 0 := by unfold own_below; rw [if_neg (by decide)]
  rw [e0, e1, e2, e3]
  have k0 : z = 0 ∨ z = 1 ∨ z = 2 ∨ z = 3 ∨ z = 4 := by
    simp only [← Int32.toInt_inj, hz, show (0 : Int32).toInt = 0 from rfl, show (1 : Int32).toInt = 1 from rfl, show (2 : Int32).toInt = 2 from rfl, show (3 : Int32).toInt = 3 from rfl, show (4 : Int32).toInt = 4 from rfl]
    omega
  rcases k0 with rfl | rfl | rfl | rfl | rfl
  · have hj : j = 0 := by
      have h9 : (0 : Int32).toInt = 0 := rfl
      omega
    subst hj
    rw [if_neg (by first | exact a0 (by decide) | (have := b0 (by decide); omega))]
    rfl
  · have hj : j = 1 := by
      have h9 : (1 : Int32).toInt = 1 := rfl
      omega
    subst hj
    rw [if_pos (by first | exact a0 (by decide) | (have := b0 (by decide); omega))]
    rfl
  · exfalso
    have h9 : (2 : Int32).toInt = 2 := rfl
    omega
  · exfalso
    have h9 : (3 : Int32).toInt = 3 := rfl
    omega
  · exfalso
    have h9 : (4 : Int32).toInt = 4 := rfl
    omega
theorem own_sum2 (q0 q1 q2 q3 v : Int64) {z : Int32} {j : Nat} (hz : z.toInt = (j : Int)) (h : own_cn [q0, q1] j v.toInt) : z = (((own_below 2 0 q0 v + own_below 2 1 q1 v) + own_below 2 2 q2 v) + own_below 2 3 q3 v) := by
  obtain ⟨h1, h2, h3⟩ := h
  simp only [List.length_cons, List.length_nil] at h1 h3
  have a0 : 0 < j → q0.toInt < v.toInt := fun u => by simpa using h2 0 u
  have b0 : j ≤ 0 → v.toInt ≤ q0.toInt := fun u => by simpa using h3 0 u (by decide)
  have a1 : 1 < j → q1.toInt < v.toInt := fun u => by simpa using h2 1 u
  have b1 : j ≤ 1 → v.toInt ≤ q1.toInt := fun u => by simpa using h3 1 u (by decide)
  have e0 : own_below 2 0 q0 v = if q0.toInt < v.toInt then 1 else 0 := by unfold own_below; rw [if_pos (by decide)]; simp only [Int64.lt_iff_toInt_lt]
  have e1 : own_below 2 1 q1 v = if q1.toInt < v.toInt then 1 else 0 := by unfold own_below; rw [if_pos (by decide)]; simp only [Int64.lt_iff_toInt_lt]
  have e2 : own_below 2 2 q2 v = 0 := by unfold own_below; rw [if_neg (by decide)]
  have e3 : own_below 2 3 q3 v = 0 := by unfold own_below; rw [if_neg (by decide)]
  rw [e0, e1, e2, e3]
  have k0 : z = 0 ∨ z = 1 ∨ z = 2 ∨ z = 3 ∨ z = 4 := by
    simp only [← Int32.toInt_inj, hz, show (0 : Int32).toInt = 0 from rfl, show (1 : Int32).toInt = 1 from rfl, show (2 : Int32).toInt = 2 from rfl, show (3 : Int32).toInt = 3 from rfl, show (4 : Int32).toInt = 4 from rfl]
    omega
  rcases k0 with rfl | rfl | rfl | rfl | rfl
  · have hj : j = 0 := by
      have h9 : (0 : Int32).toInt = 0 := rfl
      omega
    subst hj
    rw [if_neg (by first | exact a0 (by decide) | (have := b0 (by decide); omega))]
    rw [if_neg (by first | exact a1 (by decide) | (have := b1 (by decide); omega))]
    rfl
  · have hj : j = 1 := by
      have h9 : (1 : Int32).toInt = 1 := rfl
      omega
    subst hj
    rw [if_pos (by first | exact a0 (by decide) | (have := b0 (by decide); omega))]
    rw [if_neg (by first | exact a1 (by decide) | (have := b1 (by decide); omega))]
    rfl
  · have hj : j = 2 := by
      have h9 : (2 : Int32).toInt = 2 := rfl
      omega
    subst hj
    rw [if_pos (by first | exact a0 (by decide) | (have := b0 (by decide); omega))]
    rw [if_pos (by first | exact a1 (by decide) | (have := b1 (by decide); omega))]
    rfl
  · exfalso
    have h9 : (3 : Int32).toInt = 3 := rfl
    omega
  · exfalso
    have h9 : (4 : Int32).toInt = 4 := rfl
    omega
theorem own_sum3 (q0 q1 q2 q3 v : Int64) {z : Int32} {j : Nat} (hz : z.toInt = (j : Int)) (h : own_cn [q0, q1, q2] j v.toInt) : z = (((own_below 3 0 q0 v + own_below 3 1 q1 v) + own_below 3 2 q2 v) + own_below 3 3 q3 v) := by
  obtain ⟨h1, h2, h3⟩ := h
  simp only [List.length_cons, List.length_nil] at h1 h3
  have a0 : 0 < j → q0.toInt < v.toInt := fun u => by simpa using h2 0 u
  have b0 : j ≤ 0 → v.toInt ≤ q0.toInt := fun u => by simpa using h3 0 u (by decide)
  have a1 : 1 < j → q1.toInt < v.toInt := fun u => by simpa using h2 1 u
  have b1 : j ≤ 1 → v.toInt ≤ q1.toInt := fun u => by simpa using h3 1 u (by decide)
  have a2 : 2 < j → q2.toInt < v.toInt := fun u => by simpa using h2 2 u
  have b2 : j ≤ 2 → v.toInt ≤ q2.toInt := fun u => by simpa using h3 2 u (by decide)
  have e0 : own_below 3 0 q0 v = if q0.toInt < v.toInt then 1 else 0 := by unfold own_below; rw [if_pos (by decide)]; simp only [Int64.lt_iff_toInt_lt]
  have e1 : own_below 3 1 q1 v = if q1.toInt < v.toInt then 1 else 0 := by unfold own_below; rw [if_pos (by decide)]; simp only [Int64.lt_iff_toInt_lt]
  have e2 : own_below 3 2 q2 v = if q2.toInt < v.toInt then 1 else 0 := by unfold own_below; rw [if_pos (by decide)]; simp only [Int64.lt_iff_toInt_lt]
  have e3 : own_below 3 3 q3 v = 0 := by unfold own_below; rw [if_neg (by decide)]
  rw [e0, e1, e2, e3]
  have k0 : z = 0 ∨ z = 1 ∨ z = 2 ∨ z = 3 ∨ z = 4 := by
    simp only [← Int32.toInt_inj, hz, show (0 : Int32).toInt = 0 from rfl, show (1 : Int32).toInt = 1 from rfl, show (2 : Int32).toInt = 2 from rfl, show (3 : Int32).toInt = 3 from rfl, show (4 : Int32).toInt = 4 from rfl]
    omega
  rcases k0 with rfl | rfl | rfl | rfl | rfl
  · have hj : j = 0 := by
      have h9 : (0 : Int32).toInt = 0 := rfl
      omega
    subst hj
    rw [if_neg (by first | exact a0 (by decide) | (have := b0 (by decide); omega))]
    rw [if_neg (by first | exact a1 (by decide) | (have := b1 (by decide); omega))]
    rw [if_neg (by first | exact a2 (by decide) | (have := b2 (by decide); omega))]
    rfl
  · have hj : j = 1 := by
      have h9 : (1 : Int32).toInt = 1 := rfl
      omega
    subst hj
    rw [if_pos (by first | exact a0 (by decide) | (have := b0 (by decide); omega))]
    rw [if_neg (by first | exact a1 (by decide) | (have := b1 (by decide); omega))]
    rw [if_neg (by first | exact a2 (by decide) | (have := b2 (by decide); omega))]
    rfl
  · have hj : j = 2 := by
      have h9 : (2 : Int32).toInt = 2 := rfl
      omega
    subst hj
    rw [if_pos (by first | exact a0 (by decide) | (have := b0 (by decide); omega))]
    rw [if_pos (by first | exact a1 (by decide) | (have := b1 (by decide); omega))]
    rw [if_neg (by first | exact a2 (by decide) | (have := b2 (by decide); omega))]
    rfl
  · have hj : j = 3 := by
      have h9 : (3 : Int32).toInt = 3 := rfl
      omega
    subst hj
    rw [if_pos (by first | exact a0 (by decide) | (have := b0 (by decide); omega))]
    rw [if_pos (by first | exact a1 (by decide) | (have := b1 (by decide); omega))]
    rw [if_pos (by first | exact a2 (by decide) | (have := b2 (by decide); omega))]
    rfl
  · exfalso
    have h9 : (4 : Int32).toInt = 4 := rfl
    omega
theorem own_sum4 (q0 q1 q2 q3 v : Int64) {z : Int32} {j : Nat} (hz : z.toInt = (j : Int)) (h : own_cn [q0, q1, q2, q3] j v.toInt) : z = (((own_below 4 0 q0 v + own_below 4 1 q1 v) + own_below 4 2 q2 v) + own_below 4 3 q3 v) := by
  obtain ⟨h1, h2, h3⟩ := h
  simp only [List.length_cons, List.length_nil] at h1 h3
  have a0 : 0 < j → q0.toInt < v.toInt := fun u => by simpa using h2 0 u
  have b0 : j ≤ 0 → v.toInt ≤ q0.toInt := fun u => by simpa using h3 0 u (by decide)
  have a1 : 1 < j → q1.toInt < v.toInt := fun u => by simpa using h2 1 u
  have b1 : j ≤ 1 → v.toInt ≤ q1.toInt := fun u => by simpa using h3 1 u (by decide)
  have a2 : 2 < j → q2.toInt < v.toInt := fun u => by simpa using h2 2 u
  have b2 : j ≤ 2 → v.toInt ≤ q2.toInt := fun u => by simpa using h3 2 u (by decide)
  have a3 : 3 < j → q3.toInt < v.toInt := fun u => by simpa using h2 3 u
  have b3 : j ≤ 3 → v.toInt ≤ q3.toInt := fun u => by simpa using h3 3 u (by decide)
  have e0 : own_below 4 0 q0 v = if q0.toInt < v.toInt then 1 else 0 := by unfold own_below; rw [if_pos (by decide)]; simp only [Int64.lt_iff_toInt_lt]
  have e1 : own_below 4 1 q1 v = if q1.toInt < v.toInt then 1 else 0 := by unfold own_below; rw [if_pos (by decide)]; simp only [Int64.lt_iff_toInt_lt]
  have e2 : own_below 4 2 q2 v = if q2.toInt < v.toInt then 1 else 0 := by unfold own_below; rw [if_pos (by decide)]; simp only [Int64.lt_iff_toInt_lt]
  have e3 : own_below 4 3 q3 v = if q3.toInt < v.toInt then 1 else 0 := by unfold own_below; rw [if_pos (by decide)]; simp only [Int64.lt_iff_toInt_lt]
  rw [e0, e1, e2, e3]
  have k0 : z = 0 ∨ z = 1 ∨ z = 2 ∨ z = 3 ∨ z = 4 := by
    simp only [← Int32.toInt_inj, hz, show (0 : Int32).toInt = 0 from rfl, show (1 : Int32).toInt = 1 from rfl, show (2 : Int32).toInt = 2 from rfl, show (3 : Int32).toInt = 3 from rfl, show (4 : Int32).toInt = 4 from rfl]
    omega
  rcases k0 with rfl | rfl | rfl | rfl | rfl
  · have hj : j = 0 := by
      have h9 : (0 : Int32).toInt = 0 := rfl
      omega
    subst hj
    rw [if_neg (by first | exact a0 (by decide) | (have := b0 (by decide); omega))]
    rw [if_neg (by first | exact a1 (by decide) | (have := b1 (by decide); omega))]
    rw [if_neg (by first | exact a2 (by decide) | (have := b2 (by decide); omega))]
    rw [if_neg (by first | exact a3 (by decide) | (have := b3 (by decide); omega))]
    rfl
  · have hj : j = 1 := by
      have h9 : (1 : Int32).toInt = 1 := rfl
      omega
    subst hj
    rw [if_pos (by first | exact a0 (by decide) | (have := b0 (by decide); omega))]
    rw [if_neg (by first | exact a1 (by decide) | (have := b1 (by decide); omega))]
    rw [if_neg (by first | exact a2 (by decide) | (have := b2 (by decide); omega))]
    rw [if_neg (by first | exact a3 (by decide) | (have := b3 (by decide); omega))]
    rfl
  · have hj : j = 2 := by
      have h9 : (2 : Int32).toInt = 2 := rfl
      omega
    subst hj
    rw [if_pos (by first | exact a0 (by decide) | (have := b0 (by decide); omega))]
    rw [if_pos (by first | exact a1 (by decide) | (have := b1 (by decide); omega))]
    rw [if_neg (by first | exact a2 (by decide) | (have := b2 (by decide); omega))]
    rw [if_neg (by first | exact a3 (by decide) | (have := b3 (by decide); omega))]
    rfl
  · have hj : j = 3 := by
      have h9 : (3 : Int32).toInt = 3 := rfl
      omega
    subst hj
    rw [if_pos (by first | exact a0 (by decide) | (have := b0 (by decide); omega))]
    rw [if_pos (by first | exact a1 (by decide) | (have := b1 (by decide); omega))]
    rw [if_pos (by first | exact a2 (by decide) | (have := b2 (by decide); omega))]
    rw [if_neg (by first | exact a3 (by decide) | (have := b3 (by decide); omega))]
    rfl
  · have hj : j = 4 := by
      have h9 : (4 : Int32).toInt = 4 := rfl
      omega
    subst hj
    rw [if_pos (by first | exact a0 (by decide) | (have := b0 (by decide); omega))]
    rw [if_pos (by first | exact a1 (by decide) | (have := b1 (by decide); omega))]
    rw [if_pos (by first | exact a2 (by decide) | (have := b2 (by decide); omega))]
    rw [if_pos (by first | exact a3 (by decide) | (have := b3 (by decide); omega))]
    rfl
theorem own_n5 (z : Int32) : (z &&& 7) % 5 = 0 ∨ (z &&& 7) % 5 = 1 ∨ (z &&& 7) % 5 = 2 ∨ (z &&& 7) % 5 = 3 ∨ (z &&& 7) % 5 = 4 := by
  have h1 := c_mask z 7 3 (by decide) (by decide)
  have h2 := (c_irem (z &&& 7) 5 5 rfl).1 (by omega)
  have k0 : (0 : Int32).toInt = 0 := rfl
  have k1 : (1 : Int32).toInt = 1 := rfl
  have k2 : (2 : Int32).toInt = 2 := rfl
  have k3 : (3 : Int32).toInt = 3 := rfl
  have k4 : (4 : Int32).toInt = 4 := rfl
  simp only [← Int32.toInt_inj, k0, k1, k2, k3, k4]
  omega
/-- the four values of the law -/
def own_four (q0 q1 q2 q3 : Int64) : Prop := (-2305843009213693952 ≤ q0.toInt ∧ q0.toInt < 2305843009213693952) ∧ q0.toInt ≤ q1.toInt ∧ q1.toInt ≤ q2.toInt ∧ q2.toInt ≤ q3.toInt ∧ q3.toInt - q0.toInt < 2305843009213693952
theorem own_fourOf (b : Int64) (g1 g2 g3 : Int32) : own_four (shrL b 2) (shrL b 2 + own_gap g1) (shrL b 2 + own_gap g1 + own_gap g2) (shrL b 2 + own_gap g1 + own_gap g2 + own_gap g3) := by
  have h := shrL_c b 2 2 (by decide)
  have a := b.toInt_lt
  have c := b.le_toInt
  have e1 := own_gap_b g1
  have e2 := own_gap_b g2
  have e3 := own_gap_b g3
  have f1 := c_ladd (shrL b 2) (own_gap g1)
  have f2 := c_ladd (shrL b 2 + own_gap g1) (own_gap g2)
  have f3 := c_ladd (shrL b 2 + own_gap g1 + own_gap g2) (own_gap g3)
  have i1 := (shrL b 2 + own_gap g1).toInt_lt
  have i2 := (shrL b 2 + own_gap g1).le_toInt
  have i3 := (shrL b 2 + own_gap g1 + own_gap g2).toInt_lt
  have i4 := (shrL b 2 + own_gap g1 + own_gap g2).le_toInt
  have i5 := (shrL b 2 + own_gap g1 + own_gap g2 + own_gap g3).toInt_lt
  have i6 := (shrL b 2 + own_gap g1 + own_gap g2 + own_gap g3).le_toInt
  unfold own_four
  omega
theorem own_dv {q0 q1 q2 q3 : Int64} (h : own_four q0 q1 q2 q3) : ¬ (q3 - q0 + 1 = 0) := by
  obtain ⟨h1, h2, h3, h4, h5⟩ := h
  rw [← Int64.toInt_inj]
  have a := c_lsub q3 q0
  have b := c_ladd (q3 - q0) 1
  have c1 := (q3 - q0).toInt_lt
  have c2 := (q3 - q0).le_toInt
  have c3 := (q3 - q0 + 1).toInt_lt
  have c4 := (q3 - q0 + 1).le_toInt
  have k1 : (1 : Int64).toInt = 1 := rfl
  have k0 : (0 : Int64).toInt = 0 := rfl
  omega
theorem own_srt0 {q0 q1 q2 q3 : Int64} (h : own_four q0 q1 q2 q3) : own_srt ([] : List Int64) := by
  obtain ⟨h1, h2, h3, h4, h5⟩ := h
  refine ⟨Nat.le_of_ble_eq_true rfl, fun i j hij hj => ?_, ?_, fun j hj => ?_⟩
  · exact absurd hj (Nat.not_lt_zero _)
  · exact ⟨by decide, by decide⟩
  · exact absurd hj (Nat.not_lt_zero _)
theorem own_srt1 {q0 q1 q2 q3 : Int64} (h : own_four q0 q1 q2 q3) : own_srt [q0] := by
  obtain ⟨h1, h2, h3, h4, h5⟩ := h
  refine ⟨Nat.le_of_ble_eq_true rfl, fun i j hij hj => ?_, ?_, fun j hj => ?_⟩
  · simp only [List.length_cons, List.length_nil] at hj
    rcases j with _ | _ <;> rcases i with _ | _ <;> first | (exfalso; omega) | (simp only [List.getD_cons_zero, List.getD_cons_succ]; omega)
  · exact h1
  · simp only [List.length_cons, List.length_nil] at hj
    rcases j with _ | _ <;> first | (exfalso; omega) | (simp only [List.getD_cons_zero, List.getD_cons_succ]; omega)
theorem own_srt2 {q0 q1 q2 q3 : Int64} (h : own_four q0 q1 q2 q3) : own_srt [q0, q1] := by
  obtain ⟨h1, h2, h3, h4, h5⟩ := h
  refine ⟨Nat.le_of_ble_eq_true rfl, fun i j hij hj => ?_, ?_, fun j hj => ?_⟩
  · simp only [List.length_cons, List.length_nil] at hj
    rcases j with _ | _ | _ <;> rcases i with _ | _ | _ <;> first | (exfalso; omega) | (simp only [List.getD_cons_zero, List.getD_cons_succ]; omega)
  · exact h1
  · simp only [List.length_cons, List.length_nil] at hj
    rcases j with _ | _ | _ <;> first | (exfalso; omega) | (simp only [List.getD_cons_zero, List.getD_cons_succ]; omega)
theorem own_srt3 {q0 q1 q2 q3 : Int64} (h : own_four q0 q1 q2 q3) : own_srt [q0, q1, q2] := by
  obtain ⟨h1, h2, h3, h4, h5⟩ := h
  refine ⟨Nat.le_of_ble_eq_true rfl, fun i j hij hj => ?_, ?_, fun j hj => ?_⟩
  · simp only [List.length_cons, List.length_nil] at hj
    rcases j with _ | _ | _ | _ <;> rcases i with _ | _ | _ | _ <;> first | (exfalso; omega) | (simp only [List.getD_cons_zero, List.getD_cons_succ]; omega)
  · exact h1
  · simp only [List.length_cons, List.length_nil] at hj
    rcases j with _ | _ | _ | _ <;> first | (exfalso; omega) | (simp only [List.getD_cons_zero, List.getD_cons_succ]; omega)
theorem own_srt4 {q0 q1 q2 q3 : Int64} (h : own_four q0 q1 q2 q3) : own_srt [q0, q1, q2, q3] := by
  obtain ⟨h1, h2, h3, h4, h5⟩ := h
  refine ⟨Nat.le_of_ble_eq_true rfl, fun i j hij hj => ?_, ?_, fun j hj => ?_⟩
  · simp only [List.length_cons, List.length_nil] at hj
    rcases j with _ | _ | _ | _ | _ <;> rcases i with _ | _ | _ | _ | _ <;> first | (exfalso; omega) | (simp only [List.getD_cons_zero, List.getD_cons_succ]; omega)
  · exact h1
  · simp only [List.length_cons, List.length_nil] at hj
    rcases j with _ | _ | _ | _ | _ <;> first | (exfalso; omega) | (simp only [List.getD_cons_zero, List.getD_cons_succ]; omega)
abbrev O_SortedLongs (f0 : Value) (f1 : Value) (f2 : Value) : Obj := .inl ("com/example/leadhorizon/leadhorizon/calendar/SortedLongs", [("com/example/leadhorizon/leadhorizon/calendar/SortedLongs", "values", "[J", f0), ("com/example/leadhorizon/leadhorizon/calendar/SortedLongs", "shift", "I", f1), ("com/example/leadhorizon/leadhorizon/calendar/SortedLongs", "buckets", "[I", f2)])
theorem d1_0 : decode method_3_code 0 = .ok (.iload_n 0, 1) := by decide +kernel
theorem d1_1 : decode method_3_code 1 = .ok (.sipush 255, 3) := by decide +kernel
theorem d1_4 : decode method_3_code 4 = .ok (.iand, 1) := by decide +kernel
theorem d1_5 : decode method_3_code 5 = .ok (.i2l, 1) := by decide +kernel
theorem d1_6 : decode method_3_code 6 = .ok (.iload_n 0, 1) := by decide +kernel
theorem d1_7 : decode method_3_code 7 = .ok (.bipush 8, 2) := by decide +kernel
theorem d1_9 : decode method_3_code 9 = .ok (.iushr, 1) := by decide +kernel
theorem d1_10 : decode method_3_code 10 = .ok (.bipush 52, 2) := by decide +kernel
theorem d1_12 : decode method_3_code 12 = .ok (.irem, 1) := by decide +kernel
theorem d1_13 : decode method_3_code 13 = .ok (.lshl, 1) := by decide +kernel
theorem d1_14 : decode method_3_code 14 = .ok (.lreturn, 1) := by decide +kernel
theorem pn_1 : plainFor (⟨"com/example/leadhorizon/leadhorizon/calendar/SortedLongsCountBelowPinLaw", "gap", "(I)J"⟩ : MethodName) = true := plainFor_of_name (by first | (simp [plainName, overriddenIn]; done) | decide +kernel)
set_option maxRecDepth 65536 in
set_option maxHeartbeats 40000000 in
theorem rm1 (l : Launch) (Z : State) (a0 : Array Value) (hw : ∀ d ∈ tables_1, d.before a0 Z = true) (n0 : Nat) (g : Int32) (L : HL)  :
    Con l (⟨"com/example/leadhorizon/leadhorizon/calendar/SortedLongsCountBelowPinLaw", "gap", "(I)J"⟩ : MethodName) method_3_code 1 (some .long) ({ frames := 0, cells := 0, slots := 0, locals := 0 } : Room) Z n0 #[(.int g)] L (fun v L' => v = some (.long (own_gap g)) ∧ L' = L) := by
  refine Con.of (ws := tables_1) (a0 := a0) pn_1 hw ?_
  intro p e s m below meth cde T kb w
  refine g_entry #[.val (.int g)] (by first | (simp [entryFrame, mkF, argsToLocals, Value.category]; done) | rfl) ?_
  refine g_iloadN w d1_0 rfl 1 rfl ?_
  refine g_sipush w d1_1 (255 : Int32) rfl 4 rfl ?_
  refine g_iand w d1_4 5 rfl ?_
  refine g_i2l w d1_5 6 rfl ?_
  refine g_iloadN w d1_6 rfl 7 rfl ?_
  refine g_bipush w d1_7 (8 : Int32) rfl 9 rfl ?_
  refine g_iushr w d1_9 10 rfl ?_
  refine g_bipush w d1_10 (52 : Int32) rfl 12 rfl ?_
  refine g_irem w d1_12 (by decide) 13 rfl ?_
  refine g_lshl w d1_13 14 rfl ?_
  exact g_lret w d1_14 (by decide) (by decide) ⟨rfl, rfl⟩
theorem d2_0 : decode method_4_code 0 = .ok (.iload_n 1, 1) := by decide +kernel
theorem d2_1 : decode method_4_code 1 = .ok (.iload_n 0, 1) := by decide +kernel
theorem d2_2 : decode method_4_code 2 = .ok (.if_icmp .ge 14, 3) := by decide +kernel
theorem d2_5 : decode method_4_code 5 = .ok (.lload_n 2, 1) := by decide +kernel
theorem d2_6 : decode method_4_code 6 = .ok (.lload 4, 2) := by decide +kernel
theorem d2_8 : decode method_4_code 8 = .ok (.lcmp, 1) := by decide +kernel
theorem d2_9 : decode method_4_code 9 = .ok (.ifCond .ge 7, 3) := by decide +kernel
theorem d2_12 : decode method_4_code 12 = .ok (.iconst 1, 1) := by decide +kernel
theorem d2_13 : decode method_4_code 13 = .ok (.goto 4, 3) := by decide +kernel
theorem d2_16 : decode method_4_code 16 = .ok (.iconst 0, 1) := by decide +kernel
theorem d2_17 : decode method_4_code 17 = .ok (.ireturn, 1) := by decide +kernel
theorem pn_2 : plainFor (⟨"com/example/leadhorizon/leadhorizon/calendar/SortedLongsCountBelowPinLaw", "below", "(IIJJ)I"⟩ : MethodName) = true := plainFor_of_name (by first | (simp [plainName, overriddenIn]; done) | decide +kernel)
set_option maxRecDepth 65536 in
set_option maxHeartbeats 40000000 in
theorem rm2 (l : Launch) (Z : State) (a0 : Array Value) (hw : ∀ d ∈ tables_1, d.before a0 Z = true) (n0 : Nat) (n i : Int32) (q r : Int64) (L : HL)  :
    Con l (⟨"com/example/leadhorizon/leadhorizon/calendar/SortedLongsCountBelowPinLaw", "below", "(IIJJ)I"⟩ : MethodName) method_4_code 6 (some .int) ({ frames := 0, cells := 0, slots := 0, locals := 0 } : Room) Z n0 #[(.int n), (.int i), (.long q), (.long r)] L (fun v L' => v = some (.int (own_below n i q r)) ∧ L' = L) := by
  refine Con.of (ws := tables_1) (a0 := a0) pn_2 hw ?_
  intro p e s m below meth cde T kb w
  refine g_entry #[.val (.int n), .val (.int i), .val (.long q), .second, .val (.long r), .second] (by first | (simp [entryFrame, mkF, argsToLocals, Value.category]; done) | rfl) ?_
  refine g_iloadN w d2_0 rfl 1 rfl ?_
  refine g_iloadN w d2_1 rfl 2 rfl ?_
  refine g_icmp_ge w d2_2 16 (by decide) (by decide) 5 rfl (fun hc2 => ?_) (fun hc2 => ?_)
  · -- pc 16 (taken: not i < n)
    refine g_iconst w d2_16 (0 : Int32) rfl 17 rfl ?_
    exact g_ireti w d2_17 (by decide) (by decide) ⟨congrArg (fun z => some (Value.int z)) (by simp [own_below, *]), rfl⟩
  · -- pc 5 (on: i < n)
    refine g_lloadN w d2_5 rfl 6 rfl ?_
    refine g_lload w d2_6 rfl 8 rfl ?_
    refine g_lcmp w d2_8 9 rfl ?_
    refine g_lif_ge w d2_9 16 (by decide) (by decide) 12 rfl (fun hc9 => ?_) (fun hc9 => ?_)
    · -- pc 16 (taken: not q < r)
      refine g_iconst w d2_16 (0 : Int32) rfl 17 rfl ?_
      exact g_ireti w d2_17 (by decide) (by decide) ⟨congrArg (fun z => some (Value.int z)) (by simp [own_below, *]), rfl⟩
    · -- pc 12 (on: q < r)
      refine g_iconst w d2_12 (1 : Int32) rfl 13 rfl ?_
      refine g_goto w d2_13 17 (by decide) (by decide) ?_
      exact g_ireti w d2_17 (by decide) (by decide) ⟨congrArg (fun z => some (Value.int z)) (by simp [own_below, *]), rfl⟩
theorem d3_0 : decode prog_12_method_1_code 0 = .ok (.aload_n 0, 1) := by decide +kernel
theorem d3_1 : decode prog_12_method_1_code 1 = .ok (.invokespecial 1, 3) := by decide +kernel
theorem d3_4 : decode prog_12_method_1_code 4 = .ok (.aload_n 0, 1) := by decide +kernel
theorem d3_5 : decode prog_12_method_1_code 5 = .ok (.aload_n 1, 1) := by decide +kernel
theorem d3_6 : decode prog_12_method_1_code 6 = .ok (.putfield 7, 3) := by decide +kernel
theorem d3_9 : decode prog_12_method_1_code 9 = .ok (.aload_n 1, 1) := by decide +kernel
theorem d3_10 : decode prog_12_method_1_code 10 = .ok (.arraylength, 1) := by decide +kernel
theorem d3_11 : decode prog_12_method_1_code 11 = .ok (.ifCond .ne 7, 3) := by decide +kernel
theorem d3_14 : decode prog_12_method_1_code 14 = .ok (.lconst 0, 1) := by decide +kernel
theorem d3_15 : decode prog_12_method_1_code 15 = .ok (.goto 13, 3) := by decide +kernel
theorem d3_18 : decode prog_12_method_1_code 18 = .ok (.aload_n 1, 1) := by decide +kernel
theorem d3_19 : decode prog_12_method_1_code 19 = .ok (.aload_n 1, 1) := by decide +kernel
theorem d3_20 : decode prog_12_method_1_code 20 = .ok (.arraylength, 1) := by decide +kernel
theorem d3_21 : decode prog_12_method_1_code 21 = .ok (.iconst 1, 1) := by decide +kernel
theorem d3_22 : decode prog_12_method_1_code 22 = .ok (.isub, 1) := by decide +kernel
theorem d3_23 : decode prog_12_method_1_code 23 = .ok (.laload, 1) := by decide +kernel
theorem d3_24 : decode prog_12_method_1_code 24 = .ok (.aload_n 1, 1) := by decide +kernel
theorem d3_25 : decode prog_12_method_1_code 25 = .ok (.iconst 0, 1) := by decide +kernel
theorem d3_26 : decode prog_12_method_1_code 26 = .ok (.laload, 1) := by decide +kernel
theorem d3_27 : decode prog_12_method_1_code 27 = .ok (.lsub, 1) := by decide +kernel
theorem d3_28 : decode prog_12_method_1_code 28 = .ok (.lstore_n 2, 1) := by decide +kernel
theorem d3_29 : decode prog_12_method_1_code 29 = .ok (.iconst 0, 1) := by decide +kernel
theorem d3_30 : decode prog_12_method_1_code 30 = .ok (.istore 4, 2) := by decide +kernel
theorem d3_32 : decode prog_12_method_1_code 32 = .ok (.lload_n 2, 1) := by decide +kernel
theorem d3_33 : decode prog_12_method_1_code 33 = .ok (.iload 4, 2) := by decide +kernel
theorem d3_35 : decode prog_12_method_1_code 35 = .ok (.lushr, 1) := by decide +kernel
theorem d3_36 : decode prog_12_method_1_code 36 = .ok (.ldc2_w 13, 3) := by decide +kernel
theorem d3_39 : decode prog_12_method_1_code 39 = .ok (.aload_n 1, 1) := by decide +kernel
theorem d3_40 : decode prog_12_method_1_code 40 = .ok (.arraylength, 1) := by decide +kernel
theorem d3_41 : decode prog_12_method_1_code 41 = .ok (.i2l, 1) := by decide +kernel
theorem d3_42 : decode prog_12_method_1_code 42 = .ok (.lmul, 1) := by decide +kernel
theorem d3_43 : decode prog_12_method_1_code 43 = .ok (.lconst 1, 1) := by decide +kernel
theorem d3_44 : decode prog_12_method_1_code 44 = .ok (.ladd, 1) := by decide +kernel
theorem d3_45 : decode prog_12_method_1_code 45 = .ok (.lcmp, 1) := by decide +kernel
theorem d3_46 : decode prog_12_method_1_code 46 = .ok (.ifCond .lt 9, 3) := by decide +kernel
theorem d3_49 : decode prog_12_method_1_code 49 = .ok (.iinc 4 1, 3) := by decide +kernel
theorem d3_52 : decode prog_12_method_1_code 52 = .ok (.goto (-20), 3) := by decide +kernel
theorem d3_55 : decode prog_12_method_1_code 55 = .ok (.aload_n 0, 1) := by decide +kernel
theorem d3_56 : decode prog_12_method_1_code 56 = .ok (.iload 4, 2) := by decide +kernel
theorem d3_58 : decode prog_12_method_1_code 58 = .ok (.putfield 15, 3) := by decide +kernel
theorem d3_61 : decode prog_12_method_1_code 61 = .ok (.aload_n 0, 1) := by decide +kernel
theorem d3_62 : decode prog_12_method_1_code 62 = .ok (.lload_n 2, 1) := by decide +kernel
theorem d3_63 : decode prog_12_method_1_code 63 = .ok (.iload 4, 2) := by decide +kernel
theorem d3_65 : decode prog_12_method_1_code 65 = .ok (.lushr, 1) := by decide +kernel
theorem d3_66 : decode prog_12_method_1_code 66 = .ok (.l2i, 1) := by decide +kernel
theorem d3_67 : decode prog_12_method_1_code 67 = .ok (.iconst 2, 1) := by decide +kernel
theorem d3_68 : decode prog_12_method_1_code 68 = .ok (.iadd, 1) := by decide +kernel
theorem d3_69 : decode prog_12_method_1_code 69 = .ok (.newarray .int, 2) := by decide +kernel
theorem d3_71 : decode prog_12_method_1_code 71 = .ok (.putfield 19, 3) := by decide +kernel
theorem d3_74 : decode prog_12_method_1_code 74 = .ok (.iconst 0, 1) := by decide +kernel
theorem d3_75 : decode prog_12_method_1_code 75 = .ok (.istore 5, 2) := by decide +kernel
theorem d3_77 : decode prog_12_method_1_code 77 = .ok (.iconst 0, 1) := by decide +kernel
theorem d3_78 : decode prog_12_method_1_code 78 = .ok (.istore 6, 2) := by decide +kernel
theorem d3_80 : decode prog_12_method_1_code 80 = .ok (.iload 6, 2) := by decide +kernel
theorem d3_82 : decode prog_12_method_1_code 82 = .ok (.aload_n 0, 1) := by decide +kernel
theorem d3_83 : decode prog_12_method_1_code 83 = .ok (.getfield 19, 3) := by decide +kernel
theorem d3_86 : decode prog_12_method_1_code 86 = .ok (.arraylength, 1) := by decide +kernel
theorem d3_87 : decode prog_12_method_1_code 87 = .ok (.if_icmp .ge 62, 3) := by decide +kernel
theorem d3_90 : decode prog_12_method_1_code 90 = .ok (.aload_n 1, 1) := by decide +kernel
theorem d3_91 : decode prog_12_method_1_code 91 = .ok (.arraylength, 1) := by decide +kernel
theorem d3_92 : decode prog_12_method_1_code 92 = .ok (.ifCond .ne 7, 3) := by decide +kernel
theorem d3_95 : decode prog_12_method_1_code 95 = .ok (.lconst 0, 1) := by decide +kernel
theorem d3_96 : decode prog_12_method_1_code 96 = .ok (.goto 13, 3) := by decide +kernel
theorem d3_99 : decode prog_12_method_1_code 99 = .ok (.aload_n 1, 1) := by decide +kernel
theorem d3_100 : decode prog_12_method_1_code 100 = .ok (.iconst 0, 1) := by decide +kernel
theorem d3_101 : decode prog_12_method_1_code 101 = .ok (.laload, 1) := by decide +kernel
theorem d3_102 : decode prog_12_method_1_code 102 = .ok (.iload 6, 2) := by decide +kernel
theorem d3_104 : decode prog_12_method_1_code 104 = .ok (.i2l, 1) := by decide +kernel
theorem d3_105 : decode prog_12_method_1_code 105 = .ok (.iload 4, 2) := by decide +kernel
theorem d3_107 : decode prog_12_method_1_code 107 = .ok (.lshl, 1) := by decide +kernel
theorem d3_108 : decode prog_12_method_1_code 108 = .ok (.ladd, 1) := by decide +kernel
theorem d3_109 : decode prog_12_method_1_code 109 = .ok (.lstore 7, 2) := by decide +kernel
theorem d3_111 : decode prog_12_method_1_code 111 = .ok (.iload 5, 2) := by decide +kernel
theorem d3_113 : decode prog_12_method_1_code 113 = .ok (.aload_n 1, 1) := by decide +kernel
theorem d3_114 : decode prog_12_method_1_code 114 = .ok (.arraylength, 1) := by decide +kernel
theorem d3_115 : decode prog_12_method_1_code 115 = .ok (.if_icmp .ge 19, 3) := by decide +kernel
theorem d3_118 : decode prog_12_method_1_code 118 = .ok (.aload_n 1, 1) := by decide +kernel
theorem d3_119 : decode prog_12_method_1_code 119 = .ok (.iload 5, 2) := by decide +kernel
theorem d3_121 : decode prog_12_method_1_code 121 = .ok (.laload, 1) := by decide +kernel
theorem d3_122 : decode prog_12_method_1_code 122 = .ok (.lload 7, 2) := by decide +kernel
theorem d3_124 : decode prog_12_method_1_code 124 = .ok (.lcmp, 1) := by decide +kernel
theorem d3_125 : decode prog_12_method_1_code 125 = .ok (.ifCond .ge 9, 3) := by decide +kernel
theorem d3_128 : decode prog_12_method_1_code 128 = .ok (.iinc 5 1, 3) := by decide +kernel
theorem d3_131 : decode prog_12_method_1_code 131 = .ok (.goto (-20), 3) := by decide +kernel
theorem d3_134 : decode prog_12_method_1_code 134 = .ok (.aload_n 0, 1) := by decide +kernel
theorem d3_135 : decode prog_12_method_1_code 135 = .ok (.getfield 19, 3) := by decide +kernel
theorem d3_138 : decode prog_12_method_1_code 138 = .ok (.iload 6, 2) := by decide +kernel
theorem d3_140 : decode prog_12_method_1_code 140 = .ok (.iload 5, 2) := by decide +kernel
theorem d3_142 : decode prog_12_method_1_code 142 = .ok (.iastore, 1) := by decide +kernel
theorem d3_143 : decode prog_12_method_1_code 143 = .ok (.iinc 6 1, 3) := by decide +kernel
theorem d3_146 : decode prog_12_method_1_code 146 = .ok (.goto (-66), 3) := by decide +kernel
theorem d3_149 : decode prog_12_method_1_code 149 = .ok (.return_, 1) := by decide +kernel
theorem pn_3 : plainFor (⟨"com/example/leadhorizon/leadhorizon/calendar/SortedLongs", "<init>", "([J)V"⟩ : MethodName) = true := plainFor_of_name (by first | (simp [plainName, overriddenIn]; done) | decide +kernel)
set_option maxRecDepth 65536 in
set_option maxHeartbeats 40000000 in
theorem rm3 (l : Launch) (Z : State) (a0 : Array Value) (hw : ∀ d ∈ tables_1, d.before a0 Z = true) (n0 : Nat) (t va : Addr) (xs : List Int64) (len : Int32) (srt : own_srt xs) (hlen : len.toInt = (xs.length : Int)) :
    Con l (⟨"com/example/leadhorizon/leadhorizon/calendar/SortedLongs", "<init>", "([J)V"⟩ : MethodName) prog_12_method_1_code 9 none ({ frames := 1, cells := 1, slots := 10, locals := 12 } : Room) Z n0 #[(.ref t), (.ref va)] ([(va, .inr (.long, (xs.map Value.long))), (t, O_SortedLongs .null (.int (0 : Int32)) .null)]) (fun v L' => v = none ∧ ∃ (bk : Addr) (sh : Int32) (k : Nat) (bs : List Value), sh.toInt = (k : Int) ∧ k ≤ 61 ∧ own_bn xs k < 2 * xs.length + 1 ∧ own_bk xs k bs (own_bn xs k + 2) (own_bn xs k + 2) ∧ L' = [(va, .inr (.long, (xs.map Value.long))), (t, O_SortedLongs (.ref va) (.int sh) (.ref bk)), (bk, .inr (.int, bs))]) := by
  refine Con.of (ws := tables_1) (a0 := a0) pn_3 hw ?_
  intro p e s m below meth cde T kb w
  refine g_entry #[.val (.ref t), .val (.ref va), .unset, .unset, .unset, .unset, .unset, .unset, .unset] (by first | (simp [entryFrame, mkF, argsToLocals, Value.category]; done) | rfl) ?_
  refine g_aloadN w d3_0 rfl rfl 1 rfl ?_
  refine g_initO w d3_1 14 rfl 15 rfl 16 rfl rfl (by decide) 0 rfl (by decide) 4 rfl (fun T w => ?_)
  refine g_aloadN w d3_4 rfl rfl 5 rfl ?_
  refine g_aloadN w d3_5 rfl rfl 6 rfl ?_
  refine g_putf w d3_6 1 rfl 0 rfl 17 rfl Via.refl 18 (Or.inr ⟨rfl, rfl, rfl⟩) 9 rfl (ty := (.array .long)) (by decide) rfl rfl 9 rfl (fun T w => ?_)
  replace w := w.to (L' := [(va, .inr (.long, (xs.map Value.long))), (t, O_SortedLongs (.ref va) (.int (0 : Int32)) .null)]) rfl
  obtain ⟨r, hr⟩ : ∃ z, z = own_R xs := ⟨_, rfl⟩
  have J29 : Go p e below Z n0 kb (EndN s ({ frames := 1, cells := 1, slots := 10, locals := 12 } : Room).cells ({ frames := 1, cells := 1, slots := 10, locals := 12 } : Room).slots) (fun v L' => v = none ∧ ∃ (bk : Addr) (sh : Int32) (k : Nat) (bs : List Value), sh.toInt = (k : Int) ∧ k ≤ 61 ∧ own_bn xs k < 2 * xs.length + 1 ∧ own_bk xs k bs (own_bn xs k + 2) (own_bn xs k + 2) ∧ L' = [(va, .inr (.long, (xs.map Value.long))), (t, O_SortedLongs (.ref va) (.int sh) (.ref bk)), (bk, .inr (.int, bs))]) T (mkF m 29 #[.val (.ref t), .val (.ref va), .val (.long r), .second, .unset, .unset, .unset, .unset, .unset] []) := by
    refine g_iconst w d3_29 (0 : Int32) rfl 30 rfl ?_
    refine g_istore w d3_30 32 rfl rfl #[.val (.ref t), .val (.ref va), .val (.long r), .second, .val (.int (0 : Int32)), .unset, .unset, .unset, .unset] rfl ?_
    have J55 : ∀ (sh : Int32) (k : Nat), sh.toInt = (k : Int) → k ≤ 61 → own_bn xs k < 2 * xs.length + 1 → Go p e below Z n0 kb (EndN s ({ frames := 1, cells := 1, slots := 10, locals := 12 } : Room).cells ({ frames := 1, cells := 1, slots := 10, locals := 12 } : Room).slots) (fun v L' => v = none ∧ ∃ (bk : Addr) (sh : Int32) (k : Nat) (bs : List Value), sh.toInt = (k : Int) ∧ k ≤ 61 ∧ own_bn xs k < 2 * xs.length + 1 ∧ own_bk xs k bs (own_bn xs k + 2) (own_bn xs k + 2) ∧ L' = [(va, .inr (.long, (xs.map Value.long))), (t, O_SortedLongs (.ref va) (.int sh) (.ref bk)), (bk, .inr (.int, bs))]) T (mkF m 55 #[.val (.ref t), .val (.ref va), .val (.long r), .second, .val (.int sh), .unset, .unset, .unset, .unset] []) := by
      intro sh k hk h61 hbn
      refine g_aloadN w d3_55 rfl rfl 56 rfl ?_
      refine g_iload w d3_56 rfl 58 rfl ?_
      refine g_putf w d3_58 1 rfl 1 rfl 20 rfl Via.refl 21 (Or.inr ⟨rfl, rfl, rfl⟩) 9 rfl (ty := .int) (by decide) rfl rfl 61 rfl (fun T w => ?_)
      replace w := w.to (L' := [(va, .inr (.long, (xs.map Value.long))), (t, O_SortedLongs (.ref va) (.int sh) .null)]) rfl
      refine g_aloadN w d3_61 rfl rfl 62 rfl ?_
      refine g_lloadN w d3_62 rfl 63 rfl ?_
      refine g_iload w d3_63 rfl 65 rfl ?_
      refine g_lushr w d3_65 66 rfl ?_
      refine g_l2i w d3_66 67 rfl ?_
      refine g_iconst w d3_67 (2 : Int32) rfl 68 rfl ?_
      refine g_iadd w d3_68 69 rfl ?_
      refine g_newarr w d3_69 22 rfl (own_bn xs k + 2) 10 (own_new srt hr hk h61 hlen hbn) (by have := srt.1; omega) (by decide) (List.replicate (own_bn xs k + 2) (.int (0 : Int32))) rfl (by decide) (by decide) 71 rfl (fun T bk w => ?_)
      replace w := w.to (L' := [(va, .inr (.long, (xs.map Value.long))), (t, O_SortedLongs (.ref va) (.int sh) .null), (bk, .inr (.int, List.replicate (own_bn xs k + 2) (.int (0 : Int32))))]) rfl
      refine g_putf w d3_71 1 rfl 2 rfl 23 rfl Via.refl 24 (Or.inr ⟨rfl, rfl, rfl⟩) 9 rfl (ty := (.array .int)) (by decide) rfl rfl 74 rfl (fun T w => ?_)
      replace w := w.to (L' := [(va, .inr (.long, (xs.map Value.long))), (t, O_SortedLongs (.ref va) (.int sh) (.ref bk)), (bk, .inr (.int, List.replicate (own_bn xs k + 2) (.int (0 : Int32))))]) rfl
      refine g_iconst w d3_74 (0 : Int32) rfl 75 rfl ?_
      refine g_istore w d3_75 77 rfl rfl #[.val (.ref t), .val (.ref va), .val (.long r), .second, .val (.int sh), .val (.int (0 : Int32)), .unset, .unset, .unset] rfl ?_
      refine g_iconst w d3_77 (0 : Int32) rfl 78 rfl ?_
      refine g_istore w d3_78 80 rfl rfl #[.val (.ref t), .val (.ref va), .val (.long r), .second, .val (.int sh), .val (.int (0 : Int32)), .val (.int (0 : Int32)), .unset, .unset] rfl ?_
      have LB : ∀ (d : Nat) (T : State) (bs : List Value) (i j : Int32) (ni nj : Nat) (s7 s8 : Slot), i.toInt = (ni : Int) → j.toInt = (nj : Int) → ni + d = own_bn xs k + 2 → own_bk xs k bs (own_bn xs k + 2) ni → nj ≤ xs.length → (∀ b, b < nj → (xs.getD b 0).toInt < own_st xs k ni) → ((s7 = .unset ∧ s8 = .unset) ∨ ∃ z, s7 = .val (.long z) ∧ s8 = .second) → Wd p l e ({ frames := 1, cells := 1, slots := 10, locals := 12 } : Room) s m #[(.ref t), (.ref va)] below meth cde Z a0 n0 kb tables_1 (⟨"com/example/leadhorizon/leadhorizon/calendar/SortedLongs", "<init>", "([J)V"⟩ : MethodName) prog_12_method_1_code 9 none T ([(va, .inr (.long, (xs.map Value.long))), (t, O_SortedLongs (.ref va) (.int sh) (.ref bk)), (bk, .inr (.int, bs))]) (0 + 1) (0 + 10) → Go p e below Z n0 kb (EndN s ({ frames := 1, cells := 1, slots := 10, locals := 12 } : Room).cells ({ frames := 1, cells := 1, slots := 10, locals := 12 } : Room).slots) (fun v L' => v = none ∧ ∃ (bk : Addr) (sh : Int32) (k : Nat) (bs : List Value), sh.toInt = (k : Int) ∧ k ≤ 61 ∧ own_bn xs k < 2 * xs.length + 1 ∧ own_bk xs k bs (own_bn xs k + 2) (own_bn xs k + 2) ∧ L' = [(va, .inr (.long, (xs.map Value.long))), (t, O_SortedLongs (.ref va) (.int sh) (.ref bk)), (bk, .inr (.int, bs))]) T (mkF m 80 #[.val (.ref t), .val (.ref va), .val (.long r), .second, .val (.int sh), .val (.int j), .val (.int i), s7, s8] []) := by
        intro d
        induction d with
        | zero =>
          intro T bs i j ni nj s7 s8 hi hj hd hv hle hlo hs w
          obtain ⟨zn, hzn⟩ : ∃ z : Int32, z.toInt = ((own_bn xs k + 2 : Nat) : Int) := ⟨_, own_new srt hr hk h61 hlen hbn⟩
          have hv' : own_bk xs k bs (own_bn xs k + 2) (own_bn xs k + 2) := by rw [show ni = own_bn xs k + 2 by omega] at hv; exact hv
          refine g_iload w d3_80 rfl 82 rfl ?_
          refine g_aloadN w d3_82 rfl rfl 83 rfl ?_
          refine g_getf w d3_83 1 rfl 2 rfl 23 rfl Via.refl 86 rfl (fun T w => ?_)
          refine g_alen w d3_86 2 rfl zn (by rw [hv.1]; exact hzn) 87 rfl ?_
          refine g_icmp_ge w d3_87 149 (by decide) (by decide) 90 rfl (fun hc87 => ?_) (fun h => absurd h (fun q => by have := (own_ltN hi hzn).mp q; omega))
          exact g_ret w d3_149 (by decide) (by decide) ⟨rfl, bk, sh, k, bs, hk, h61, hbn, hv', rfl⟩
        | succ d ih =>
          intro T bs i j ni nj s7 s8 hi hj hd hv hle hlo hs w
          obtain ⟨zn, hzn⟩ : ∃ z : Int32, z.toInt = ((own_bn xs k + 2 : Nat) : Int) := ⟨_, own_new srt hr hk h61 hlen hbn⟩
          refine g_iload w d3_80 rfl 82 rfl ?_
          refine g_aloadN w d3_82 rfl rfl 83 rfl ?_
          refine g_getf w d3_83 1 rfl 2 rfl 23 rfl Via.refl 86 rfl (fun T w => ?_)
          refine g_alen w d3_86 2 rfl zn (by rw [hv.1]; exact hzn) 87 rfl ?_
          refine g_icmp_ge w d3_87 149 (by decide) (by decide) 90 rfl (fun h => absurd ((own_ltN hi hzn).mpr (by omega)) h) (fun hc87 => ?_)
          have J111 : ∀ stt : Int64, stt.toInt = own_st xs k ni → Go p e below Z n0 kb (EndN s ({ frames := 1, cells := 1, slots := 10, locals := 12 } : Room).cells ({ frames := 1, cells := 1, slots := 10, locals := 12 } : Room).slots) (fun v L' => v = none ∧ ∃ (bk : Addr) (sh : Int32) (k : Nat) (bs : List Value), sh.toInt = (k : Int) ∧ k ≤ 61 ∧ own_bn xs k < 2 * xs.length + 1 ∧ own_bk xs k bs (own_bn xs k + 2) (own_bn xs k + 2) ∧ L' = [(va, .inr (.long, (xs.map Value.long))), (t, O_SortedLongs (.ref va) (.int sh) (.ref bk)), (bk, .inr (.int, bs))]) T (mkF m 111 #[.val (.ref t), .val (.ref va), .val (.long r), .second, .val (.int sh), .val (.int j), .val (.int i), .val (.long stt), .second] []) := by
            intro stt hst
            have J134 : ∀ (j' : Int32) (nj' : Nat), j'.toInt = (nj' : Int) → own_cn xs nj' (own_st xs k ni) → Go p e below Z n0 kb (EndN s ({ frames := 1, cells := 1, slots := 10, locals := 12 } : Room).cells ({ frames := 1, cells := 1, slots := 10, locals := 12 } : Room).slots) (fun v L' => v = none ∧ ∃ (bk : Addr) (sh : Int32) (k : Nat) (bs : List Value), sh.toInt = (k : Int) ∧ k ≤ 61 ∧ own_bn xs k < 2 * xs.length + 1 ∧ own_bk xs k bs (own_bn xs k + 2) (own_bn xs k + 2) ∧ L' = [(va, .inr (.long, (xs.map Value.long))), (t, O_SortedLongs (.ref va) (.int sh) (.ref bk)), (bk, .inr (.int, bs))]) T (mkF m 134 #[.val (.ref t), .val (.ref va), .val (.long r), .second, .val (.int sh), .val (.int j'), .val (.int i), .val (.long stt), .second] []) := by
              intro j' nj' hj' hcn
              refine g_aloadN w d3_134 rfl rfl 135 rfl ?_
              refine g_getf w d3_135 1 rfl 2 rfl 23 rfl Via.refl 138 rfl (fun T w => ?_)
              refine g_iload w d3_138 rfl 140 rfl ?_
              refine g_iload w d3_140 rfl 142 rfl ?_
              refine g_iastore w d3_142 2 rfl ni hi (by rw [hv.1]; omega) (.int j') rfl 143 rfl (fun T w => ?_)
              replace w := w.to (L' := [(va, .inr (.long, (xs.map Value.long))), (t, O_SortedLongs (.ref va) (.int sh) (.ref bk)), (bk, .inr (.int, bs.set ni (.int j')))]) rfl
              refine g_iinc w d3_143 146 rfl rfl rfl #[.val (.ref t), .val (.ref va), .val (.long r), .second, .val (.int sh), .val (.int j'), .val (.int (i + (1 : Int32))), .val (.long stt), .second] rfl ?_
              refine g_goto w d3_146 80 (by decide) (by decide) ?_
              exact ih T (bs.set ni (.int j')) (i + 1) j' (ni + 1) nj' _ _ (own_inc hi (by have := srt.1; omega)) hj' (by omega) (own_bk_set hv hj' hcn (by omega)) hcn.1 (fun b hb => Int.lt_of_lt_of_le (hcn.2.1 b hb) (own_st_le xs k ni)) (Or.inr ⟨_, rfl, rfl⟩) w
            have LC : ∀ (d : Nat) (j' : Int32) (nj' : Nat), j'.toInt = (nj' : Int) → nj' + d = xs.length → (∀ b, b < nj' → (xs.getD b 0).toInt < own_st xs k ni) → Go p e below Z n0 kb (EndN s ({ frames := 1, cells := 1, slots := 10, locals := 12 } : Room).cells ({ frames := 1, cells := 1, slots := 10, locals := 12 } : Room).slots) (fun v L' => v = none ∧ ∃ (bk : Addr) (sh : Int32) (k : Nat) (bs : List Value), sh.toInt = (k : Int) ∧ k ≤ 61 ∧ own_bn xs k < 2 * xs.length + 1 ∧ own_bk xs k bs (own_bn xs k + 2) (own_bn xs k + 2) ∧ L' = [(va, .inr (.long, (xs.map Value.long))), (t, O_SortedLongs (.ref va) (.int sh) (.ref bk)), (bk, .inr (.int, bs))]) T (mkF m 111 #[.val (.ref t), .val (.ref va), .val (.long r), .second, .val (.int sh), .val (.int j'), .val (.int i), .val (.long stt), .second] []) := by
              intro d
              induction d with
              | zero =>
                intro j' nj' hj' hd' hlo'
                refine g_iload w d3_111 rfl 113 rfl ?_
                refine g_aloadN w d3_113 rfl rfl 114 rfl ?_
                refine g_alen w d3_114 0 rfl len (by simpa using hlen) 115 rfl ?_
                refine g_icmp_ge w d3_115 134 (by decide) (by decide) 118 rfl (fun hc115 => ?_) (fun h => absurd h (fun q => by have := (own_ltN hj' hlen).mp q; omega))
                exact J134 j' nj' hj' ⟨by omega, hlo', fun b h1 h2 => by omega⟩
              | succ d ih' =>
                intro j' nj' hj' hd' hlo'
                refine g_iload w d3_111 rfl 113 rfl ?_
                refine g_aloadN w d3_113 rfl rfl 114 rfl ?_
                refine g_alen w d3_114 0 rfl len (by simpa using hlen) 115 rfl ?_
                refine g_icmp_ge w d3_115 134 (by decide) (by decide) 118 rfl (fun h => absurd ((own_ltN hj' hlen).mpr (by omega)) h) (fun hc115 => ?_)
                refine g_aloadN w d3_118 rfl rfl 119 rfl ?_
                refine g_iload w d3_119 rfl 121 rfl ?_
                refine g_laload w d3_121 0 rfl nj' hj' (own_vat xs (by omega)) 122 rfl ?_
                refine g_lload w d3_122 rfl 124 rfl ?_
                refine g_lcmp w d3_124 125 rfl ?_
                refine g_lif_ge w d3_125 134 (by decide) (by decide) 128 rfl (fun hc125 => ?_) (fun hc125 => ?_)
                · -- pc 134 (taken: not (xs.getD nj' 0) < stt)
                  exact J134 j' nj' hj' ⟨by omega, hlo', fun b h1 h2 => by rw [← hst]; rw [Int64.lt_iff_toInt_lt] at hc125; have := srt.2.1 nj' b h1 h2; omega⟩
                · -- pc 128 (on: (xs.getD nj' 0) < stt)
                  refine g_iinc w d3_128 131 rfl rfl rfl #[.val (.ref t), .val (.ref va), .val (.long r), .second, .val (.int sh), .val (.int (j' + (1 : Int32))), .val (.int i), .val (.long stt), .second] rfl ?_
                  refine g_goto w d3_131 111 (by decide) (by decide) ?_
                  exact ih' (j' + 1) (nj' + 1) (own_inc hj' (by have := srt.1; omega)) (by omega) (fun b hb => by
                      by_cases e : b = nj'
                      · subst e; rw [← hst]; exact Int64.lt_iff_toInt_lt.mp hc125
                      · exact hlo' b (by omega))
            exact LC (xs.length - nj) j nj hj (by omega) hlo
          refine g_aloadN w d3_90 rfl rfl 91 rfl ?_
          refine g_alen w d3_91 0 rfl len (by simpa using hlen) 92 rfl ?_
          refine g_if_ne w d3_92 99 (by decide) (by decide) 95 rfl (fun hc92 => ?_) (fun hc92 => ?_)
          · -- pc 99 (taken: not len = (0 : Int32))
            refine g_aloadN w d3_99 rfl rfl 100 rfl ?_
            refine g_iconst w d3_100 (0 : Int32) rfl 101 rfl ?_
            refine g_laload w d3_101 0 rfl 0 rfl (own_vat xs (own_n0 hlen hc92)) 102 rfl ?_
            refine g_iload w d3_102 rfl 104 rfl ?_
            refine g_i2l w d3_104 105 rfl ?_
            refine g_iload w d3_105 rfl 107 rfl ?_
            refine g_lshl w d3_107 108 rfl ?_
            refine g_ladd w d3_108 109 rfl ?_
            refine g_lstore w d3_109 111 rfl rfl #[.val (.ref t), .val (.ref va), .val (.long r), .second, .val (.int sh), .val (.int j), .val (.int i), .val (.long ((xs.getD 0 0) + (shlL (i.toInt64) sh))), .second] (by rcases hs with ⟨rfl, rfl⟩ | ⟨z, rfl, rfl⟩ <;> rfl) ?_
            exact J111 ((xs.getD 0 0) + (shlL (i.toInt64) sh)) (own_start srt hk h61 hi (own_n0 hlen hc92) (by omega))
          · -- pc 95 (on: len = (0 : Int32))
            refine g_lconst w d3_95 (0 : Int64) rfl 96 rfl ?_
            refine g_goto w d3_96 109 (by decide) (by decide) ?_
            refine g_lstore w d3_109 111 rfl rfl #[.val (.ref t), .val (.ref va), .val (.long r), .second, .val (.int sh), .val (.int j), .val (.int i), .val (.long (0 : Int64)), .second] (by rcases hs with ⟨rfl, rfl⟩ | ⟨z, rfl, rfl⟩ <;> rfl) ?_
            exact J111 (0 : Int64) (by unfold own_st; rw [if_pos ((own_nz hlen).mp hc92)]; rfl)
      exact LB (own_bn xs k + 2) T _ 0 0 0 0 _ _ rfl rfl (by omega) ⟨by simp, fun b hb => by omega⟩ (Nat.zero_le _) (fun b hb => by omega) (Or.inl ⟨rfl, rfl⟩) w
    have LA : ∀ (d : Nat) (sh : Int32) (k : Nat), sh.toInt = (k : Int) → k + d = 61 → Go p e below Z n0 kb (EndN s ({ frames := 1, cells := 1, slots := 10, locals := 12 } : Room).cells ({ frames := 1, cells := 1, slots := 10, locals := 12 } : Room).slots) (fun v L' => v = none ∧ ∃ (bk : Addr) (sh : Int32) (k : Nat) (bs : List Value), sh.toInt = (k : Int) ∧ k ≤ 61 ∧ own_bn xs k < 2 * xs.length + 1 ∧ own_bk xs k bs (own_bn xs k + 2) (own_bn xs k + 2) ∧ L' = [(va, .inr (.long, (xs.map Value.long))), (t, O_SortedLongs (.ref va) (.int sh) (.ref bk)), (bk, .inr (.int, bs))]) T (mkF m 32 #[.val (.ref t), .val (.ref va), .val (.long r), .second, .val (.int sh), .unset, .unset, .unset, .unset] []) := by
      intro d
      induction d with
      | zero =>
        intro sh k hk hd
        have hk61 : k = 61 := by omega
        refine g_lloadN w d3_32 rfl 33 rfl ?_
        refine g_iload w d3_33 rfl 35 rfl ?_
        refine g_lushr w d3_35 36 rfl ?_
        refine g_ldcl w d3_36 19 rfl 39 rfl ?_
        refine g_aloadN w d3_39 rfl rfl 40 rfl ?_
        refine g_alen w d3_40 0 rfl len (by simpa using hlen) 41 rfl ?_
        refine g_i2l w d3_41 42 rfl ?_
        refine g_lmul w d3_42 43 rfl ?_
        refine g_lconst w d3_43 (1 : Int64) rfl 44 rfl ?_
        refine g_ladd w d3_44 45 rfl ?_
        refine g_lcmp w d3_45 46 rfl ?_
        refine g_lif_lt w d3_46 55 (by decide) (by decide) 49 rfl (fun hc46 => ?_) (fun h => absurd ((own_A srt hr hk (by omega) hlen).2.mpr (by rw [hk61]; exact own_bn61 srt)) h)
        exact J55 sh k hk (by omega) ((own_A srt hr hk (by omega) hlen).2.mp hc46)
      | succ d ih =>
        intro sh k hk hd
        refine g_lloadN w d3_32 rfl 33 rfl ?_
        refine g_iload w d3_33 rfl 35 rfl ?_
        refine g_lushr w d3_35 36 rfl ?_
        refine g_ldcl w d3_36 19 rfl 39 rfl ?_
        refine g_aloadN w d3_39 rfl rfl 40 rfl ?_
        refine g_alen w d3_40 0 rfl len (by simpa using hlen) 41 rfl ?_
        refine g_i2l w d3_41 42 rfl ?_
        refine g_lmul w d3_42 43 rfl ?_
        refine g_lconst w d3_43 (1 : Int64) rfl 44 rfl ?_
        refine g_ladd w d3_44 45 rfl ?_
        refine g_lcmp w d3_45 46 rfl ?_
        refine g_lif_lt w d3_46 55 (by decide) (by decide) 49 rfl (fun hc46 => ?_) (fun hc46 => ?_)
        · -- pc 55 (taken: (ushrL r sh) < (((2 : Int64) * (len.toInt64)) + (1 : Int64)))
          exact J55 sh k hk (by omega) ((own_A srt hr hk (by omega) hlen).2.mp hc46)
        · -- pc 49 (on: not (ushrL r sh) < (((2 : Int64) * (len.toInt64)) + (1 : Int64)))
          refine g_iinc w d3_49 52 rfl rfl rfl #[.val (.ref t), .val (.ref va), .val (.long r), .second, .val (.int (sh + (1 : Int32))), .unset, .unset, .unset, .unset] rfl ?_
          refine g_goto w d3_52 32 (by decide) (by decide) ?_
          exact ih (sh + 1) (k + 1) (own_inc hk (by omega)) (by omega)
    exact LA 61 0 0 rfl rfl
  refine g_aloadN w d3_9 rfl rfl 10 rfl ?_
  refine g_alen w d3_10 0 rfl len (by simpa using hlen) 11 rfl ?_
  refine g_if_ne w d3_11 18 (by decide) (by decide) 14 rfl (fun hc11 => ?_) (fun hc11 => ?_)
  · -- pc 18 (taken: not len = (0 : Int32))
    refine g_aloadN w d3_18 rfl rfl 19 rfl ?_
    refine g_aloadN w d3_19 rfl rfl 20 rfl ?_
    refine g_alen w d3_20 0 rfl len (by simpa using hlen) 21 rfl ?_
    refine g_iconst w d3_21 (1 : Int32) rfl 22 rfl ?_
    refine g_isub w d3_22 23 rfl ?_
    refine g_laload w d3_23 0 rfl (xs.length - 1) (own_last hlen (own_n0 hlen hc11)) (own_vat xs (by have := own_n0 hlen hc11; omega)) 24 rfl ?_
    refine g_aloadN w d3_24 rfl rfl 25 rfl ?_
    refine g_iconst w d3_25 (0 : Int32) rfl 26 rfl ?_
    refine g_laload w d3_26 0 rfl 0 rfl (own_vat xs (own_n0 hlen hc11)) 27 rfl ?_
    refine g_lsub w d3_27 28 rfl ?_
    refine g_lstoreN w d3_28 29 rfl (by rw [hr]; unfold own_R; rw [if_neg (fun q => hc11 ((own_nz hlen).mpr q))]) #[.val (.ref t), .val (.ref va), .val (.long r), .second, .unset, .unset, .unset, .unset, .unset] rfl ?_
    exact J29
  · -- pc 14 (on: len = (0 : Int32))
    refine g_lconst w d3_14 (0 : Int64) rfl 15 rfl ?_
    refine g_goto w d3_15 28 (by decide) (by decide) ?_
    refine g_lstoreN w d3_28 29 rfl (by rw [hr]; unfold own_R; rw [if_pos ((own_nz hlen).mp hc11)]) #[.val (.ref t), .val (.ref va), .val (.long r), .second, .unset, .unset, .unset, .unset, .unset] rfl ?_
    exact J29
theorem d5_0 : decode prog_12_method_3_code 0 = .ok (.aload_n 0, 1) := by decide +kernel
theorem d5_1 : decode prog_12_method_3_code 1 = .ok (.getfield 7, 3) := by decide +kernel
theorem d5_4 : decode prog_12_method_3_code 4 = .ok (.arraylength, 1) := by decide +kernel
theorem d5_5 : decode prog_12_method_3_code 5 = .ok (.ifCond .eq 14, 3) := by decide +kernel
theorem d5_8 : decode prog_12_method_3_code 8 = .ok (.lload_n 1, 1) := by decide +kernel
theorem d5_9 : decode prog_12_method_3_code 9 = .ok (.aload_n 0, 1) := by decide +kernel
theorem d5_10 : decode prog_12_method_3_code 10 = .ok (.getfield 7, 3) := by decide +kernel
theorem d5_13 : decode prog_12_method_3_code 13 = .ok (.iconst 0, 1) := by decide +kernel
theorem d5_14 : decode prog_12_method_3_code 14 = .ok (.laload, 1) := by decide +kernel
theorem d5_15 : decode prog_12_method_3_code 15 = .ok (.lcmp, 1) := by decide +kernel
theorem d5_16 : decode prog_12_method_3_code 16 = .ok (.ifCond .gt 5, 3) := by decide +kernel
theorem d5_19 : decode prog_12_method_3_code 19 = .ok (.iconst 0, 1) := by decide +kernel
theorem d5_20 : decode prog_12_method_3_code 20 = .ok (.ireturn, 1) := by decide +kernel
theorem d5_21 : decode prog_12_method_3_code 21 = .ok (.lload_n 1, 1) := by decide +kernel
theorem d5_22 : decode prog_12_method_3_code 22 = .ok (.aload_n 0, 1) := by decide +kernel
theorem d5_23 : decode prog_12_method_3_code 23 = .ok (.getfield 7, 3) := by decide +kernel
theorem d5_26 : decode prog_12_method_3_code 26 = .ok (.aload_n 0, 1) := by decide +kernel
theorem d5_27 : decode prog_12_method_3_code 27 = .ok (.getfield 7, 3) := by decide +kernel
theorem d5_30 : decode prog_12_method_3_code 30 = .ok (.arraylength, 1) := by decide +kernel
theorem d5_31 : decode prog_12_method_3_code 31 = .ok (.iconst 1, 1) := by decide +kernel
theorem d5_32 : decode prog_12_method_3_code 32 = .ok (.isub, 1) := by decide +kernel
theorem d5_33 : decode prog_12_method_3_code 33 = .ok (.laload, 1) := by decide +kernel
theorem d5_34 : decode prog_12_method_3_code 34 = .ok (.lcmp, 1) := by decide +kernel
theorem d5_35 : decode prog_12_method_3_code 35 = .ok (.ifCond .le 9, 3) := by decide +kernel
theorem d5_38 : decode prog_12_method_3_code 38 = .ok (.aload_n 0, 1) := by decide +kernel
theorem d5_39 : decode prog_12_method_3_code 39 = .ok (.getfield 7, 3) := by decide +kernel
theorem d5_42 : decode prog_12_method_3_code 42 = .ok (.arraylength, 1) := by decide +kernel
theorem d5_43 : decode prog_12_method_3_code 43 = .ok (.ireturn, 1) := by decide +kernel
theorem d5_44 : decode prog_12_method_3_code 44 = .ok (.lload_n 1, 1) := by decide +kernel
theorem d5_45 : decode prog_12_method_3_code 45 = .ok (.aload_n 0, 1) := by decide +kernel
theorem d5_46 : decode prog_12_method_3_code 46 = .ok (.getfield 7, 3) := by decide +kernel
theorem d5_49 : decode prog_12_method_3_code 49 = .ok (.iconst 0, 1) := by decide +kernel
theorem d5_50 : decode prog_12_method_3_code 50 = .ok (.laload, 1) := by decide +kernel
theorem d5_51 : decode prog_12_method_3_code 51 = .ok (.lsub, 1) := by decide +kernel
theorem d5_52 : decode prog_12_method_3_code 52 = .ok (.aload_n 0, 1) := by decide +kernel
theorem d5_53 : decode prog_12_method_3_code 53 = .ok (.getfield 15, 3) := by decide +kernel
theorem d5_56 : decode prog_12_method_3_code 56 = .ok (.lushr, 1) := by decide +kernel
theorem d5_57 : decode prog_12_method_3_code 57 = .ok (.l2i, 1) := by decide +kernel
theorem d5_58 : decode prog_12_method_3_code 58 = .ok (.istore_n 3, 1) := by decide +kernel
theorem d5_59 : decode prog_12_method_3_code 59 = .ok (.aload_n 0, 1) := by decide +kernel
theorem d5_60 : decode prog_12_method_3_code 60 = .ok (.getfield 19, 3) := by decide +kernel
theorem d5_63 : decode prog_12_method_3_code 63 = .ok (.iload_n 3, 1) := by decide +kernel
theorem d5_64 : decode prog_12_method_3_code 64 = .ok (.iaload, 1) := by decide +kernel
theorem d5_65 : decode prog_12_method_3_code 65 = .ok (.istore 4, 2) := by decide +kernel
theorem d5_67 : decode prog_12_method_3_code 67 = .ok (.aload_n 0, 1) := by decide +kernel
theorem d5_68 : decode prog_12_method_3_code 68 = .ok (.getfield 19, 3) := by decide +kernel
theorem d5_71 : decode prog_12_method_3_code 71 = .ok (.iload_n 3, 1) := by decide +kernel
theorem d5_72 : decode prog_12_method_3_code 72 = .ok (.iconst 1, 1) := by decide +kernel
theorem d5_73 : decode prog_12_method_3_code 73 = .ok (.iadd, 1) := by decide +kernel
theorem d5_74 : decode prog_12_method_3_code 74 = .ok (.iaload, 1) := by decide +kernel
theorem d5_75 : decode prog_12_method_3_code 75 = .ok (.istore 5, 2) := by decide +kernel
theorem d5_77 : decode prog_12_method_3_code 77 = .ok (.iload 4, 2) := by decide +kernel
theorem d5_79 : decode prog_12_method_3_code 79 = .ok (.iload 5, 2) := by decide +kernel
theorem d5_81 : decode prog_12_method_3_code 81 = .ok (.if_icmp .ge 40, 3) := by decide +kernel
theorem d5_84 : decode prog_12_method_3_code 84 = .ok (.iload 4, 2) := by decide +kernel
theorem d5_86 : decode prog_12_method_3_code 86 = .ok (.iload 5, 2) := by decide +kernel
theorem d5_88 : decode prog_12_method_3_code 88 = .ok (.iadd, 1) := by decide +kernel
theorem d5_89 : decode prog_12_method_3_code 89 = .ok (.iconst 1, 1) := by decide +kernel
theorem d5_90 : decode prog_12_method_3_code 90 = .ok (.iushr, 1) := by decide +kernel
theorem d5_91 : decode prog_12_method_3_code 91 = .ok (.istore 6, 2) := by decide +kernel
theorem d5_93 : decode prog_12_method_3_code 93 = .ok (.aload_n 0, 1) := by decide +kernel
theorem d5_94 : decode prog_12_method_3_code 94 = .ok (.getfield 7, 3) := by decide +kernel
theorem d5_97 : decode prog_12_method_3_code 97 = .ok (.iload 6, 2) := by decide +kernel
theorem d5_99 : decode prog_12_method_3_code 99 = .ok (.laload, 1) := by decide +kernel
theorem d5_100 : decode prog_12_method_3_code 100 = .ok (.lload_n 1, 1) := by decide +kernel
theorem d5_101 : decode prog_12_method_3_code 101 = .ok (.lcmp, 1) := by decide +kernel
theorem d5_102 : decode prog_12_method_3_code 102 = .ok (.ifCond .ge 12, 3) := by decide +kernel
theorem d5_105 : decode prog_12_method_3_code 105 = .ok (.iload 6, 2) := by decide +kernel
theorem d5_107 : decode prog_12_method_3_code 107 = .ok (.iconst 1, 1) := by decide +kernel
theorem d5_108 : decode prog_12_method_3_code 108 = .ok (.iadd, 1) := by decide +kernel
theorem d5_109 : decode prog_12_method_3_code 109 = .ok (.istore 4, 2) := by decide +kernel
theorem d5_111 : decode prog_12_method_3_code 111 = .ok (.goto 7, 3) := by decide +kernel
theorem d5_114 : decode prog_12_method_3_code 114 = .ok (.iload 6, 2) := by decide +kernel
theorem d5_116 : decode prog_12_method_3_code 116 = .ok (.istore 5, 2) := by decide +kernel
theorem d5_118 : decode prog_12_method_3_code 118 = .ok (.goto (-41), 3) := by decide +kernel
theorem d5_121 : decode prog_12_method_3_code 121 = .ok (.iload 4, 2) := by decide +kernel
theorem d5_123 : decode prog_12_method_3_code 123 = .ok (.ireturn, 1) := by decide +kernel
theorem pn_5 : plainFor (⟨"com/example/leadhorizon/leadhorizon/calendar/SortedLongs", "countBelow", "(J)I"⟩ : MethodName) = true := plainFor_of_name (by first | (simp [plainName, overriddenIn]; done) | decide +kernel)
set_option maxRecDepth 65536 in
set_option maxHeartbeats 40000000 in
theorem rm5 (l : Launch) (Z : State) (a0 : Array Value) (hw : ∀ d ∈ tables_1, d.before a0 Z = true) (n0 : Nat) (t va bk : Addr) (xs : List Int64) (len sh : Int32) (k : Nat) (bs : List Value) (q : Int64) (srt : own_srt xs) (hlen : len.toInt = (xs.length : Int)) (hk : sh.toInt = (k : Int)) (h61 : k ≤ 61) (hbn : own_bn xs k < 2 * xs.length + 1) (hbk : own_bk xs k bs (own_bn xs k + 2) (own_bn xs k + 2)) :
    Con l (⟨"com/example/leadhorizon/leadhorizon/calendar/SortedLongs", "countBelow", "(J)I"⟩ : MethodName) prog_12_method_3_code 7 (some .int) ({ frames := 0, cells := 0, slots := 0, locals := 0 } : Room) Z n0 #[(.ref t), (.long q)] ([(va, .inr (.long, (xs.map Value.long))), (t, O_SortedLongs (.ref va) (.int sh) (.ref bk)), (bk, .inr (.int, bs))]) (fun v L' => (∃ (z : Int32) (j : Nat), v = some (.int z) ∧ z.toInt = (j : Int) ∧ own_cn xs j q.toInt) ∧ L' = [(va, .inr (.long, (xs.map Value.long))), (t, O_SortedLongs (.ref va) (.int sh) (.ref bk)), (bk, .inr (.int, bs))]) := by
  refine Con.of (ws := tables_1) (a0 := a0) pn_5 hw ?_
  intro p e s m below meth cde T kb w
  refine g_entry #[.val (.ref t), .val (.long q), .second, .unset, .unset, .unset, .unset] (by first | (simp [entryFrame, mkF, argsToLocals, Value.category]; done) | rfl) ?_
  refine g_aloadN w d5_0 rfl rfl 1 rfl ?_
  refine g_getf w d5_1 1 rfl 0 rfl 17 rfl Via.refl 4 rfl (fun T w => ?_)
  refine g_alen w d5_4 0 rfl len (by simpa using hlen) 5 rfl ?_
  refine g_if_eq w d5_5 19 (by decide) (by decide) 8 rfl (fun hc5 => ?_) (fun hc5 => ?_)
  · -- pc 19 (taken: len = (0 : Int32))
    refine g_iconst w d5_19 (0 : Int32) rfl 20 rfl ?_
    exact g_ireti w d5_20 (by decide) (by decide) ⟨⟨0, 0, rfl, rfl, Nat.zero_le _, fun b hb => by omega, fun b h1 h2 => by
      have := (own_nz hlen).mp hc5; omega⟩, rfl⟩
  · -- pc 8 (on: not len = (0 : Int32))
    refine g_lloadN w d5_8 rfl 9 rfl ?_
    refine g_aloadN w d5_9 rfl rfl 10 rfl ?_
    refine g_getf w d5_10 1 rfl 0 rfl 17 rfl Via.refl 13 rfl (fun T w => ?_)
    refine g_iconst w d5_13 (0 : Int32) rfl 14 rfl ?_
    refine g_laload w d5_14 0 rfl 0 rfl (own_vat xs (by have := own_n0 hlen hc5; omega)) 15 rfl ?_
    refine g_lcmp w d5_15 16 rfl ?_
    refine g_lif_gt w d5_16 21 (by decide) (by decide) 19 rfl (fun hc16 => ?_) (fun hc16 => ?_)
    · -- pc 21 (taken: (xs.getD 0 0) < q)
      refine g_lloadN w d5_21 rfl 22 rfl ?_
      refine g_aloadN w d5_22 rfl rfl 23 rfl ?_
      refine g_getf w d5_23 1 rfl 0 rfl 17 rfl Via.refl 26 rfl (fun T w => ?_)
      refine g_aloadN w d5_26 rfl rfl 27 rfl ?_
      refine g_getf w d5_27 1 rfl 0 rfl 17 rfl Via.refl 30 rfl (fun T w => ?_)
      refine g_alen w d5_30 0 rfl len (by simpa using hlen) 31 rfl ?_
      refine g_iconst w d5_31 (1 : Int32) rfl 32 rfl ?_
      refine g_isub w d5_32 33 rfl ?_
      refine g_laload w d5_33 0 rfl (xs.length - 1) (own_last hlen (by have := own_n0 hlen hc5; omega)) (own_vat xs (by have := own_n0 hlen hc5; omega)) 34 rfl ?_
      refine g_lcmp w d5_34 35 rfl ?_
      refine g_lif_le w d5_35 44 (by decide) (by decide) 38 rfl (fun hc35 => ?_) (fun hc35 => ?_)
      · -- pc 44 (taken: not (xs.getD (xs.length - 1) 0) < q)
        refine g_lloadN w d5_44 rfl 45 rfl ?_
        refine g_aloadN w d5_45 rfl rfl 46 rfl ?_
        refine g_getf w d5_46 1 rfl 0 rfl 17 rfl Via.refl 49 rfl (fun T w => ?_)
        refine g_iconst w d5_49 (0 : Int32) rfl 50 rfl ?_
        refine g_laload w d5_50 0 rfl 0 rfl (own_vat xs (by have := own_n0 hlen hc5; omega)) 51 rfl ?_
        refine g_lsub w d5_51 52 rfl ?_
        refine g_aloadN w d5_52 rfl rfl 53 rfl ?_
        refine g_getf w d5_53 1 rfl 1 rfl 20 rfl Via.refl 56 rfl (fun T w => ?_)
        refine g_lushr w d5_56 57 rfl ?_
        refine g_l2i w d5_57 58 rfl ?_
        obtain ⟨bi, hbi⟩ : ∃ own_z, own_z = (((ushrL (q - (xs.getD 0 0)) sh).toInt32) : Int32) := ⟨_, rfl⟩
        refine g_istoreN w d5_58 59 rfl hbi.symm #[.val (.ref t), .val (.long q), .second, .val (.int bi), .unset, .unset, .unset] rfl ?_
        obtain ⟨nb, hnb0, hnb1, hnb2, hnb3⟩ := own_buck srt hk h61 (by have := own_n0 hlen hc5; omega) hbn hc16 hc35
        have hnb : bi.toInt = (nb : Int) := by rw [hbi]; exact hnb0
        obtain ⟨lo0, nl0, ha1, ha2, ha3⟩ := hbk.2 nb (by omega)
        obtain ⟨hi0, nh0, hb1, hb2, hb3⟩ := hbk.2 (nb + 1) (by omega)
        refine g_aloadN w d5_59 rfl rfl 60 rfl ?_
        refine g_getf w d5_60 1 rfl 2 rfl 23 rfl Via.refl 63 rfl (fun T w => ?_)
        refine g_iloadN w d5_63 rfl 64 rfl ?_
        refine g_iaload w d5_64 2 rfl nb hnb ha1 65 rfl ?_
        refine g_istore w d5_65 67 rfl rfl #[.val (.ref t), .val (.long q), .second, .val (.int bi), .val (.int lo0), .unset, .unset] rfl ?_
        refine g_aloadN w d5_67 rfl rfl 68 rfl ?_
        refine g_getf w d5_68 1 rfl 2 rfl 23 rfl Via.refl 71 rfl (fun T w => ?_)
        refine g_iloadN w d5_71 rfl 72 rfl ?_
        refine g_iconst w d5_72 (1 : Int32) rfl 73 rfl ?_
        refine g_iadd w d5_73 74 rfl ?_
        refine g_iaload w d5_74 2 rfl (nb + 1) (own_inc hnb (by have := srt.1; omega)) hb1 75 rfl ?_
        refine g_istore w d5_75 77 rfl rfl #[.val (.ref t), .val (.long q), .second, .val (.int bi), .val (.int lo0), .val (.int hi0), .unset] rfl ?_
        have LD : ∀ (d : Nat) (T : State) (lo hi : Int32) (nl nh : Nat) (s6 : Slot), lo.toInt = (nl : Int) → hi.toInt = (nh : Int) → nh ≤ nl + d → nl ≤ xs.length → nh ≤ xs.length → nl ≤ nh → (∀ b, b < nl → (xs.getD b 0).toInt < q.toInt) → (∀ b, nh ≤ b → b < xs.length → q.toInt ≤ (xs.getD b 0).toInt) → (s6 = .unset ∨ ∃ z, s6 = .val (.int z)) → Wd p l e ({ frames := 0, cells := 0, slots := 0, locals := 0 } : Room) s m #[(.ref t), (.long q)] below meth cde Z a0 n0 kb tables_1 (⟨"com/example/leadhorizon/leadhorizon/calendar/SortedLongs", "countBelow", "(J)I"⟩ : MethodName) prog_12_method_3_code 7 (some .int) T ([(va, .inr (.long, (xs.map Value.long))), (t, O_SortedLongs (.ref va) (.int sh) (.ref bk)), (bk, .inr (.int, bs))]) 0 0 → Go p e below Z n0 kb (EndN s ({ frames := 0, cells := 0, slots := 0, locals := 0 } : Room).cells ({ frames := 0, cells := 0, slots := 0, locals := 0 } : Room).slots) (fun v L' => (∃ (z : Int32) (j : Nat), v = some (.int z) ∧ z.toInt = (j : Int) ∧ own_cn xs j q.toInt) ∧ L' = [(va, .inr (.long, (xs.map Value.long))), (t, O_SortedLongs (.ref va) (.int sh) (.ref bk)), (bk, .inr (.int, bs))]) T (mkF m 77 #[.val (.ref t), .val (.long q), .second, .val (.int bi), .val (.int lo), .val (.int hi), s6] []) := by
          intro d
          induction d with
          | zero =>
            intro T lo hi nl nh s6 hlo hhi hd hnn hnh hle hA hB hs w
            refine g_iload w d5_77 rfl 79 rfl ?_
            refine g_iload w d5_79 rfl 81 rfl ?_
            refine g_icmp_ge w d5_81 121 (by decide) (by decide) 84 rfl (fun hc81 => ?_) (fun h => absurd h (fun q => by have := (own_ltN hlo hhi).mp q; omega))
            refine g_iload w d5_121 rfl 123 rfl ?_
            exact g_ireti w d5_123 (by decide) (by decide) ⟨⟨lo, nl, rfl, hlo, hnn, hA, fun b h1 h2 => hB b (by have : ¬ nl < nh := fun z => hc81 ((own_ltN hlo hhi).mpr z); omega) h2⟩, rfl⟩
          | succ d ih =>
            intro T lo hi nl nh s6 hlo hhi hd hnn hnh hle hA hB hs w
            refine g_iload w d5_77 rfl 79 rfl ?_
            refine g_iload w d5_79 rfl 81 rfl ?_
            refine g_icmp_ge w d5_81 121 (by decide) (by decide) 84 rfl (fun hc81 => ?_) (fun hc81 => ?_)
            · -- pc 121 (taken: not lo < hi)
              refine g_iload w d5_121 rfl 123 rfl ?_
              exact g_ireti w d5_123 (by decide) (by decide) ⟨⟨lo, nl, rfl, hlo, hnn, hA, fun b h1 h2 => hB b (by have : ¬ nl < nh := fun z => hc81 ((own_ltN hlo hhi).mpr z); omega) h2⟩, rfl⟩
            · -- pc 84 (on: lo < hi)
              refine g_iload w d5_84 rfl 86 rfl ?_
              refine g_iload w d5_86 rfl 88 rfl ?_
              refine g_iadd w d5_88 89 rfl ?_
              refine g_iconst w d5_89 (1 : Int32) rfl 90 rfl ?_
              refine g_iushr w d5_90 91 rfl ?_
              obtain ⟨mi, hmi⟩ : ∃ z, z = (ushrI (lo + hi) (1 : Int32)) := ⟨_, rfl⟩
              have hlh := (own_ltN hlo hhi).mp hc81
              have hmi' : mi.toInt = (((nl + nh) / 2 : Nat) : Int) := by rw [hmi]; exact own_mid hlo hhi (by have := srt.1; omega)
              refine g_istore w d5_91 93 rfl hmi.symm #[.val (.ref t), .val (.long q), .second, .val (.int bi), .val (.int lo), .val (.int hi), .val (.int mi)] (by rcases hs with rfl | ⟨z, rfl⟩ <;> rfl) ?_
              refine g_aloadN w d5_93 rfl rfl 94 rfl ?_
              refine g_getf w d5_94 1 rfl 0 rfl 17 rfl Via.refl 97 rfl (fun T w => ?_)
              refine g_iload w d5_97 rfl 99 rfl ?_
              refine g_laload w d5_99 0 rfl ((nl + nh) / 2) hmi' (own_vat xs (by omega)) 100 rfl ?_
              refine g_lloadN w d5_100 rfl 101 rfl ?_
              refine g_lcmp w d5_101 102 rfl ?_
              refine g_lif_ge w d5_102 114 (by decide) (by decide) 105 rfl (fun hc102 => ?_) (fun hc102 => ?_)
              · -- pc 114 (taken: not (xs.getD ((nl + nh) / 2) 0) < q)
                refine g_iload w d5_114 rfl 116 rfl ?_
                refine g_istore w d5_116 118 rfl rfl #[.val (.ref t), .val (.long q), .second, .val (.int bi), .val (.int lo), .val (.int mi), .val (.int mi)] rfl ?_
                refine g_goto w d5_118 77 (by decide) (by decide) ?_
                exact ih T lo mi nl ((nl + nh) / 2) _ hlo hmi' (by omega) hnn (by omega) (by omega) hA (fun b h1 h2 => by rw [Int64.lt_iff_toInt_lt] at hc102; have := srt.2.1 ((nl + nh) / 2) b h1 h2; omega) (Or.inr ⟨_, rfl⟩) w
              · -- pc 105 (on: (xs.getD ((nl + nh) / 2) 0) < q)
                refine g_iload w d5_105 rfl 107 rfl ?_
                refine g_iconst w d5_107 (1 : Int32) rfl 108 rfl ?_
                refine g_iadd w d5_108 109 rfl ?_
                refine g_istore w d5_109 111 rfl rfl #[.val (.ref t), .val (.long q), .second, .val (.int bi), .val (.int (mi + (1 : Int32))), .val (.int hi), .val (.int mi)] rfl ?_
                refine g_goto w d5_111 118 (by decide) (by decide) ?_
                refine g_goto w d5_118 77 (by decide) (by decide) ?_
                exact ih T (mi + 1) hi ((nl + nh) / 2 + 1) nh _ (own_inc hmi' (by have := srt.1; omega)) hhi (by omega) (by omega) hnh (by omega) (fun b hb => by rw [Int64.lt_iff_toInt_lt] at hc102; have := srt.2.1 b ((nl + nh) / 2) (by omega) (by omega); omega) hB (Or.inr ⟨_, rfl⟩) w
        exact LD xs.length T lo0 hi0 nl0 nh0 _ ha2 hb2 (by have := hb3.1; omega) ha3.1 hb3.1 (by
      apply Nat.le_of_not_lt; intro h; have h1 := ha3.2.1 nh0 h; have h2 := hb3.2.2 nh0 (Nat.le_refl _) (by have := ha3.1; omega); omega) (fun b hb => by have := ha3.2.1 b hb; omega) (fun b h1 h2 => by have := hb3.2.2 b h1 h2; omega) (Or.inl rfl) w
      · -- pc 38 (on: (xs.getD (xs.length - 1) 0) < q)
        refine g_aloadN w d5_38 rfl rfl 39 rfl ?_
        refine g_getf w d5_39 1 rfl 0 rfl 17 rfl Via.refl 42 rfl (fun T w => ?_)
        refine g_alen w d5_42 0 rfl len (by simpa using hlen) 43 rfl ?_
        exact g_ireti w d5_43 (by decide) (by decide) ⟨⟨len, xs.length, rfl, hlen, Nat.le_refl _, fun b hb => by
      rw [Int64.lt_iff_toInt_lt] at hc35; have := srt.2.1 b (xs.length - 1) (by omega) (by omega); omega, fun b h1 h2 => by omega⟩, rfl⟩
    · -- pc 19 (on: not (xs.getD 0 0) < q)
      refine g_iconst w d5_19 (0 : Int32) rfl 20 rfl ?_
      exact g_ireti w d5_20 (by decide) (by decide) ⟨⟨0, 0, rfl, rfl, Nat.zero_le _, fun b hb => by omega, fun b h1 h2 => by
      rw [Int64.lt_iff_toInt_lt] at hc16; have := srt.2.1 0 b h1 h2; omega⟩, rfl⟩
theorem pd_0 : parseMethodDescriptor "(I)J" = some ⟨[.int], some .long⟩ := by decide +kernel
theorem pd_1 : parseMethodDescriptor "(IIJJ)I" = some ⟨[.int, .int, .long, .long], some .int⟩ := by decide +kernel
theorem pd_2 : parseMethodDescriptor "([J)V" = some ⟨[(.array .long)], none⟩ := by decide +kernel
theorem pd_3 : parseMethodDescriptor "(J)I" = some ⟨[.long], some .int⟩ := by decide +kernel
theorem pn_0 : plainFor x = true := plainFor_of_name (by first | (simp [plainName, overriddenIn, x]; done) | decide +kernel)
set_option maxRecDepth 65536 in
set_option maxHeartbeats 40000000 in
theorem rm0 (l : Launch) (Z : State) (a0 : Array Value) (hw : ∀ d ∈ tables_1, d.before a0 Z = true) (n0 : Nat) (b r : Int64) (g1 g2 g3 sel : Int32)  :
    Con l x code maxLocals ret room_1 Z n0 #[(.long b), (.long r), (.int g1), (.int g2), (.int g3), (.int sel)] ([]) (fun v _ => v = some (.int 1)) := by
  refine Con.of (ws := tables_1) (a0 := a0) pn_0 hw ?_
  intro p e s m below meth cde T kb w
  refine g_entry #[.val (.long b), .second, .val (.long r), .second, .val (.int g1), .val (.int g2), .val (.int g3), .val (.int sel), .unset, .unset, .unset, .unset, .unset, .unset, .unset, .unset, .unset, .unset, .unset, .unset, .unset, .unset, .unset, .unset, .unset] (by first | (simp [entryFrame, mkF, argsToLocals, Value.category, maxLocals]; done) | rfl) ?_
  refine g_lloadN w at_0 rfl 1 rfl ?_
  refine g_iconst w at_1 (2 : Int32) rfl 2 rfl ?_
  refine g_lshr w at_2 3 rfl ?_
  obtain ⟨q0, hq0⟩ : ∃ own_z, own_z = ((shrL b (2 : Int32)) : Int64) := ⟨_, rfl⟩
  refine g_lstore w at_3 5 rfl hq0.symm #[.val (.long b), .second, .val (.long r), .second, .val (.int g1), .val (.int g2), .val (.int g3), .val (.int sel), .val (.long q0), .second, .unset, .unset, .unset, .unset, .unset, .unset, .unset, .unset, .unset, .unset, .unset, .unset, .unset, .unset, .unset] rfl ?_
  refine g_lload w at_5 rfl 7 rfl ?_
  refine g_iload w at_7 rfl 9 rfl ?_
  refine g_static w (argsL := [(.int g1)]) (rest := [(.long q0)]) (rm1 l Z a0 hw n0 g1 ([])) at_9 0 rfl 1 rfl 2 rfl 3 rfl ⟨by decide, by decide⟩ pd_0 rfl rfl rfl 2 rfl (by decide) (by decide) (by decide) (by decide) 12 rfl (fun T v L w h => ?_)
  obtain ⟨rfl, hL⟩ := h
  replace w := w.to hL
  refine g_ladd w at_12 13 rfl ?_
  obtain ⟨q1, hq1⟩ : ∃ own_z, own_z = ((q0 + (own_gap g1)) : Int64) := ⟨_, rfl⟩
  refine g_lstore w at_13 15 rfl hq1.symm #[.val (.long b), .second, .val (.long r), .second, .val (.int g1), .val (.int g2), .val (.int g3), .val (.int sel), .val (.long q0), .second, .val (.long q1), .second, .unset, .unset, .unset, .unset, .unset, .unset, .unset, .unset, .unset, .unset, .unset, .unset, .unset] rfl ?_
  refine g_lload w at_15 rfl 17 rfl ?_
  refine g_iload w at_17 rfl 19 rfl ?_
  refine g_static w (argsL := [(.int g2)]) (rest := [(.long q1)]) (rm1 l Z a0 hw n0 g2 ([])) at_19 0 rfl 1 rfl 2 rfl 3 rfl ⟨by decide, by decide⟩ pd_0 rfl rfl rfl 2 rfl (by decide) (by decide) (by decide) (by decide) 22 rfl (fun T v L w h => ?_)
  obtain ⟨rfl, hL⟩ := h
  replace w := w.to hL
  refine g_ladd w at_22 23 rfl ?_
  obtain ⟨q2, hq2⟩ : ∃ own_z, own_z = ((q1 + (own_gap g2)) : Int64) := ⟨_, rfl⟩
  refine g_lstore w at_23 25 rfl hq2.symm #[.val (.long b), .second, .val (.long r), .second, .val (.int g1), .val (.int g2), .val (.int g3), .val (.int sel), .val (.long q0), .second, .val (.long q1), .second, .val (.long q2), .second, .unset, .unset, .unset, .unset, .unset, .unset, .unset, .unset, .unset, .unset, .unset] rfl ?_
  refine g_lload w at_25 rfl 27 rfl ?_
  refine g_iload w at_27 rfl 29 rfl ?_
  refine g_static w (argsL := [(.int g3)]) (rest := [(.long q2)]) (rm1 l Z a0 hw n0 g3 ([])) at_29 0 rfl 1 rfl 2 rfl 3 rfl ⟨by decide, by decide⟩ pd_0 rfl rfl rfl 2 rfl (by decide) (by decide) (by decide) (by decide) 32 rfl (fun T v L w h => ?_)
  obtain ⟨rfl, hL⟩ := h
  replace w := w.to hL
  refine g_ladd w at_32 33 rfl ?_
  obtain ⟨q3, hq3⟩ : ∃ own_z, own_z = ((q2 + (own_gap g3)) : Int64) := ⟨_, rfl⟩
  refine g_lstore w at_33 35 rfl hq3.symm #[.val (.long b), .second, .val (.long r), .second, .val (.int g1), .val (.int g2), .val (.int g3), .val (.int sel), .val (.long q0), .second, .val (.long q1), .second, .val (.long q2), .second, .val (.long q3), .second, .unset, .unset, .unset, .unset, .unset, .unset, .unset, .unset, .unset] rfl ?_
  have four : own_four q0 q1 q2 q3 := by rw [hq3, hq2, hq1, hq0]; exact own_fourOf b g1 g2 g3
  refine g_iload w at_35 rfl 37 rfl ?_
  refine g_iconst w at_37 (5 : Int32) rfl 38 rfl ?_
  refine g_iushr w at_38 39 rfl ?_
  refine g_bipush w at_39 (7 : Int32) rfl 41 rfl ?_
  refine g_iand w at_41 42 rfl ?_
  refine g_iconst w at_42 (5 : Int32) rfl 43 rfl ?_
  refine g_irem w at_43 (by decide) 44 rfl ?_
  rcases own_n5 (ushrI sel 5) with hn | hn | hn | hn | hn
  · -- pc 44 n = 0
    refine g_int (x' := (0 : Int32)) hn ?_
    have srt0 := own_srt0 four
    refine g_istore w at_44 46 rfl rfl #[.val (.long b), .second, .val (.long r), .second, .val (.int g1), .val (.int g2), .val (.int g3), .val (.int sel), .val (.long q0), .second, .val (.long q1), .second, .val (.long q2), .second, .val (.long q3), .second, .val (.int (0 : Int32)), .unset, .unset, .unset, .unset, .unset, .unset, .unset, .unset] rfl ?_
    refine g_iload w at_46 rfl 48 rfl ?_
    refine g_if_ne w at_48 59 (by decide) (by decide) 51 rfl (fun h => absurd (by decide) h) (fun hc48 => ?_)
    refine g_iconst w at_51 (0 : Int32) rfl 52 rfl ?_
    refine g_newarr w at_52 4 rfl 0 0 (by decide) (by decide) (by decide) [] rfl (by decide) (by decide) 54 rfl (fun T b1 w => ?_)
    replace w := w.to (L' := [(b1, .inr (.long, []))]) rfl
    refine g_astore w at_54 56 rfl rfl #[.val (.long b), .second, .val (.long r), .second, .val (.int g1), .val (.int g2), .val (.int g3), .val (.int sel), .val (.long q0), .second, .val (.long q1), .second, .val (.long q2), .second, .val (.long q3), .second, .val (.int (0 : Int32)), .val (.ref b1), .unset, .unset, .unset, .unset, .unset, .unset, .unset] rfl ?_
    refine g_goto w at_56 156 (by decide) (by decide) ?_
    refine g_iload w at_156 rfl 158 rfl ?_
    refine g_bipush w at_158 (7 : Int32) rfl 160 rfl ?_
    refine g_iand w at_160 161 rfl ?_
    obtain ⟨mode, hmode⟩ : ∃ own_z, own_z = ((sel &&& (7 : Int32)) : Int32) := ⟨_, rfl⟩
    refine g_istore w at_161 163 rfl hmode.symm #[.val (.long b), .second, .val (.long r), .second, .val (.int g1), .val (.int g2), .val (.int g3), .val (.int sel), .val (.long q0), .second, .val (.long q1), .second, .val (.long q2), .second, .val (.long q3), .second, .val (.int (0 : Int32)), .val (.ref b1), .val (.int mode), .unset, .unset, .unset, .unset, .unset, .unset] rfl ?_
    refine g_iload w at_163 rfl 165 rfl ?_
    refine g_iconst w at_165 (3 : Int32) rfl 166 rfl ?_
    refine g_iushr w at_166 167 rfl ?_
    refine g_iconst w at_167 (3 : Int32) rfl 168 rfl ?_
    refine g_iand w at_168 169 rfl ?_
    refine g_i2l w at_169 170 rfl ?_
    refine g_lconst w at_170 (1 : Int64) rfl 171 rfl ?_
    refine g_lsub w at_171 172 rfl ?_
    obtain ⟨dlt, hdlt⟩ : ∃ own_z, own_z = (((((ushrI sel (3 : Int32)) &&& (3 : Int32)).toInt64) - (1 : Int64)) : Int64) := ⟨_, rfl⟩
    refine g_lstore w at_172 174 rfl hdlt.symm #[.val (.long b), .second, .val (.long r), .second, .val (.int g1), .val (.int g2), .val (.int g3), .val (.int sel), .val (.long q0), .second, .val (.long q1), .second, .val (.long q2), .second, .val (.long q3), .second, .val (.int (0 : Int32)), .val (.ref b1), .val (.int mode), .val (.long dlt), .second, .unset, .unset, .unset, .unset] rfl ?_
    have J266 : ∀ v : Int64, Go p e below Z n0 kb (EndN s room_1.cells room_1.slots) (fun v _ => v = some (.int 1)) T (mkF m 266 #[.val (.long b), .second, .val (.long r), .second, .val (.int g1), .val (.int g2), .val (.int g3), .val (.int sel), .val (.long q0), .second, .val (.long q1), .second, .val (.long q2), .second, .val (.long q3), .second, .val (.int (0 : Int32)), .val (.ref b1), .val (.int mode), .val (.long dlt), .second, .val (.long v), .second, .unset, .unset] []) := by
      intro v
      refine g_iload w at_266 rfl 268 rfl ?_
      refine g_iconst w at_268 (0 : Int32) rfl 269 rfl ?_
      refine g_lload w at_269 rfl 271 rfl ?_
      refine g_lload w at_271 rfl 273 rfl ?_
      refine g_static w (argsL := [(.int (0 : Int32)), (.int (0 : Int32)), (.long q0), (.long v)]) (rest := []) (rm2 l Z a0 hw n0 (0 : Int32) (0 : Int32) q0 v ([(b1, .inr (.long, []))])) at_273 5 rfl 6 rfl 2 rfl 7 rfl ⟨by decide, by decide⟩ pd_1 rfl rfl rfl 0 rfl (by decide) (by decide) (by decide) (by decide) 276 rfl (fun T v L w h => ?_)
      obtain ⟨rfl, hL⟩ := h
      replace w := w.to hL
      refine g_iload w at_276 rfl 278 rfl ?_
      refine g_iconst w at_278 (1 : Int32) rfl 279 rfl ?_
      refine g_lload w at_279 rfl 281 rfl ?_
      refine g_lload w at_281 rfl 283 rfl ?_
      refine g_static w (argsL := [(.int (0 : Int32)), (.int (1 : Int32)), (.long q1), (.long v)]) (rest := [(.int (own_below (0 : Int32) (0 : Int32) q0 v))]) (rm2 l Z a0 hw n0 (0 : Int32) (1 : Int32) q1 v ([(b1, .inr (.long, []))])) at_283 5 rfl 6 rfl 2 rfl 7 rfl ⟨by decide, by decide⟩ pd_1 rfl rfl rfl 1 rfl (by decide) (by decide) (by decide) (by decide) 286 rfl (fun T v L w h => ?_)
      obtain ⟨rfl, hL⟩ := h
      replace w := w.to hL
      refine g_iadd w at_286 287 rfl ?_
      refine g_iload w at_287 rfl 289 rfl ?_
      refine g_iconst w at_289 (2 : Int32) rfl 290 rfl ?_
      refine g_lload w at_290 rfl 292 rfl ?_
      refine g_lload w at_292 rfl 294 rfl ?_
      refine g_static w (argsL := [(.int (0 : Int32)), (.int (2 : Int32)), (.long q2), (.long v)]) (rest := [(.int ((own_below (0 : Int32) (0 : Int32) q0 v) + (own_below (0 : Int32) (1 : Int32) q1 v)))]) (rm2 l Z a0 hw n0 (0 : Int32) (2 : Int32) q2 v ([(b1, .inr (.long, []))])) at_294 5 rfl 6 rfl 2 rfl 7 rfl ⟨by decide, by decide⟩ pd_1 rfl rfl rfl 1 rfl (by decide) (by decide) (by decide) (by decide) 297 rfl (fun T v L w h => ?_)
      obtain ⟨rfl, hL⟩ := h
      replace w := w.to hL
      refine g_iadd w at_297 298 rfl ?_
      refine g_iload w at_298 rfl 300 rfl ?_
      refine g_iconst w at_300 (3 : Int32) rfl 301 rfl ?_
      refine g_lload w at_301 rfl 303 rfl ?_
      refine g_lload w at_303 rfl 305 rfl ?_
      refine g_static w (argsL := [(.int (0 : Int32)), (.int (3 : Int32)), (.long q3), (.long v)]) (rest := [(.int (((own_below (0 : Int32) (0 : Int32) q0 v) + (own_below (0 : Int32) (1 : Int32) q1 v)) + (own_below (0 : Int32) (2 : Int32) q2 v)))]) (rm2 l Z a0 hw n0 (0 : Int32) (3 : Int32) q3 v ([(b1, .inr (.long, []))])) at_305 5 rfl 6 rfl 2 rfl 7 rfl ⟨by decide, by decide⟩ pd_1 rfl rfl rfl 1 rfl (by decide) (by decide) (by decide) (by decide) 308 rfl (fun T v L w h => ?_)
      obtain ⟨rfl, hL⟩ := h
      replace w := w.to hL
      refine g_iadd w at_308 309 rfl ?_
      obtain ⟨ee, hee⟩ : ∃ own_z, own_z = (((((own_below (0 : Int32) (0 : Int32) q0 v) + (own_below (0 : Int32) (1 : Int32) q1 v)) + (own_below (0 : Int32) (2 : Int32) q2 v)) + (own_below (0 : Int32) (3 : Int32) q3 v)) : Int32) := ⟨_, rfl⟩
      refine g_istore w at_309 311 rfl hee.symm #[.val (.long b), .second, .val (.long r), .second, .val (.int g1), .val (.int g2), .val (.int g3), .val (.int sel), .val (.long q0), .second, .val (.long q1), .second, .val (.long q2), .second, .val (.long q3), .second, .val (.int (0 : Int32)), .val (.ref b1), .val (.int mode), .val (.long dlt), .second, .val (.long v), .second, .val (.int ee), .unset] rfl ?_
      refine g_new w [("com/example/leadhorizon/leadhorizon/calendar/SortedLongs", "values", "[J", .null), ("com/example/leadhorizon/leadhorizon/calendar/SortedLongs", "shift", "I", (.int (0 : Int32))), ("com/example/leadhorizon/leadhorizon/calendar/SortedLongs", "buckets", "[I", .null)] at_311 8 rfl 9 rfl 10 rfl (FOk.cons (Or.inr (w.hw (k := 18) rfl)) (ty := (.array .long)) (by decide) rfl (FOk.cons (Or.inr (w.hw (k := 21) rfl)) (ty := .int) (by decide) rfl (FOk.cons (Or.inr (w.hw (k := 24) rfl)) (ty := (.array .int)) (by decide) rfl trivial))) (by decide) (by decide) (by decide) 314 rfl (fun T b2 w => ?_)
      replace w := w.to (L' := [(b1, .inr (.long, [])), (b2, O_SortedLongs .null (.int (0 : Int32)) .null)]) rfl
      refine g_dup w at_314 rfl 315 rfl ?_
      refine g_aload w at_315 rfl rfl 317 rfl ?_
      refine g_ctor w (argsL := [(.ref b1)]) (rest := [(.ref b2)]) (rm3 l Z a0 hw n0 b2 b1 [] (0 : Int32) srt0 rfl) at_317 11 rfl 12 rfl 10 rfl 13 rfl rfl ⟨by decide, by decide⟩ pd_2 rfl rfl rfl 1 rfl (by decide) (by decide) (by decide) (by decide) 320 rfl (fun T v L w h => ?_)
      obtain ⟨rfl, bk, sh, k, bs, hk, h61, hbn, hbk, rfl⟩ := h
      refine g_astore w at_320 322 rfl rfl #[.val (.long b), .second, .val (.long r), .second, .val (.int g1), .val (.int g2), .val (.int g3), .val (.int sel), .val (.long q0), .second, .val (.long q1), .second, .val (.long q2), .second, .val (.long q3), .second, .val (.int (0 : Int32)), .val (.ref b1), .val (.int mode), .val (.long dlt), .second, .val (.long v), .second, .val (.int ee), .val (.ref b2)] rfl ?_
      refine g_aload w at_322 rfl rfl 324 rfl ?_
      refine g_lload w at_324 rfl 326 rfl ?_
      refine g_virt w (argsL := [(.long v)]) (rest := []) (rm5 l Z a0 hw n0 b2 b1 bk [] (0 : Int32) sh k bs v srt0 rfl hk h61 hbn hbk) at_326 1 rfl 25 rfl 26 rfl 10 rfl 29 rfl 28 rfl 27 rfl ⟨by decide, by decide⟩ pd_3 rfl rfl rfl 0 rfl (by decide) (by decide) (by decide) (by decide) 329 rfl (fun T v L w h => ?_)
      obtain ⟨⟨z, jz, rfl, hz, hcn⟩, rfl⟩ := h
      refine g_iload w at_329 rfl 331 rfl ?_
      refine g_icmp_ne w at_331 338 (by decide) (by decide) 334 rfl (fun h => absurd (by rw [hee]; exact own_sum0 q0 q1 q2 q3 v hz hcn) h) (fun hc331 => ?_)
      refine g_iconst w at_334 (1 : Int32) rfl 335 rfl ?_
      refine g_goto w at_335 339 (by decide) (by decide) ?_
      exact g_iretn w (by simp) at_339 (by decide) (by decide) rfl
    refine g_iload w at_174 rfl 176 rfl ?_
    refine g_if_ne w at_176 189 (by decide) (by decide) 179 rfl (fun hc176 => ?_) (fun hc176 => ?_)
    · -- pc 189 (taken: not mode = (0 : Int32))
      refine g_iload w at_189 rfl 191 rfl ?_
      refine g_iconst w at_191 (1 : Int32) rfl 192 rfl ?_
      refine g_icmp_ne w at_192 205 (by decide) (by decide) 195 rfl (fun hc192 => ?_) (fun hc192 => ?_)
      · -- pc 205 (taken: not mode = (1 : Int32))
        refine g_iload w at_205 rfl 207 rfl ?_
        refine g_iconst w at_207 (2 : Int32) rfl 208 rfl ?_
        refine g_icmp_ne w at_208 221 (by decide) (by decide) 211 rfl (fun hc208 => ?_) (fun hc208 => ?_)
        · -- pc 221 (taken: not mode = (2 : Int32))
          refine g_iload w at_221 rfl 223 rfl ?_
          refine g_iconst w at_223 (3 : Int32) rfl 224 rfl ?_
          refine g_icmp_ne w at_224 237 (by decide) (by decide) 227 rfl (fun hc224 => ?_) (fun hc224 => ?_)
          · -- pc 237 (taken: not mode = (3 : Int32))
            refine g_iload w at_237 rfl 239 rfl ?_
            refine g_bipush w at_239 (6 : Int32) rfl 241 rfl ?_
            refine g_icmp_ge w at_241 263 (by decide) (by decide) 244 rfl (fun hc241 => ?_) (fun hc241 => ?_)
            · -- pc 263 (taken: not mode < (6 : Int32))
              refine g_lloadN w at_263 rfl 264 rfl ?_
              refine g_lstore w at_264 266 rfl rfl #[.val (.long b), .second, .val (.long r), .second, .val (.int g1), .val (.int g2), .val (.int g3), .val (.int sel), .val (.long q0), .second, .val (.long q1), .second, .val (.long q2), .second, .val (.long q3), .second, .val (.int (0 : Int32)), .val (.ref b1), .val (.int mode), .val (.long dlt), .second, .val (.long r), .second, .unset, .unset] rfl ?_
              exact J266 r
            · -- pc 244 (on: mode < (6 : Int32))
              refine g_lload w at_244 rfl 246 rfl ?_
              refine g_lloadN w at_246 rfl 247 rfl ?_
              refine g_iconst w at_247 (1 : Int32) rfl 248 rfl ?_
              refine g_lushr w at_248 249 rfl ?_
              refine g_lload w at_249 rfl 251 rfl ?_
              refine g_lload w at_251 rfl 253 rfl ?_
              refine g_lsub w at_253 254 rfl ?_
              refine g_lconst w at_254 (1 : Int64) rfl 255 rfl ?_
              refine g_ladd w at_255 256 rfl ?_
              refine g_lrem w at_256 (own_dv four) 257 rfl ?_
              refine g_ladd w at_257 258 rfl ?_
              refine g_lstore w at_258 260 rfl rfl #[.val (.long b), .second, .val (.long r), .second, .val (.int g1), .val (.int g2), .val (.int g3), .val (.int sel), .val (.long q0), .second, .val (.long q1), .second, .val (.long q2), .second, .val (.long q3), .second, .val (.int (0 : Int32)), .val (.ref b1), .val (.int mode), .val (.long dlt), .second, .val (.long (q0 + ((ushrL r (1 : Int32)) % ((q3 - q0) + (1 : Int64))))), .second, .unset, .unset] rfl ?_
              refine g_goto w at_260 266 (by decide) (by decide) ?_
              exact J266 (q0 + ((ushrL r (1 : Int32)) % ((q3 - q0) + (1 : Int64))))
          · -- pc 227 (on: mode = (3 : Int32))
            refine g_lload w at_227 rfl 229 rfl ?_
            refine g_lload w at_229 rfl 231 rfl ?_
            refine g_ladd w at_231 232 rfl ?_
            refine g_lstore w at_232 234 rfl rfl #[.val (.long b), .second, .val (.long r), .second, .val (.int g1), .val (.int g2), .val (.int g3), .val (.int sel), .val (.long q0), .second, .val (.long q1), .second, .val (.long q2), .second, .val (.long q3), .second, .val (.int (0 : Int32)), .val (.ref b1), .val (.int mode), .val (.long dlt), .second, .val (.long (q3 + dlt)), .second, .unset, .unset] rfl ?_
            refine g_goto w at_234 266 (by decide) (by decide) ?_
            exact J266 (q3 + dlt)
        · -- pc 211 (on: mode = (2 : Int32))
          refine g_lload w at_211 rfl 213 rfl ?_
          refine g_lload w at_213 rfl 215 rfl ?_
          refine g_ladd w at_215 216 rfl ?_
          refine g_lstore w at_216 218 rfl rfl #[.val (.long b), .second, .val (.long r), .second, .val (.int g1), .val (.int g2), .val (.int g3), .val (.int sel), .val (.long q0), .second, .val (.long q1), .second, .val (.long q2), .second, .val (.long q3), .second, .val (.int (0 : Int32)), .val (.ref b1), .val (.int mode), .val (.long dlt), .second, .val (.long (q2 + dlt)), .second, .unset, .unset] rfl ?_
          refine g_goto w at_218 266 (by decide) (by decide) ?_
          exact J266 (q2 + dlt)
      · -- pc 195 (on: mode = (1 : Int32))
        refine g_lload w at_195 rfl 197 rfl ?_
        refine g_lload w at_197 rfl 199 rfl ?_
        refine g_ladd w at_199 200 rfl ?_
        refine g_lstore w at_200 202 rfl rfl #[.val (.long b), .second, .val (.long r), .second, .val (.int g1), .val (.int g2), .val (.int g3), .val (.int sel), .val (.long q0), .second, .val (.long q1), .second, .val (.long q2), .second, .val (.long q3), .second, .val (.int (0 : Int32)), .val (.ref b1), .val (.int mode), .val (.long dlt), .second, .val (.long (q1 + dlt)), .second, .unset, .unset] rfl ?_
        refine g_goto w at_202 266 (by decide) (by decide) ?_
        exact J266 (q1 + dlt)
    · -- pc 179 (on: mode = (0 : Int32))
      refine g_lload w at_179 rfl 181 rfl ?_
      refine g_lload w at_181 rfl 183 rfl ?_
      refine g_ladd w at_183 184 rfl ?_
      refine g_lstore w at_184 186 rfl rfl #[.val (.long b), .second, .val (.long r), .second, .val (.int g1), .val (.int g2), .val (.int g3), .val (.int sel), .val (.long q0), .second, .val (.long q1), .second, .val (.long q2), .second, .val (.long q3), .second, .val (.int (0 : Int32)), .val (.ref b1), .val (.int mode), .val (.long dlt), .second, .val (.long (q0 + dlt)), .second, .unset, .unset] rfl ?_
      refine g_goto w at_186 266 (by decide) (by decide) ?_
      exact J266 (q0 + dlt)
  · -- pc 44 n = 1
    refine g_int (x' := (1 : Int32)) hn ?_
    have srt1 := own_srt1 four
    refine g_istore w at_44 46 rfl rfl #[.val (.long b), .second, .val (.long r), .second, .val (.int g1), .val (.int g2), .val (.int g3), .val (.int sel), .val (.long q0), .second, .val (.long q1), .second, .val (.long q2), .second, .val (.long q3), .second, .val (.int (1 : Int32)), .unset, .unset, .unset, .unset, .unset, .unset, .unset, .unset] rfl ?_
    refine g_iload w at_46 rfl 48 rfl ?_
    refine g_if_ne w at_48 59 (by decide) (by decide) 51 rfl (fun hc48 => ?_) (fun h => absurd h (by decide))
    refine g_iload w at_59 rfl 61 rfl ?_
    refine g_iconst w at_61 (1 : Int32) rfl 62 rfl ?_
    refine g_icmp_ne w at_62 78 (by decide) (by decide) 65 rfl (fun h => absurd (by decide) h) (fun hc62 => ?_)
    refine g_iconst w at_65 (1 : Int32) rfl 66 rfl ?_
    refine g_newarr w at_66 4 rfl 1 1 (by decide) (by decide) (by decide) [(.long (0 : Int64))] rfl (by decide) (by decide) 68 rfl (fun T b3 w => ?_)
    replace w := w.to (L' := [(b3, .inr (.long, [(.long (0 : Int64))]))]) rfl
    refine g_dup w at_68 rfl 69 rfl ?_
    refine g_iconst w at_69 (0 : Int32) rfl 70 rfl ?_
    refine g_lload w at_70 rfl 72 rfl ?_
    refine g_lastore w at_72 0 rfl 0 (by decide) (Nat.le_of_ble_eq_true rfl) (.long q0) rfl 73 rfl (fun T w => ?_)
    replace w := w.to (L' := [(b3, .inr (.long, [(.long q0)]))]) rfl
    refine g_astore w at_73 75 rfl rfl #[.val (.long b), .second, .val (.long r), .second, .val (.int g1), .val (.int g2), .val (.int g3), .val (.int sel), .val (.long q0), .second, .val (.long q1), .second, .val (.long q2), .second, .val (.long q3), .second, .val (.int (1 : Int32)), .val (.ref b3), .unset, .unset, .unset, .unset, .unset, .unset, .unset] rfl ?_
    refine g_goto w at_75 156 (by decide) (by decide) ?_
    refine g_iload w at_156 rfl 158 rfl ?_
    refine g_bipush w at_158 (7 : Int32) rfl 160 rfl ?_
    refine g_iand w at_160 161 rfl ?_
    obtain ⟨mode, hmode⟩ : ∃ own_z, own_z = ((sel &&& (7 : Int32)) : Int32) := ⟨_, rfl⟩
    refine g_istore w at_161 163 rfl hmode.symm #[.val (.long b), .second, .val (.long r), .second, .val (.int g1), .val (.int g2), .val (.int g3), .val (.int sel), .val (.long q0), .second, .val (.long q1), .second, .val (.long q2), .second, .val (.long q3), .second, .val (.int (1 : Int32)), .val (.ref b3), .val (.int mode), .unset, .unset, .unset, .unset, .unset, .unset] rfl ?_
    refine g_iload w at_163 rfl 165 rfl ?_
    refine g_iconst w at_165 (3 : Int32) rfl 166 rfl ?_
    refine g_iushr w at_166 167 rfl ?_
    refine g_iconst w at_167 (3 : Int32) rfl 168 rfl ?_
    refine g_iand w at_168 169 rfl ?_
    refine g_i2l w at_169 170 rfl ?_
    refine g_lconst w at_170 (1 : Int64) rfl 171 rfl ?_
    refine g_lsub w at_171 172 rfl ?_
    obtain ⟨dlt, hdlt⟩ : ∃ own_z, own_z = (((((ushrI sel (3 : Int32)) &&& (3 : Int32)).toInt64) - (1 : Int64)) : Int64) := ⟨_, rfl⟩
    refine g_lstore w at_172 174 rfl hdlt.symm #[.val (.long b), .second, .val (.long r), .second, .val (.int g1), .val (.int g2), .val (.int g3), .val (.int sel), .val (.long q0), .second, .val (.long q1), .second, .val (.long q2), .second, .val (.long q3), .second, .val (.int (1 : Int32)), .val (.ref b3), .val (.int mode), .val (.long dlt), .second, .unset, .unset, .unset, .unset] rfl ?_
    have J266 : ∀ v : Int64, Go p e below Z n0 kb (EndN s room_1.cells room_1.slots) (fun v _ => v = some (.int 1)) T (mkF m 266 #[.val (.long b), .second, .val (.long r), .second, .val (.int g1), .val (.int g2), .val (.int g3), .val (.int sel), .val (.long q0), .second, .val (.long q1), .second, .val (.long q2), .second, .val (.long q3), .second, .val (.int (1 : Int32)), .val (.ref b3), .val (.int mode), .val (.long dlt), .second, .val (.long v), .second, .unset, .unset] []) := by
      intro v
      refine g_iload w at_266 rfl 268 rfl ?_
      refine g_iconst w at_268 (0 : Int32) rfl 269 rfl ?_
      refine g_lload w at_269 rfl 271 rfl ?_
      refine g_lload w at_271 rfl 273 rfl ?_
      refine g_static w (argsL := [(.int (1 : Int32)), (.int (0 : Int32)), (.long q0), (.long v)]) (rest := []) (rm2 l Z a0 hw n0 (1 : Int32) (0 : Int32) q0 v ([(b3, .inr (.long, [(.long q0)]))])) at_273 5 rfl 6 rfl 2 rfl 7 rfl ⟨by decide, by decide⟩ pd_1 rfl rfl rfl 0 rfl (by decide) (by decide) (by decide) (by decide) 276 rfl (fun T v L w h => ?_)
      obtain ⟨rfl, hL⟩ := h
      replace w := w.to hL
      refine g_iload w at_276 rfl 278 rfl ?_
      refine g_iconst w at_278 (1 : Int32) rfl 279 rfl ?_
      refine g_lload w at_279 rfl 281 rfl ?_
      refine g_lload w at_281 rfl 283 rfl ?_
      refine g_static w (argsL := [(.int (1 : Int32)), (.int (1 : Int32)), (.long q1), (.long v)]) (rest := [(.int (own_below (1 : Int32) (0 : Int32) q0 v))]) (rm2 l Z a0 hw n0 (1 : Int32) (1 : Int32) q1 v ([(b3, .inr (.long, [(.long q0)]))])) at_283 5 rfl 6 rfl 2 rfl 7 rfl ⟨by decide, by decide⟩ pd_1 rfl rfl rfl 1 rfl (by decide) (by decide) (by decide) (by decide) 286 rfl (fun T v L w h => ?_)
      obtain ⟨rfl, hL⟩ := h
      replace w := w.to hL
      refine g_iadd w at_286 287 rfl ?_
      refine g_iload w at_287 rfl 289 rfl ?_
      refine g_iconst w at_289 (2 : Int32) rfl 290 rfl ?_
      refine g_lload w at_290 rfl 292 rfl ?_
      refine g_lload w at_292 rfl 294 rfl ?_
      refine g_static w (argsL := [(.int (1 : Int32)), (.int (2 : Int32)), (.long q2), (.long v)]) (rest := [(.int ((own_below (1 : Int32) (0 : Int32) q0 v) + (own_below (1 : Int32) (1 : Int32) q1 v)))]) (rm2 l Z a0 hw n0 (1 : Int32) (2 : Int32) q2 v ([(b3, .inr (.long, [(.long q0)]))])) at_294 5 rfl 6 rfl 2 rfl 7 rfl ⟨by decide, by decide⟩ pd_1 rfl rfl rfl 1 rfl (by decide) (by decide) (by decide) (by decide) 297 rfl (fun T v L w h => ?_)
      obtain ⟨rfl, hL⟩ := h
      replace w := w.to hL
      refine g_iadd w at_297 298 rfl ?_
      refine g_iload w at_298 rfl 300 rfl ?_
      refine g_iconst w at_300 (3 : Int32) rfl 301 rfl ?_
      refine g_lload w at_301 rfl 303 rfl ?_
      refine g_lload w at_303 rfl 305 rfl ?_
      refine g_static w (argsL := [(.int (1 : Int32)), (.int (3 : Int32)), (.long q3), (.long v)]) (rest := [(.int (((own_below (1 : Int32) (0 : Int32) q0 v) + (own_below (1 : Int32) (1 : Int32) q1 v)) + (own_below (1 : Int32) (2 : Int32) q2 v)))]) (rm2 l Z a0 hw n0 (1 : Int32) (3 : Int32) q3 v ([(b3, .inr (.long, [(.long q0)]))])) at_305 5 rfl 6 rfl 2 rfl 7 rfl ⟨by decide, by decide⟩ pd_1 rfl rfl rfl 1 rfl (by decide) (by decide) (by decide) (by decide) 308 rfl (fun T v L w h => ?_)
      obtain ⟨rfl, hL⟩ := h
      replace w := w.to hL
      refine g_iadd w at_308 309 rfl ?_
      obtain ⟨ee, hee⟩ : ∃ own_z, own_z = (((((own_below (1 : Int32) (0 : Int32) q0 v) + (own_below (1 : Int32) (1 : Int32) q1 v)) + (own_below (1 : Int32) (2 : Int32) q2 v)) + (own_below (1 : Int32) (3 : Int32) q3 v)) : Int32) := ⟨_, rfl⟩
      refine g_istore w at_309 311 rfl hee.symm #[.val (.long b), .second, .val (.long r), .second, .val (.int g1), .val (.int g2), .val (.int g3), .val (.int sel), .val (.long q0), .second, .val (.long q1), .second, .val (.long q2), .second, .val (.long q3), .second, .val (.int (1 : Int32)), .val (.ref b3), .val (.int mode), .val (.long dlt), .second, .val (.long v), .second, .val (.int ee), .unset] rfl ?_
      refine g_new w [("com/example/leadhorizon/leadhorizon/calendar/SortedLongs", "values", "[J", .null), ("com/example/leadhorizon/leadhorizon/calendar/SortedLongs", "shift", "I", (.int (0 : Int32))), ("com/example/leadhorizon/leadhorizon/calendar/SortedLongs", "buckets", "[I", .null)] at_311 8 rfl 9 rfl 10 rfl (FOk.cons (Or.inr (w.hw (k := 18) rfl)) (ty := (.array .long)) (by decide) rfl (FOk.cons (Or.inr (w.hw (k := 21) rfl)) (ty := .int) (by decide) rfl (FOk.cons (Or.inr (w.hw (k := 24) rfl)) (ty := (.array .int)) (by decide) rfl trivial))) (by decide) (by decide) (by decide) 314 rfl (fun T b4 w => ?_)
      replace w := w.to (L' := [(b3, .inr (.long, [(.long q0)])), (b4, O_SortedLongs .null (.int (0 : Int32)) .null)]) rfl
      refine g_dup w at_314 rfl 315 rfl ?_
      refine g_aload w at_315 rfl rfl 317 rfl ?_
      refine g_ctor w (argsL := [(.ref b3)]) (rest := [(.ref b4)]) (rm3 l Z a0 hw n0 b4 b3 [q0] (1 : Int32) srt1 rfl) at_317 11 rfl 12 rfl 10 rfl 13 rfl rfl ⟨by decide, by decide⟩ pd_2 rfl rfl rfl 1 rfl (by decide) (by decide) (by decide) (by decide) 320 rfl (fun T v L w h => ?_)
      obtain ⟨rfl, bk, sh, k, bs, hk, h61, hbn, hbk, rfl⟩ := h
      refine g_astore w at_320 322 rfl rfl #[.val (.long b), .second, .val (.long r), .second, .val (.int g1), .val (.int g2), .val (.int g3), .val (.int sel), .val (.long q0), .second, .val (.long q1), .second, .val (.long q2), .second, .val (.long q3), .second, .val (.int (1 : Int32)), .val (.ref b3), .val (.int mode), .val (.long dlt), .second, .val (.long v), .second, .val (.int ee), .val (.ref b4)] rfl ?_
      refine g_aload w at_322 rfl rfl 324 rfl ?_
      refine g_lload w at_324 rfl 326 rfl ?_
      refine g_virt w (argsL := [(.long v)]) (rest := []) (rm5 l Z a0 hw n0 b4 b3 bk [q0] (1 : Int32) sh k bs v srt1 rfl hk h61 hbn hbk) at_326 1 rfl 25 rfl 26 rfl 10 rfl 29 rfl 28 rfl 27 rfl ⟨by decide, by decide⟩ pd_3 rfl rfl rfl 0 rfl (by decide) (by decide) (by decide) (by decide) 329 rfl (fun T v L w h => ?_)
      obtain ⟨⟨z, jz, rfl, hz, hcn⟩, rfl⟩ := h
      refine g_iload w at_329 rfl 331 rfl ?_
      refine g_icmp_ne w at_331 338 (by decide) (by decide) 334 rfl (fun h => absurd (by rw [hee]; exact own_sum1 q0 q1 q2 q3 v hz hcn) h) (fun hc331 => ?_)
      refine g_iconst w at_334 (1 : Int32) rfl 335 rfl ?_
      refine g_goto w at_335 339 (by decide) (by decide) ?_
      exact g_iretn w (by simp) at_339 (by decide) (by decide) rfl
    refine g_iload w at_174 rfl 176 rfl ?_
    refine g_if_ne w at_176 189 (by decide) (by decide) 179 rfl (fun hc176 => ?_) (fun hc176 => ?_)
    · -- pc 189 (taken: not mode = (0 : Int32))
      refine g_iload w at_189 rfl 191 rfl ?_
      refine g_iconst w at_191 (1 : Int32) rfl 192 rfl ?_
      refine g_icmp_ne w at_192 205 (by decide) (by decide) 195 rfl (fun hc192 => ?_) (fun hc192 => ?_)
      · -- pc 205 (taken: not mode = (1 : Int32))
        refine g_iload w at_205 rfl 207 rfl ?_
        refine g_iconst w at_207 (2 : Int32) rfl 208 rfl ?_
        refine g_icmp_ne w at_208 221 (by decide) (by decide) 211 rfl (fun hc208 => ?_) (fun hc208 => ?_)
        · -- pc 221 (taken: not mode = (2 : Int32))
          refine g_iload w at_221 rfl 223 rfl ?_
          refine g_iconst w at_223 (3 : Int32) rfl 224 rfl ?_
          refine g_icmp_ne w at_224 237 (by decide) (by decide) 227 rfl (fun hc224 => ?_) (fun hc224 => ?_)
          · -- pc 237 (taken: not mode = (3 : Int32))
            refine g_iload w at_237 rfl 239 rfl ?_
            refine g_bipush w at_239 (6 : Int32) rfl 241 rfl ?_
            refine g_icmp_ge w at_241 263 (by decide) (by decide) 244 rfl (fun hc241 => ?_) (fun hc241 => ?_)
            · -- pc 263 (taken: not mode < (6 : Int32))
              refine g_lloadN w at_263 rfl 264 rfl ?_
              refine g_lstore w at_264 266 rfl rfl #[.val (.long b), .second, .val (.long r), .second, .val (.int g1), .val (.int g2), .val (.int g3), .val (.int sel), .val (.long q0), .second, .val (.long q1), .second, .val (.long q2), .second, .val (.long q3), .second, .val (.int (1 : Int32)), .val (.ref b3), .val (.int mode), .val (.long dlt), .second, .val (.long r), .second, .unset, .unset] rfl ?_
              exact J266 r
            · -- pc 244 (on: mode < (6 : Int32))
              refine g_lload w at_244 rfl 246 rfl ?_
              refine g_lloadN w at_246 rfl 247 rfl ?_
              refine g_iconst w at_247 (1 : Int32) rfl 248 rfl ?_
              refine g_lushr w at_248 249 rfl ?_
              refine g_lload w at_249 rfl 251 rfl ?_
              refine g_lload w at_251 rfl 253 rfl ?_
              refine g_lsub w at_253 254 rfl ?_
              refine g_lconst w at_254 (1 : Int64) rfl 255 rfl ?_
              refine g_ladd w at_255 256 rfl ?_
              refine g_lrem w at_256 (own_dv four) 257 rfl ?_
              refine g_ladd w at_257 258 rfl ?_
              refine g_lstore w at_258 260 rfl rfl #[.val (.long b), .second, .val (.long r), .second, .val (.int g1), .val (.int g2), .val (.int g3), .val (.int sel), .val (.long q0), .second, .val (.long q1), .second, .val (.long q2), .second, .val (.long q3), .second, .val (.int (1 : Int32)), .val (.ref b3), .val (.int mode), .val (.long dlt), .second, .val (.long (q0 + ((ushrL r (1 : Int32)) % ((q3 - q0) + (1 : Int64))))), .second, .unset, .unset] rfl ?_
              refine g_goto w at_260 266 (by decide) (by decide) ?_
              exact J266 (q0 + ((ushrL r (1 : Int32)) % ((q3 - q0) + (1 : Int64))))
          · -- pc 227 (on: mode = (3 : Int32))
            refine g_lload w at_227 rfl 229 rfl ?_
            refine g_lload w at_229 rfl 231 rfl ?_
            refine g_ladd w at_231 232 rfl ?_
            refine g_lstore w at_232 234 rfl rfl #[.val (.long b), .second, .val (.long r), .second, .val (.int g1), .val (.int g2), .val (.int g3), .val (.int sel), .val (.long q0), .second, .val (.long q1), .second, .val (.long q2), .second, .val (.long q3), .second, .val (.int (1 : Int32)), .val (.ref b3), .val (.int mode), .val (.long dlt), .second, .val (.long (q3 + dlt)), .second, .unset, .unset] rfl ?_
            refine g_goto w at_234 266 (by decide) (by decide) ?_
            exact J266 (q3 + dlt)
        · -- pc 211 (on: mode = (2 : Int32))
          refine g_lload w at_211 rfl 213 rfl ?_
          refine g_lload w at_213 rfl 215 rfl ?_
          refine g_ladd w at_215 216 rfl ?_
          refine g_lstore w at_216 218 rfl rfl #[.val (.long b), .second, .val (.long r), .second, .val (.int g1), .val (.int g2), .val (.int g3), .val (.int sel), .val (.long q0), .second, .val (.long q1), .second, .val (.long q2), .second, .val (.long q3), .second, .val (.int (1 : Int32)), .val (.ref b3), .val (.int mode), .val (.long dlt), .second, .val (.long (q2 + dlt)), .second, .unset, .unset] rfl ?_
          refine g_goto w at_218 266 (by decide) (by decide) ?_
          exact J266 (q2 + dlt)
      · -- pc 195 (on: mode = (1 : Int32))
        refine g_lload w at_195 rfl 197 rfl ?_
        refine g_lload w at_197 rfl 199 rfl ?_
        refine g_ladd w at_199 200 rfl ?_
        refine g_lstore w at_200 202 rfl rfl #[.val (.long b), .second, .val (.long r), .second, .val (.int g1), .val (.int g2), .val (.int g3), .val (.int sel), .val (.long q0), .second, .val (.long q1), .second, .val (.long q2), .second, .val (.long q3), .second, .val (.int (1 : Int32)), .val (.ref b3), .val (.int mode), .val (.long dlt), .second, .val (.long (q1 + dlt)), .second, .unset, .unset] rfl ?_
        refine g_goto w at_202 266 (by decide) (by decide) ?_
        exact J266 (q1 + dlt)
    · -- pc 179 (on: mode = (0 : Int32))
      refine g_lload w at_179 rfl 181 rfl ?_
      refine g_lload w at_181 rfl 183 rfl ?_
      refine g_ladd w at_183 184 rfl ?_
      refine g_lstore w at_184 186 rfl rfl #[.val (.long b), .second, .val (.long r), .second, .val (.int g1), .val (.int g2), .val (.int g3), .val (.int sel), .val (.long q0), .second, .val (.long q1), .second, .val (.long q2), .second, .val (.long q3), .second, .val (.int (1 : Int32)), .val (.ref b3), .val (.int mode), .val (.long dlt), .second, .val (.long (q0 + dlt)), .second, .unset, .unset] rfl ?_
      refine g_goto w at_186 266 (by decide) (by decide) ?_
      exact J266 (q0 + dlt)
  · -- pc 44 n = 2
    refine g_int (x' := (2 : Int32)) hn ?_
    have srt2 := own_srt2 four
    refine g_istore w at_44 46 rfl rfl #[.val (.long b), .second, .val (.long r), .second, .val (.int g1), .val (.int g2), .val (.int g3), .val (.int sel), .val (.long q0), .second, .val (.long q1), .second, .val (.long q2), .second, .val (.long q3), .second, .val (.int (2 : Int32)), .unset, .unset, .unset, .unset, .unset, .unset, .unset, .unset] rfl ?_
    refine g_iload w at_46 rfl 48 rfl ?_
    refine g_if_ne w at_48 59 (by decide) (by decide) 51 rfl (fun hc48 => ?_) (fun h => absurd h (by decide))
    refine g_iload w at_59 rfl 61 rfl ?_
    refine g_iconst w at_61 (1 : Int32) rfl 62 rfl ?_
    refine g_icmp_ne w at_62 78 (by decide) (by decide) 65 rfl (fun hc62 => ?_) (fun h => absurd h (by decide))
    refine g_iload w at_78 rfl 80 rfl ?_
    refine g_iconst w at_80 (2 : Int32) rfl 81 rfl ?_
    refine g_icmp_ne w at_81 102 (by decide) (by decide) 84 rfl (fun h => absurd (by decide) h) (fun hc81 => ?_)
    refine g_iconst w at_84 (2 : Int32) rfl 85 rfl ?_
    refine g_newarr w at_85 4 rfl 2 2 (by decide) (by decide) (by decide) [(.long (0 : Int64)), (.long (0 : Int64))] rfl (by decide) (by decide) 87 rfl (fun T b5 w => ?_)
    replace w := w.to (L' := [(b5, .inr (.long, [(.long (0 : Int64)), (.long (0 : Int64))]))]) rfl
    refine g_dup w at_87 rfl 88 rfl ?_
    refine g_iconst w at_88 (0 : Int32) rfl 89 rfl ?_
    refine g_lload w at_89 rfl 91 rfl ?_
    refine g_lastore w at_91 0 rfl 0 (by decide) (Nat.le_of_ble_eq_true rfl) (.long q0) rfl 92 rfl (fun T w => ?_)
    replace w := w.to (L' := [(b5, .inr (.long, [(.long q0), (.long (0 : Int64))]))]) rfl
    refine g_dup w at_92 rfl 93 rfl ?_
    refine g_iconst w at_93 (1 : Int32) rfl 94 rfl ?_
    refine g_lload w at_94 rfl 96 rfl ?_
    refine g_lastore w at_96 0 rfl 1 (by decide) (Nat.le_of_ble_eq_true rfl) (.long q1) rfl 97 rfl (fun T w => ?_)
    replace w := w.to (L' := [(b5, .inr (.long, [(.long q0), (.long q1)]))]) rfl
    refine g_astore w at_97 99 rfl rfl #[.val (.long b), .second, .val (.long r), .second, .val (.int g1), .val (.int g2), .val (.int g3), .val (.int sel), .val (.long q0), .second, .val (.long q1), .second, .val (.long q2), .second, .val (.long q3), .second, .val (.int (2 : Int32)), .val (.ref b5), .unset, .unset, .unset, .unset, .unset, .unset, .unset] rfl ?_
    refine g_goto w at_99 156 (by decide) (by decide) ?_
    refine g_iload w at_156 rfl 158 rfl ?_
    refine g_bipush w at_158 (7 : Int32) rfl 160 rfl ?_
    refine g_iand w at_160 161 rfl ?_
    obtain ⟨mode, hmode⟩ : ∃ own_z, own_z = ((sel &&& (7 : Int32)) : Int32) := ⟨_, rfl⟩
    refine g_istore w at_161 163 rfl hmode.symm #[.val (.long b), .second, .val (.long r), .second, .val (.int g1), .val (.int g2), .val (.int g3), .val (.int sel), .val (.long q0), .second, .val (.long q1), .second, .val (.long q2), .second, .val (.long q3), .second, .val (.int (2 : Int32)), .val (.ref b5), .val (.int mode), .unset, .unset, .unset, .unset, .unset, .unset] rfl ?_
    refine g_iload w at_163 rfl 165 rfl ?_
    refine g_iconst w at_165 (3 : Int32) rfl 166 rfl ?_
    refine g_iushr w at_166 167 rfl ?_
    refine g_iconst w at_167 (3 : Int32) rfl 168 rfl ?_
    refine g_iand w at_168 169 rfl ?_
    refine g_i2l w at_169 170 rfl ?_
    refine g_lconst w at_170 (1 : Int64) rfl 171 rfl ?_
    refine g_lsub w at_171 172 rfl ?_
    obtain ⟨dlt, hdlt⟩ : ∃ own_z, own_z = (((((ushrI sel (3 : Int32)) &&& (3 : Int32)).toInt64) - (1 : Int64)) : Int64) := ⟨_, rfl⟩
    refine g_lstore w at_172 174 rfl hdlt.symm #[.val (.long b), .second, .val (.long r), .second, .val (.int g1), .val (.int g2), .val (.int g3), .val (.int sel), .val (.long q0), .second, .val (.long q1), .second, .val (.long q2), .second, .val (.long q3), .second, .val (.int (2 : Int32)), .val (.ref b5), .val (.int mode), .val (.long dlt), .second, .unset, .unset, .unset, .unset] rfl ?_
    have J266 : ∀ v : Int64, Go p e below Z n0 kb (EndN s room_1.cells room_1.slots) (fun v _ => v = some (.int 1)) T (mkF m 266 #[.val (.long b), .second, .val (.long r), .second, .val (.int g1), .val (.int g2), .val (.int g3), .val (.int sel), .val (.long q0), .second, .val (.long q1), .second, .val (.long q2), .second, .val (.long q3), .second, .val (.int (2 : Int32)), .val (.ref b5), .val (.int mode), .val (.long dlt), .second, .val (.long v), .second, .unset, .unset] []) := by
      intro v
      refine g_iload w at_266 rfl 268 rfl ?_
      refine g_iconst w at_268 (0 : Int32) rfl 269 rfl ?_
      refine g_lload w at_269 rfl 271 rfl ?_
      refine g_lload w at_271 rfl 273 rfl ?_
      refine g_static w (argsL := [(.int (2 : Int32)), (.int (0 : Int32)), (.long q0), (.long v)]) (rest := []) (rm2 l Z a0 hw n0 (2 : Int32) (0 : Int32) q0 v ([(b5, .inr (.long, [(.long q0), (.long q1)]))])) at_273 5 rfl 6 rfl 2 rfl 7 rfl ⟨by decide, by decide⟩ pd_1 rfl rfl rfl 0 rfl (by decide) (by decide) (by decide) (by decide) 276 rfl (fun T v L w h => ?_)
      obtain ⟨rfl, hL⟩ := h
      replace w := w.to hL
      refine g_iload w at_276 rfl 278 rfl ?_
      refine g_iconst w at_278 (1 : Int32) rfl 279 rfl ?_
      refine g_lload w at_279 rfl 281 rfl ?_
      refine g_lload w at_281 rfl 283 rfl ?_
      refine g_static w (argsL := [(.int (2 : Int32)), (.int (1 : Int32)), (.long q1), (.long v)]) (rest := [(.int (own_below (2 : Int32) (0 : Int32) q0 v))]) (rm2 l Z a0 hw n0 (2 : Int32) (1 : Int32) q1 v ([(b5, .inr (.long, [(.long q0), (.long q1)]))])) at_283 5 rfl 6 rfl 2 rfl 7 rfl ⟨by decide, by decide⟩ pd_1 rfl rfl rfl 1 rfl (by decide) (by decide) (by decide) (by decide) 286 rfl (fun T v L w h => ?_)
      obtain ⟨rfl, hL⟩ := h
      replace w := w.to hL
      refine g_iadd w at_286 287 rfl ?_
      refine g_iload w at_287 rfl 289 rfl ?_
      refine g_iconst w at_289 (2 : Int32) rfl 290 rfl ?_
      refine g_lload w at_290 rfl 292 rfl ?_
      refine g_lload w at_292 rfl 294 rfl ?_
      refine g_static w (argsL := [(.int (2 : Int32)), (.int (2 : Int32)), (.long q2), (.long v)]) (rest := [(.int ((own_below (2 : Int32) (0 : Int32) q0 v) + (own_below (2 : Int32) (1 : Int32) q1 v)))]) (rm2 l Z a0 hw n0 (2 : Int32) (2 : Int32) q2 v ([(b5, .inr (.long, [(.long q0), (.long q1)]))])) at_294 5 rfl 6 rfl 2 rfl 7 rfl ⟨by decide, by decide⟩ pd_1 rfl rfl rfl 1 rfl (by decide) (by decide) (by decide) (by decide) 297 rfl (fun T v L w h => ?_)
      obtain ⟨rfl, hL⟩ := h
      replace w := w.to hL
      refine g_iadd w at_297 298 rfl ?_
      refine g_iload w at_298 rfl 300 rfl ?_
      refine g_iconst w at_300 (3 : Int32) rfl 301 rfl ?_
      refine g_lload w at_301 rfl 303 rfl ?_
      refine g_lload w at_303 rfl 305 rfl ?_
      refine g_static w (argsL := [(.int (2 : Int32)), (.int (3 : Int32)), (.long q3), (.long v)]) (rest := [(.int (((own_below (2 : Int32) (0 : Int32) q0 v) + (own_below (2 : Int32) (1 : Int32) q1 v)) + (own_below (2 : Int32) (2 : Int32) q2 v)))]) (rm2 l Z a0 hw n0 (2 : Int32) (3 : Int32) q3 v ([(b5, .inr (.long, [(.long q0), (.long q1)]))])) at_305 5 rfl 6 rfl 2 rfl 7 rfl ⟨by decide, by decide⟩ pd_1 rfl rfl rfl 1 rfl (by decide) (by decide) (by decide) (by decide) 308 rfl (fun T v L w h => ?_)
      obtain ⟨rfl, hL⟩ := h
      replace w := w.to hL
      refine g_iadd w at_308 309 rfl ?_
      obtain ⟨ee, hee⟩ : ∃ own_z, own_z = (((((own_below (2 : Int32) (0 : Int32) q0 v) + (own_below (2 : Int32) (1 : Int32) q1 v)) + (own_below (2 : Int32) (2 : Int32) q2 v)) + (own_below (2 : Int32) (3 : Int32) q3 v)) : Int32) := ⟨_, rfl⟩
      refine g_istore w at_309 311 rfl hee.symm #[.val (.long b), .second, .val (.long r), .second, .val (.int g1), .val (.int g2), .val (.int g3), .val (.int sel), .val (.long q0), .second, .val (.long q1), .second, .val (.long q2), .second, .val (.long q3), .second, .val (.int (2 : Int32)), .val (.ref b5), .val (.int mode), .val (.long dlt), .second, .val (.long v), .second, .val (.int ee), .unset] rfl ?_
      refine g_new w [("com/example/leadhorizon/leadhorizon/calendar/SortedLongs", "values", "[J", .null), ("com/example/leadhorizon/leadhorizon/calendar/SortedLongs", "shift", "I", (.int (0 : Int32))), ("com/example/leadhorizon/leadhorizon/calendar/SortedLongs", "buckets", "[I", .null)] at_311 8 rfl 9 rfl 10 rfl (FOk.cons (Or.inr (w.hw (k := 18) rfl)) (ty := (.array .long)) (by decide) rfl (FOk.cons (Or.inr (w.hw (k := 21) rfl)) (ty := .int) (by decide) rfl (FOk.cons (Or.inr (w.hw (k := 24) rfl)) (ty := (.array .int)) (by decide) rfl trivial))) (by decide) (by decide) (by decide) 314 rfl (fun T b6 w => ?_)
      replace w := w.to (L' := [(b5, .inr (.long, [(.long q0), (.long q1)])), (b6, O_SortedLongs .null (.int (0 : Int32)) .null)]) rfl
      refine g_dup w at_314 rfl 315 rfl ?_
      refine g_aload w at_315 rfl rfl 317 rfl ?_
      refine g_ctor w (argsL := [(.ref b5)]) (rest := [(.ref b6)]) (rm3 l Z a0 hw n0 b6 b5 [q0, q1] (2 : Int32) srt2 rfl) at_317 11 rfl 12 rfl 10 rfl 13 rfl rfl ⟨by decide, by decide⟩ pd_2 rfl rfl rfl 1 rfl (by decide) (by decide) (by decide) (by decide) 320 rfl (fun T v L w h => ?_)
      obtain ⟨rfl, bk, sh, k, bs, hk, h61, hbn, hbk, rfl⟩ := h
      refine g_astore w at_320 322 rfl rfl #[.val (.long b), .second, .val (.long r), .second, .val (.int g1), .val (.int g2), .val (.int g3), .val (.int sel), .val (.long q0), .second, .val (.long q1), .second, .val (.long q2), .second, .val (.long q3), .second, .val (.int (2 : Int32)), .val (.ref b5), .val (.int mode), .val (.long dlt), .second, .val (.long v), .second, .val (.int ee), .val (.ref b6)] rfl ?_
      refine g_aload w at_322 rfl rfl 324 rfl ?_
      refine g_lload w at_324 rfl 326 rfl ?_
      refine g_virt w (argsL := [(.long v)]) (rest := []) (rm5 l Z a0 hw n0 b6 b5 bk [q0, q1] (2 : Int32) sh k bs v srt2 rfl hk h61 hbn hbk) at_326 1 rfl 25 rfl 26 rfl 10 rfl 29 rfl 28 rfl 27 rfl ⟨by decide, by decide⟩ pd_3 rfl rfl rfl 0 rfl (by decide) (by decide) (by decide) (by decide) 329 rfl (fun T v L w h => ?_)
      obtain ⟨⟨z, jz, rfl, hz, hcn⟩, rfl⟩ := h
      refine g_iload w at_329 rfl 331 rfl ?_
      refine g_icmp_ne w at_331 338 (by decide) (by decide) 334 rfl (fun h => absurd (by rw [hee]; exact own_sum2 q0 q1 q2 q3 v hz hcn) h) (fun hc331 => ?_)
      refine g_iconst w at_334 (1 : Int32) rfl 335 rfl ?_
      refine g_goto w at_335 339 (by decide) (by decide) ?_
      exact g_iretn w (by simp) at_339 (by decide) (by decide) rfl
    refine g_iload w at_174 rfl 176 rfl ?_
    refine g_if_ne w at_176 189 (by decide) (by decide) 179 rfl (fun hc176 => ?_) (fun hc176 => ?_)
    · -- pc 189 (taken: not mode = (0 : Int32))
      refine g_iload w at_189 rfl 191 rfl ?_
      refine g_iconst w at_191 (1 : Int32) rfl 192 rfl ?_
      refine g_icmp_ne w at_192 205 (by decide) (by decide) 195 rfl (fun hc192 => ?_) (fun hc192 => ?_)
      · -- pc 205 (taken: not mode = (1 : Int32))
        refine g_iload w at_205 rfl 207 rfl ?_
        refine g_iconst w at_207 (2 : Int32) rfl 208 rfl ?_
        refine g_icmp_ne w at_208 221 (by decide) (by decide) 211 rfl (fun hc208 => ?_) (fun hc208 => ?_)
        · -- pc 221 (taken: not mode = (2 : Int32))
          refine g_iload w at_221 rfl 223 rfl ?_
          refine g_iconst w at_223 (3 : Int32) rfl 224 rfl ?_
          refine g_icmp_ne w at_224 237 (by decide) (by decide) 227 rfl (fun hc224 => ?_) (fun hc224 => ?_)
          · -- pc 237 (taken: not mode = (3 : Int32))
            refine g_iload w at_237 rfl 239 rfl ?_
            refine g_bipush w at_239 (6 : Int32) rfl 241 rfl ?_
            refine g_icmp_ge w at_241 263 (by decide) (by decide) 244 rfl (fun hc241 => ?_) (fun hc241 => ?_)
            · -- pc 263 (taken: not mode < (6 : Int32))
              refine g_lloadN w at_263 rfl 264 rfl ?_
              refine g_lstore w at_264 266 rfl rfl #[.val (.long b), .second, .val (.long r), .second, .val (.int g1), .val (.int g2), .val (.int g3), .val (.int sel), .val (.long q0), .second, .val (.long q1), .second, .val (.long q2), .second, .val (.long q3), .second, .val (.int (2 : Int32)), .val (.ref b5), .val (.int mode), .val (.long dlt), .second, .val (.long r), .second, .unset, .unset] rfl ?_
              exact J266 r
            · -- pc 244 (on: mode < (6 : Int32))
              refine g_lload w at_244 rfl 246 rfl ?_
              refine g_lloadN w at_246 rfl 247 rfl ?_
              refine g_iconst w at_247 (1 : Int32) rfl 248 rfl ?_
              refine g_lushr w at_248 249 rfl ?_
              refine g_lload w at_249 rfl 251 rfl ?_
              refine g_lload w at_251 rfl 253 rfl ?_
              refine g_lsub w at_253 254 rfl ?_
              refine g_lconst w at_254 (1 : Int64) rfl 255 rfl ?_
              refine g_ladd w at_255 256 rfl ?_
              refine g_lrem w at_256 (own_dv four) 257 rfl ?_
              refine g_ladd w at_257 258 rfl ?_
              refine g_lstore w at_258 260 rfl rfl #[.val (.long b), .second, .val (.long r), .second, .val (.int g1), .val (.int g2), .val (.int g3), .val (.int sel), .val (.long q0), .second, .val (.long q1), .second, .val (.long q2), .second, .val (.long q3), .second, .val (.int (2 : Int32)), .val (.ref b5), .val (.int mode), .val (.long dlt), .second, .val (.long (q0 + ((ushrL r (1 : Int32)) % ((q3 - q0) + (1 : Int64))))), .second, .unset, .unset] rfl ?_
              refine g_goto w at_260 266 (by decide) (by decide) ?_
              exact J266 (q0 + ((ushrL r (1 : Int32)) % ((q3 - q0) + (1 : Int64))))
          · -- pc 227 (on: mode = (3 : Int32))
            refine g_lload w at_227 rfl 229 rfl ?_
            refine g_lload w at_229 rfl 231 rfl ?_
            refine g_ladd w at_231 232 rfl ?_
            refine g_lstore w at_232 234 rfl rfl #[.val (.long b), .second, .val (.long r), .second, .val (.int g1), .val (.int g2), .val (.int g3), .val (.int sel), .val (.long q0), .second, .val (.long q1), .second, .val (.long q2), .second, .val (.long q3), .second, .val (.int (2 : Int32)), .val (.ref b5), .val (.int mode), .val (.long dlt), .second, .val (.long (q3 + dlt)), .second, .unset, .unset] rfl ?_
            refine g_goto w at_234 266 (by decide) (by decide) ?_
            exact J266 (q3 + dlt)
        · -- pc 211 (on: mode = (2 : Int32))
          refine g_lload w at_211 rfl 213 rfl ?_
          refine g_lload w at_213 rfl 215 rfl ?_
          refine g_ladd w at_215 216 rfl ?_
          refine g_lstore w at_216 218 rfl rfl #[.val (.long b), .second, .val (.long r), .second, .val (.int g1), .val (.int g2), .val (.int g3), .val (.int sel), .val (.long q0), .second, .val (.long q1), .second, .val (.long q2), .second, .val (.long q3), .second, .val (.int (2 : Int32)), .val (.ref b5), .val (.int mode), .val (.long dlt), .second, .val (.long (q2 + dlt)), .second, .unset, .unset] rfl ?_
          refine g_goto w at_218 266 (by decide) (by decide) ?_
          exact J266 (q2 + dlt)
      · -- pc 195 (on: mode = (1 : Int32))
        refine g_lload w at_195 rfl 197 rfl ?_
        refine g_lload w at_197 rfl 199 rfl ?_
        refine g_ladd w at_199 200 rfl ?_
        refine g_lstore w at_200 202 rfl rfl #[.val (.long b), .second, .val (.long r), .second, .val (.int g1), .val (.int g2), .val (.int g3), .val (.int sel), .val (.long q0), .second, .val (.long q1), .second, .val (.long q2), .second, .val (.long q3), .second, .val (.int (2 : Int32)), .val (.ref b5), .val (.int mode), .val (.long dlt), .second, .val (.long (q1 + dlt)), .second, .unset, .unset] rfl ?_
        refine g_goto w at_202 266 (by decide) (by decide) ?_
        exact J266 (q1 + dlt)
    · -- pc 179 (on: mode = (0 : Int32))
      refine g_lload w at_179 rfl 181 rfl ?_
      refine g_lload w at_181 rfl 183 rfl ?_
      refine g_ladd w at_183 184 rfl ?_
      refine g_lstore w at_184 186 rfl rfl #[.val (.long b), .second, .val (.long r), .second, .val (.int g1), .val (.int g2), .val (.int g3), .val (.int sel), .val (.long q0), .second, .val (.long q1), .second, .val (.long q2), .second, .val (.long q3), .second, .val (.int (2 : Int32)), .val (.ref b5), .val (.int mode), .val (.long dlt), .second, .val (.long (q0 + dlt)), .second, .unset, .unset] rfl ?_
      refine g_goto w at_186 266 (by decide) (by decide) ?_
      exact J266 (q0 + dlt)
  · -- pc 44 n = 3
    refine g_int (x' := (3 : Int32)) hn ?_
    have srt3 := own_srt3 four
    refine g_istore w at_44 46 rfl rfl #[.val (.long b), .second, .val (.long r), .second, .val (.int g1), .val (.int g2), .val (.int g3), .val (.int sel), .val (.long q0), .second, .val (.long q1), .second, .val (.long q2), .second, .val (.long q3), .second, .val (.int (3 : Int32)), .unset, .unset, .unset, .unset, .unset, .unset, .unset, .unset] rfl ?_
    refine g_iload w at_46 rfl 48 rfl ?_
    refine g_if_ne w at_48 59 (by decide) (by decide) 51 rfl (fun hc48 => ?_) (fun h => absurd h (by decide))
    refine g_iload w at_59 rfl 61 rfl ?_
    refine g_iconst w at_61 (1 : Int32) rfl 62 rfl ?_
    refine g_icmp_ne w at_62 78 (by decide) (by decide) 65 rfl (fun hc62 => ?_) (fun h => absurd h (by decide))
    refine g_iload w at_78 rfl 80 rfl ?_
    refine g_iconst w at_80 (2 : Int32) rfl 81 rfl ?_
    refine g_icmp_ne w at_81 102 (by decide) (by decide) 84 rfl (fun hc81 => ?_) (fun h => absurd h (by decide))
    refine g_iload w at_102 rfl 104 rfl ?_
    refine g_iconst w at_104 (3 : Int32) rfl 105 rfl ?_
    refine g_icmp_ne w at_105 131 (by decide) (by decide) 108 rfl (fun h => absurd (by decide) h) (fun hc105 => ?_)
    refine g_iconst w at_108 (3 : Int32) rfl 109 rfl ?_
    refine g_newarr w at_109 4 rfl 3 3 (by decide) (by decide) (by decide) [(.long (0 : Int64)), (.long (0 : Int64)), (.long (0 : Int64))] rfl (by decide) (by decide) 111 rfl (fun T b7 w => ?_)
    replace w := w.to (L' := [(b7, .inr (.long, [(.long (0 : Int64)), (.long (0 : Int64)), (.long (0 : Int64))]))]) rfl
    refine g_dup w at_111 rfl 112 rfl ?_
    refine g_iconst w at_112 (0 : Int32) rfl 113 rfl ?_
    refine g_lload w at_113 rfl 115 rfl ?_
    refine g_lastore w at_115 0 rfl 0 (by decide) (Nat.le_of_ble_eq_true rfl) (.long q0) rfl 116 rfl (fun T w => ?_)
    replace w := w.to (L' := [(b7, .inr (.long, [(.long q0), (.long (0 : Int64)), (.long (0 : Int64))]))]) rfl
    refine g_dup w at_116 rfl 117 rfl ?_
    refine g_iconst w at_117 (1 : Int32) rfl 118 rfl ?_
    refine g_lload w at_118 rfl 120 rfl ?_
    refine g_lastore w at_120 0 rfl 1 (by decide) (Nat.le_of_ble_eq_true rfl) (.long q1) rfl 121 rfl (fun T w => ?_)
    replace w := w.to (L' := [(b7, .inr (.long, [(.long q0), (.long q1), (.long (0 : Int64))]))]) rfl
    refine g_dup w at_121 rfl 122 rfl ?_
    refine g_iconst w at_122 (2 : Int32) rfl 123 rfl ?_
    refine g_lload w at_123 rfl 125 rfl ?_
    refine g_lastore w at_125 0 rfl 2 (by decide) (Nat.le_of_ble_eq_true rfl) (.long q2) rfl 126 rfl (fun T w => ?_)
    replace w := w.to (L' := [(b7, .inr (.long, [(.long q0), (.long q1), (.long q2)]))]) rfl
    refine g_astore w at_126 128 rfl rfl #[.val (.long b), .second, .val (.long r), .second, .val (.int g1), .val (.int g2), .val (.int g3), .val (.int sel), .val (.long q0), .second, .val (.long q1), .second, .val (.long q2), .second, .val (.long q3), .second, .val (.int (3 : Int32)), .val (.ref b7), .unset, .unset, .unset, .unset, .unset, .unset, .unset] rfl ?_
    refine g_goto w at_128 156 (by decide) (by decide) ?_
    refine g_iload w at_156 rfl 158 rfl ?_
    refine g_bipush w at_158 (7 : Int32) rfl 160 rfl ?_
    refine g_iand w at_160 161 rfl ?_
    obtain ⟨mode, hmode⟩ : ∃ own_z, own_z = ((sel &&& (7 : Int32)) : Int32) := ⟨_, rfl⟩
    refine g_istore w at_161 163 rfl hmode.symm #[.val (.long b), .second, .val (.long r), .second, .val (.int g1), .val (.int g2), .val (.int g3), .val (.int sel), .val (.long q0), .second, .val (.long q1), .second, .val (.long q2), .second, .val (.long q3), .second, .val (.int (3 : Int32)), .val (.ref b7), .val (.int mode), .unset, .unset, .unset, .unset, .unset, .unset] rfl ?_
    refine g_iload w at_163 rfl 165 rfl ?_
    refine g_iconst w at_165 (3 : Int32) rfl 166 rfl ?_
    refine g_iushr w at_166 167 rfl ?_
    refine g_iconst w at_167 (3 : Int32) rfl 168 rfl ?_
    refine g_iand w at_168 169 rfl ?_
    refine g_i2l w at_169 170 rfl ?_
    refine g_lconst w at_170 (1 : Int64) rfl 171 rfl ?_
    refine g_lsub w at_171 172 rfl ?_
    obtain ⟨dlt, hdlt⟩ : ∃ own_z, own_z = (((((ushrI sel (3 : Int32)) &&& (3 : Int32)).toInt64) - (1 : Int64)) : Int64) := ⟨_, rfl⟩
    refine g_lstore w at_172 174 rfl hdlt.symm #[.val (.long b), .second, .val (.long r), .second, .val (.int g1), .val (.int g2), .val (.int g3), .val (.int sel), .val (.long q0), .second, .val (.long q1), .second, .val (.long q2), .second, .val (.long q3), .second, .val (.int (3 : Int32)), .val (.ref b7), .val (.int mode), .val (.long dlt), .second, .unset, .unset, .unset, .unset] rfl ?_
    have J266 : ∀ v : Int64, Go p e below Z n0 kb (EndN s room_1.cells room_1.slots) (fun v _ => v = some (.int 1)) T (mkF m 266 #[.val (.long b), .second, .val (.long r), .second, .val (.int g1), .val (.int g2), .val (.int g3), .val (.int sel), .val (.long q0), .second, .val (.long q1), .second, .val (.long q2), .second, .val (.long q3), .second, .val (.int (3 : Int32)), .val (.ref b7), .val (.int mode), .val (.long dlt), .second, .val (.long v), .second, .unset, .unset] []) := by
      intro v
      refine g_iload w at_266 rfl 268 rfl ?_
      refine g_iconst w at_268 (0 : Int32) rfl 269 rfl ?_
      refine g_lload w at_269 rfl 271 rfl ?_
      refine g_lload w at_271 rfl 273 rfl ?_
      refine g_static w (argsL := [(.int (3 : Int32)), (.int (0 : Int32)), (.long q0), (.long v)]) (rest := []) (rm2 l Z a0 hw n0 (3 : Int32) (0 : Int32) q0 v ([(b7, .inr (.long, [(.long q0), (.long q1), (.long q2)]))])) at_273 5 rfl 6 rfl 2 rfl 7 rfl ⟨by decide, by decide⟩ pd_1 rfl rfl rfl 0 rfl (by decide) (by decide) (by decide) (by decide) 276 rfl (fun T v L w h => ?_)
      obtain ⟨rfl, hL⟩ := h
      replace w := w.to hL
      refine g_iload w at_276 rfl 278 rfl ?_
      refine g_iconst w at_278 (1 : Int32) rfl 279 rfl ?_
      refine g_lload w at_279 rfl 281 rfl ?_
      refine g_lload w at_281 rfl 283 rfl ?_
      refine g_static w (argsL := [(.int (3 : Int32)), (.int (1 : Int32)), (.long q1), (.long v)]) (rest := [(.int (own_below (3 : Int32) (0 : Int32) q0 v))]) (rm2 l Z a0 hw n0 (3 : Int32) (1 : Int32) q1 v ([(b7, .inr (.long, [(.long q0), (.long q1), (.long q2)]))])) at_283 5 rfl 6 rfl 2 rfl 7 rfl ⟨by decide, by decide⟩ pd_1 rfl rfl rfl 1 rfl (by decide) (by decide) (by decide) (by decide) 286 rfl (fun T v L w h => ?_)
      obtain ⟨rfl, hL⟩ := h
      replace w := w.to hL
      refine g_iadd w at_286 287 rfl ?_
      refine g_iload w at_287 rfl 289 rfl ?_
      refine g_iconst w at_289 (2 : Int32) rfl 290 rfl ?_
      refine g_lload w at_290 rfl 292 rfl ?_
      refine g_lload w at_292 rfl 294 rfl ?_
      refine g_static w (argsL := [(.int (3 : Int32)), (.int (2 : Int32)), (.long q2), (.long v)]) (rest := [(.int ((own_below (3 : Int32) (0 : Int32) q0 v) + (own_below (3 : Int32) (1 : Int32) q1 v)))]) (rm2 l Z a0 hw n0 (3 : Int32) (2 : Int32) q2 v ([(b7, .inr (.long, [(.long q0), (.long q1), (.long q2)]))])) at_294 5 rfl 6 rfl 2 rfl 7 rfl ⟨by decide, by decide⟩ pd_1 rfl rfl rfl 1 rfl (by decide) (by decide) (by decide) (by decide) 297 rfl (fun T v L w h => ?_)
      obtain ⟨rfl, hL⟩ := h
      replace w := w.to hL
      refine g_iadd w at_297 298 rfl ?_
      refine g_iload w at_298 rfl 300 rfl ?_
      refine g_iconst w at_300 (3 : Int32) rfl 301 rfl ?_
      refine g_lload w at_301 rfl 303 rfl ?_
      refine g_lload w at_303 rfl 305 rfl ?_
      refine g_static w (argsL := [(.int (3 : Int32)), (.int (3 : Int32)), (.long q3), (.long v)]) (rest := [(.int (((own_below (3 : Int32) (0 : Int32) q0 v) + (own_below (3 : Int32) (1 : Int32) q1 v)) + (own_below (3 : Int32) (2 : Int32) q2 v)))]) (rm2 l Z a0 hw n0 (3 : Int32) (3 : Int32) q3 v ([(b7, .inr (.long, [(.long q0), (.long q1), (.long q2)]))])) at_305 5 rfl 6 rfl 2 rfl 7 rfl ⟨by decide, by decide⟩ pd_1 rfl rfl rfl 1 rfl (by decide) (by decide) (by decide) (by decide) 308 rfl (fun T v L w h => ?_)
      obtain ⟨rfl, hL⟩ := h
      replace w := w.to hL
      refine g_iadd w at_308 309 rfl ?_
      obtain ⟨ee, hee⟩ : ∃ own_z, own_z = (((((own_below (3 : Int32) (0 : Int32) q0 v) + (own_below (3 : Int32) (1 : Int32) q1 v)) + (own_below (3 : Int32) (2 : Int32) q2 v)) + (own_below (3 : Int32) (3 : Int32) q3 v)) : Int32) := ⟨_, rfl⟩
      refine g_istore w at_309 311 rfl hee.symm #[.val (.long b), .second, .val (.long r), .second, .val (.int g1), .val (.int g2), .val (.int g3), .val (.int sel), .val (.long q0), .second, .val (.long q1), .second, .val (.long q2), .second, .val (.long q3), .second, .val (.int (3 : Int32)), .val (.ref b7), .val (.int mode), .val (.long dlt), .second, .val (.long v), .second, .val (.int ee), .unset] rfl ?_
      refine g_new w [("com/example/leadhorizon/leadhorizon/calendar/SortedLongs", "values", "[J", .null), ("com/example/leadhorizon/leadhorizon/calendar/SortedLongs", "shift", "I", (.int (0 : Int32))), ("com/example/leadhorizon/leadhorizon/calendar/SortedLongs", "buckets", "[I", .null)] at_311 8 rfl 9 rfl 10 rfl (FOk.cons (Or.inr (w.hw (k := 18) rfl)) (ty := (.array .long)) (by decide) rfl (FOk.cons (Or.inr (w.hw (k := 21) rfl)) (ty := .int) (by decide) rfl (FOk.cons (Or.inr (w.hw (k := 24) rfl)) (ty := (.array .int)) (by decide) rfl trivial))) (by decide) (by decide) (by decide) 314 rfl (fun T b8 w => ?_)
      replace w := w.to (L' := [(b7, .inr (.long, [(.long q0), (.long q1), (.long q2)])), (b8, O_SortedLongs .null (.int (0 : Int32)) .null)]) rfl
      refine g_dup w at_314 rfl 315 rfl ?_
      refine g_aload w at_315 rfl rfl 317 rfl ?_
      refine g_ctor w (argsL := [(.ref b7)]) (rest := [(.ref b8)]) (rm3 l Z a0 hw n0 b8 b7 [q0, q1, q2] (3 : Int32) srt3 rfl) at_317 11 rfl 12 rfl 10 rfl 13 rfl rfl ⟨by decide, by decide⟩ pd_2 rfl rfl rfl 1 rfl (by decide) (by decide) (by decide) (by decide) 320 rfl (fun T v L w h => ?_)
      obtain ⟨rfl, bk, sh, k, bs, hk, h61, hbn, hbk, rfl⟩ := h
      refine g_astore w at_320 322 rfl rfl #[.val (.long b), .second, .val (.long r), .second, .val (.int g1), .val (.int g2), .val (.int g3), .val (.int sel), .val (.long q0), .second, .val (.long q1), .second, .val (.long q2), .second, .val (.long q3), .second, .val (.int (3 : Int32)), .val (.ref b7), .val (.int mode), .val (.long dlt), .second, .val (.long v), .second, .val (.int ee), .val (.ref b8)] rfl ?_
      refine g_aload w at_322 rfl rfl 324 rfl ?_
      refine g_lload w at_324 rfl 326 rfl ?_
      refine g_virt w (argsL := [(.long v)]) (rest := []) (rm5 l Z a0 hw n0 b8 b7 bk [q0, q1, q2] (3 : Int32) sh k bs v srt3 rfl hk h61 hbn hbk) at_326 1 rfl 25 rfl 26 rfl 10 rfl 29 rfl 28 rfl 27 rfl ⟨by decide, by decide⟩ pd_3 rfl rfl rfl 0 rfl (by decide) (by decide) (by decide) (by decide) 329 rfl (fun T v L w h => ?_)
      obtain ⟨⟨z, jz, rfl, hz, hcn⟩, rfl⟩ := h
      refine g_iload w at_329 rfl 331 rfl ?_
      refine g_icmp_ne w at_331 338 (by decide) (by decide) 334 rfl (fun h => absurd (by rw [hee]; exact own_sum3 q0 q1 q2 q3 v hz hcn) h) (fun hc331 => ?_)
      refine g_iconst w at_334 (1 : Int32) rfl 335 rfl ?_
      refine g_goto w at_335 339 (by decide) (by decide) ?_
      exact g_iretn w (by simp) at_339 (by decide) (by decide) rfl
    refine g_iload w at_174 rfl 176 rfl ?_
    refine g_if_ne w at_176 189 (by decide) (by decide) 179 rfl (fun hc176 => ?_) (fun hc176 => ?_)
    · -- pc 189 (taken: not mode = (0 : Int32))
      refine g_iload w at_189 rfl 191 rfl ?_
      refine g_iconst w at_191 (1 : Int32) rfl 192 rfl ?_
      refine g_icmp_ne w at_192 205 (by decide) (by decide) 195 rfl (fun hc192 => ?_) (fun hc192 => ?_)
      · -- pc 205 (taken: not mode = (1 : Int32))
        refine g_iload w at_205 rfl 207 rfl ?_
        refine g_iconst w at_207 (2 : Int32) rfl 208 rfl ?_
        refine g_icmp_ne w at_208 221 (by decide) (by decide) 211 rfl (fun hc208 => ?_) (fun hc208 => ?_)
        · -- pc 221 (taken: not mode = (2 : Int32))
          refine g_iload w at_221 rfl 223 rfl ?_
          refine g_iconst w at_223 (3 : Int32) rfl 224 rfl ?_
          refine g_icmp_ne w at_224 237 (by decide) (by decide) 227 rfl (fun hc224 => ?_) (fun hc224 => ?_)
          · -- pc 237 (taken: not mode = (3 : Int32))
            refine g_iload w at_237 rfl 239 rfl ?_
            refine g_bipush w at_239 (6 : Int32) rfl 241 rfl ?_
            refine g_icmp_ge w at_241 263 (by decide) (by decide) 244 rfl (fun hc241 => ?_) (fun hc241 => ?_)
            · -- pc 263 (taken: not mode < (6 : Int32))
              refine g_lloadN w at_263 rfl 264 rfl ?_
              refine g_lstore w at_264 266 rfl rfl #[.val (.long b), .second, .val (.long r), .second, .val (.int g1), .val (.int g2), .val (.int g3), .val (.int sel), .val (.long q0), .second, .val (.long q1), .second, .val (.long q2), .second, .val (.long q3), .second, .val (.int (3 : Int32)), .val (.ref b7), .val (.int mode), .val (.long dlt), .second, .val (.long r), .second, .unset, .unset] rfl ?_
              exact J266 r
            · -- pc 244 (on: mode < (6 : Int32))
              refine g_lload w at_244 rfl 246 rfl ?_
              refine g_lloadN w at_246 rfl 247 rfl ?_
              refine g_iconst w at_247 (1 : Int32) rfl 248 rfl ?_
              refine g_lushr w at_248 249 rfl ?_
              refine g_lload w at_249 rfl 251 rfl ?_
              refine g_lload w at_251 rfl 253 rfl ?_
              refine g_lsub w at_253 254 rfl ?_
              refine g_lconst w at_254 (1 : Int64) rfl 255 rfl ?_
              refine g_ladd w at_255 256 rfl ?_
              refine g_lrem w at_256 (own_dv four) 257 rfl ?_
              refine g_ladd w at_257 258 rfl ?_
              refine g_lstore w at_258 260 rfl rfl #[.val (.long b), .second, .val (.long r), .second, .val (.int g1), .val (.int g2), .val (.int g3), .val (.int sel), .val (.long q0), .second, .val (.long q1), .second, .val (.long q2), .second, .val (.long q3), .second, .val (.int (3 : Int32)), .val (.ref b7), .val (.int mode), .val (.long dlt), .second, .val (.long (q0 + ((ushrL r (1 : Int32)) % ((q3 - q0) + (1 : Int64))))), .second, .unset, .unset] rfl ?_
              refine g_goto w at_260 266 (by decide) (by decide) ?_
              exact J266 (q0 + ((ushrL r (1 : Int32)) % ((q3 - q0) + (1 : Int64))))
          · -- pc 227 (on: mode = (3 : Int32))
            refine g_lload w at_227 rfl 229 rfl ?_
            refine g_lload w at_229 rfl 231 rfl ?_
            refine g_ladd w at_231 232 rfl ?_
            refine g_lstore w at_232 234 rfl rfl #[.val (.long b), .second, .val (.long r), .second, .val (.int g1), .val (.int g2), .val (.int g3), .val (.int sel), .val (.long q0), .second, .val (.long q1), .second, .val (.long q2), .second, .val (.long q3), .second, .val (.int (3 : Int32)), .val (.ref b7), .val (.int mode), .val (.long dlt), .second, .val (.long (q3 + dlt)), .second, .unset, .unset] rfl ?_
            refine g_goto w at_234 266 (by decide) (by decide) ?_
            exact J266 (q3 + dlt)
        · -- pc 211 (on: mode = (2 : Int32))
          refine g_lload w at_211 rfl 213 rfl ?_
          refine g_lload w at_213 rfl 215 rfl ?_
          refine g_ladd w at_215 216 rfl ?_
          refine g_lstore w at_216 218 rfl rfl #[.val (.long b), .second, .val (.long r), .second, .val (.int g1), .val (.int g2), .val (.int g3), .val (.int sel), .val (.long q0), .second, .val (.long q1), .second, .val (.long q2), .second, .val (.long q3), .second, .val (.int (3 : Int32)), .val (.ref b7), .val (.int mode), .val (.long dlt), .second, .val (.long (q2 + dlt)), .second, .unset, .unset] rfl ?_
          refine g_goto w at_218 266 (by decide) (by decide) ?_
          exact J266 (q2 + dlt)
      · -- pc 195 (on: mode = (1 : Int32))
        refine g_lload w at_195 rfl 197 rfl ?_
        refine g_lload w at_197 rfl 199 rfl ?_
        refine g_ladd w at_199 200 rfl ?_
        refine g_lstore w at_200 202 rfl rfl #[.val (.long b), .second, .val (.long r), .second, .val (.int g1), .val (.int g2), .val (.int g3), .val (.int sel), .val (.long q0), .second, .val (.long q1), .second, .val (.long q2), .second, .val (.long q3), .second, .val (.int (3 : Int32)), .val (.ref b7), .val (.int mode), .val (.long dlt), .second, .val (.long (q1 + dlt)), .second, .unset, .unset] rfl ?_
        refine g_goto w at_202 266 (by decide) (by decide) ?_
        exact J266 (q1 + dlt)
    · -- pc 179 (on: mode = (0 : Int32))
      refine g_lload w at_179 rfl 181 rfl ?_
      refine g_lload w at_181 rfl 183 rfl ?_
      refine g_ladd w at_183 184 rfl ?_
      refine g_lstore w at_184 186 rfl rfl #[.val (.long b), .second, .val (.long r), .second, .val (.int g1), .val (.int g2), .val (.int g3), .val (.int sel), .val (.long q0), .second, .val (.long q1), .second, .val (.long q2), .second, .val (.long q3), .second, .val (.int (3 : Int32)), .val (.ref b7), .val (.int mode), .val (.long dlt), .second, .val (.long (q0 + dlt)), .second, .unset, .unset] rfl ?_
      refine g_goto w at_186 266 (by decide) (by decide) ?_
      exact J266 (q0 + dlt)
  · -- pc 44 n = 4
    refine g_int (x' := (4 : Int32)) hn ?_
    have srt4 := own_srt4 four
    refine g_istore w at_44 46 rfl rfl #[.val (.long b), .second, .val (.long r), .second, .val (.int g1), .val (.int g2), .val (.int g3), .val (.int sel), .val (.long q0), .second, .val (.long q1), .second, .val (.long q2), .second, .val (.long q3), .second, .val (.int (4 : Int32)), .unset, .unset, .unset, .unset, .unset, .unset, .unset, .unset] rfl ?_
    refine g_iload w at_46 rfl 48 rfl ?_
    refine g_if_ne w at_48 59 (by decide) (by decide) 51 rfl (fun hc48 => ?_) (fun h => absurd h (by decide))
    refine g_iload w at_59 rfl 61 rfl ?_
    refine g_iconst w at_61 (1 : Int32) rfl 62 rfl ?_
    refine g_icmp_ne w at_62 78 (by decide) (by decide) 65 rfl (fun hc62 => ?_) (fun h => absurd h (by decide))
    refine g_iload w at_78 rfl 80 rfl ?_
    refine g_iconst w at_80 (2 : Int32) rfl 81 rfl ?_
    refine g_icmp_ne w at_81 102 (by decide) (by decide) 84 rfl (fun hc81 => ?_) (fun h => absurd h (by decide))
    refine g_iload w at_102 rfl 104 rfl ?_
    refine g_iconst w at_104 (3 : Int32) rfl 105 rfl ?_
    refine g_icmp_ne w at_105 131 (by decide) (by decide) 108 rfl (fun hc105 => ?_) (fun h => absurd h (by decide))
    refine g_iconst w at_131 (4 : Int32) rfl 132 rfl ?_
    refine g_newarr w at_132 4 rfl 4 4 (by decide) (by decide) (by decide) [(.long (0 : Int64)), (.long (0 : Int64)), (.long (0 : Int64)), (.long (0 : Int64))] rfl (by decide) (by decide) 134 rfl (fun T b9 w => ?_)
    replace w := w.to (L' := [(b9, .inr (.long, [(.long (0 : Int64)), (.long (0 : Int64)), (.long (0 : Int64)), (.long (0 : Int64))]))]) rfl
    refine g_dup w at_134 rfl 135 rfl ?_
    refine g_iconst w at_135 (0 : Int32) rfl 136 rfl ?_
    refine g_lload w at_136 rfl 138 rfl ?_
    refine g_lastore w at_138 0 rfl 0 (by decide) (Nat.le_of_ble_eq_true rfl) (.long q0) rfl 139 rfl (fun T w => ?_)
    replace w := w.to (L' := [(b9, .inr (.long, [(.long q0), (.long (0 : Int64)), (.long (0 : Int64)), (.long (0 : Int64))]))]) rfl
    refine g_dup w at_139 rfl 140 rfl ?_
    refine g_iconst w at_140 (1 : Int32) rfl 141 rfl ?_
    refine g_lload w at_141 rfl 143 rfl ?_
    refine g_lastore w at_143 0 rfl 1 (by decide) (Nat.le_of_ble_eq_true rfl) (.long q1) rfl 144 rfl (fun T w => ?_)
    replace w := w.to (L' := [(b9, .inr (.long, [(.long q0), (.long q1), (.long (0 : Int64)), (.long (0 : Int64))]))]) rfl
    refine g_dup w at_144 rfl 145 rfl ?_
    refine g_iconst w at_145 (2 : Int32) rfl 146 rfl ?_
    refine g_lload w at_146 rfl 148 rfl ?_
    refine g_lastore w at_148 0 rfl 2 (by decide) (Nat.le_of_ble_eq_true rfl) (.long q2) rfl 149 rfl (fun T w => ?_)
    replace w := w.to (L' := [(b9, .inr (.long, [(.long q0), (.long q1), (.long q2), (.long (0 : Int64))]))]) rfl
    refine g_dup w at_149 rfl 150 rfl ?_
    refine g_iconst w at_150 (3 : Int32) rfl 151 rfl ?_
    refine g_lload w at_151 rfl 153 rfl ?_
    refine g_lastore w at_153 0 rfl 3 (by decide) (Nat.le_of_ble_eq_true rfl) (.long q3) rfl 154 rfl (fun T w => ?_)
    replace w := w.to (L' := [(b9, .inr (.long, [(.long q0), (.long q1), (.long q2), (.long q3)]))]) rfl
    refine g_astore w at_154 156 rfl rfl #[.val (.long b), .second, .val (.long r), .second, .val (.int g1), .val (.int g2), .val (.int g3), .val (.int sel), .val (.long q0), .second, .val (.long q1), .second, .val (.long q2), .second, .val (.long q3), .second, .val (.int (4 : Int32)), .val (.ref b9), .unset, .unset, .unset, .unset, .unset, .unset, .unset] rfl ?_
    refine g_iload w at_156 rfl 158 rfl ?_
    refine g_bipush w at_158 (7 : Int32) rfl 160 rfl ?_
    refine g_iand w at_160 161 rfl ?_
    obtain ⟨mode, hmode⟩ : ∃ own_z, own_z = ((sel &&& (7 : Int32)) : Int32) := ⟨_, rfl⟩
    refine g_istore w at_161 163 rfl hmode.symm #[.val (.long b), .second, .val (.long r), .second, .val (.int g1), .val (.int g2), .val (.int g3), .val (.int sel), .val (.long q0), .second, .val (.long q1), .second, .val (.long q2), .second, .val (.long q3), .second, .val (.int (4 : Int32)), .val (.ref b9), .val (.int mode), .unset, .unset, .unset, .unset, .unset, .unset] rfl ?_
    refine g_iload w at_163 rfl 165 rfl ?_
    refine g_iconst w at_165 (3 : Int32) rfl 166 rfl ?_
    refine g_iushr w at_166 167 rfl ?_
    refine g_iconst w at_167 (3 : Int32) rfl 168 rfl ?_
    refine g_iand w at_168 169 rfl ?_
    refine g_i2l w at_169 170 rfl ?_
    refine g_lconst w at_170 (1 : Int64) rfl 171 rfl ?_
    refine g_lsub w at_171 172 rfl ?_
    obtain ⟨dlt, hdlt⟩ : ∃ own_z, own_z = (((((ushrI sel (3 : Int32)) &&& (3 : Int32)).toInt64) - (1 : Int64)) : Int64) := ⟨_, rfl⟩
    refine g_lstore w at_172 174 rfl hdlt.symm #[.val (.long b), .second, .val (.long r), .second, .val (.int g1), .val (.int g2), .val (.int g3), .val (.int sel), .val (.long q0), .second, .val (.long q1), .second, .val (.long q2), .second, .val (.long q3), .second, .val (.int (4 : Int32)), .val (.ref b9), .val (.int mode), .val (.long dlt), .second, .unset, .unset, .unset, .unset] rfl ?_
    have J266 : ∀ v : Int64, Go p e below Z n0 kb (EndN s room_1.cells room_1.slots) (fun v _ => v = some (.int 1)) T (mkF m 266 #[.val (.long b), .second, .val (.long r), .second, .val (.int g1), .val (.int g2), .val (.int g3), .val (.int sel), .val (.long q0), .second, .val (.long q1), .second, .val (.long q2), .second, .val (.long q3), .second, .val (.int (4 : Int32)), .val (.ref b9), .val (.int mode), .val (.long dlt), .second, .val (.long v), .second, .unset, .unset] []) := by
      intro v
      refine g_iload w at_266 rfl 268 rfl ?_
      refine g_iconst w at_268 (0 : Int32) rfl 269 rfl ?_
      refine g_lload w at_269 rfl 271 rfl ?_
      refine g_lload w at_271 rfl 273 rfl ?_
      refine g_static w (argsL := [(.int (4 : Int32)), (.int (0 : Int32)), (.long q0), (.long v)]) (rest := []) (rm2 l Z a0 hw n0 (4 : Int32) (0 : Int32) q0 v ([(b9, .inr (.long, [(.long q0), (.long q1), (.long q2), (.long q3)]))])) at_273 5 rfl 6 rfl 2 rfl 7 rfl ⟨by decide, by decide⟩ pd_1 rfl rfl rfl 0 rfl (by decide) (by decide) (by decide) (by decide) 276 rfl (fun T v L w h => ?_)
      obtain ⟨rfl, hL⟩ := h
      replace w := w.to hL
      refine g_iload w at_276 rfl 278 rfl ?_
      refine g_iconst w at_278 (1 : Int32) rfl 279 rfl ?_
      refine g_lload w at_279 rfl 281 rfl ?_
      refine g_lload w at_281 rfl 283 rfl ?_
      refine g_static w (argsL := [(.int (4 : Int32)), (.int (1 : Int32)), (.long q1), (.long v)]) (rest := [(.int (own_below (4 : Int32) (0 : Int32) q0 v))]) (rm2 l Z a0 hw n0 (4 : Int32) (1 : Int32) q1 v ([(b9, .inr (.long, [(.long q0), (.long q1), (.long q2), (.long q3)]))])) at_283 5 rfl 6 rfl 2 rfl 7 rfl ⟨by decide, by decide⟩ pd_1 rfl rfl rfl 1 rfl (by decide) (by decide) (by decide) (by decide) 286 rfl (fun T v L w h => ?_)
      obtain ⟨rfl, hL⟩ := h
      replace w := w.to hL
      refine g_iadd w at_286 287 rfl ?_
      refine g_iload w at_287 rfl 289 rfl ?_
      refine g_iconst w at_289 (2 : Int32) rfl 290 rfl ?_
      refine g_lload w at_290 rfl 292 rfl ?_
      refine g_lload w at_292 rfl 294 rfl ?_
      refine g_static w (argsL := [(.int (4 : Int32)), (.int (2 : Int32)), (.long q2), (.long v)]) (rest := [(.int ((own_below (4 : Int32) (0 : Int32) q0 v) + (own_below (4 : Int32) (1 : Int32) q1 v)))]) (rm2 l Z a0 hw n0 (4 : Int32) (2 : Int32) q2 v ([(b9, .inr (.long, [(.long q0), (.long q1), (.long q2), (.long q3)]))])) at_294 5 rfl 6 rfl 2 rfl 7 rfl ⟨by decide, by decide⟩ pd_1 rfl rfl rfl 1 rfl (by decide) (by decide) (by decide) (by decide) 297 rfl (fun T v L w h => ?_)
      obtain ⟨rfl, hL⟩ := h
      replace w := w.to hL
      refine g_iadd w at_297 298 rfl ?_
      refine g_iload w at_298 rfl 300 rfl ?_
      refine g_iconst w at_300 (3 : Int32) rfl 301 rfl ?_
      refine g_lload w at_301 rfl 303 rfl ?_
      refine g_lload w at_303 rfl 305 rfl ?_
      refine g_static w (argsL := [(.int (4 : Int32)), (.int (3 : Int32)), (.long q3), (.long v)]) (rest := [(.int (((own_below (4 : Int32) (0 : Int32) q0 v) + (own_below (4 : Int32) (1 : Int32) q1 v)) + (own_below (4 : Int32) (2 : Int32) q2 v)))]) (rm2 l Z a0 hw n0 (4 : Int32) (3 : Int32) q3 v ([(b9, .inr (.long, [(.long q0), (.long q1), (.long q2), (.long q3)]))])) at_305 5 rfl 6 rfl 2 rfl 7 rfl ⟨by decide, by decide⟩ pd_1 rfl rfl rfl 1 rfl (by decide) (by decide) (by decide) (by decide) 308 rfl (fun T v L w h => ?_)
      obtain ⟨rfl, hL⟩ := h
      replace w := w.to hL
      refine g_iadd w at_308 309 rfl ?_
      obtain ⟨ee, hee⟩ : ∃ own_z, own_z = (((((own_below (4 : Int32) (0 : Int32) q0 v) + (own_below (4 : Int32) (1 : Int32) q1 v)) + (own_below (4 : Int32) (2 : Int32) q2 v)) + (own_below (4 : Int32) (3 : Int32) q3 v)) : Int32) := ⟨_, rfl⟩
      refine g_istore w at_309 311 rfl hee.symm #[.val (.long b), .second, .val (.long r), .second, .val (.int g1), .val (.int g2), .val (.int g3), .val (.int sel), .val (.long q0), .second, .val (.long q1), .second, .val (.long q2), .second, .val (.long q3), .second, .val (.int (4 : Int32)), .val (.ref b9), .val (.int mode), .val (.long dlt), .second, .val (.long v), .second, .val (.int ee), .unset] rfl ?_
      refine g_new w [("com/example/leadhorizon/leadhorizon/calendar/SortedLongs", "values", "[J", .null), ("com/example/leadhorizon/leadhorizon/calendar/SortedLongs", "shift", "I", (.int (0 : Int32))), ("com/example/leadhorizon/leadhorizon/calendar/SortedLongs", "buckets", "[I", .null)] at_311 8 rfl 9 rfl 10 rfl (FOk.cons (Or.inr (w.hw (k := 18) rfl)) (ty := (.array .long)) (by decide) rfl (FOk.cons (Or.inr (w.hw (k := 21) rfl)) (ty := .int) (by decide) rfl (FOk.cons (Or.inr (w.hw (k := 24) rfl)) (ty := (.array .int)) (by decide) rfl trivial))) (by decide) (by decide) (by decide) 314 rfl (fun T b10 w => ?_)
      replace w := w.to (L' := [(b9, .inr (.long, [(.long q0), (.long q1), (.long q2), (.long q3)])), (b10, O_SortedLongs .null (.int (0 : Int32)) .null)]) rfl
      refine g_dup w at_314 rfl 315 rfl ?_
      refine g_aload w at_315 rfl rfl 317 rfl ?_
      refine g_ctor w (argsL := [(.ref b9)]) (rest := [(.ref b10)]) (rm3 l Z a0 hw n0 b10 b9 [q0, q1, q2, q3] (4 : Int32) srt4 rfl) at_317 11 rfl 12 rfl 10 rfl 13 rfl rfl ⟨by decide, by decide⟩ pd_2 rfl rfl rfl 1 rfl (by decide) (by decide) (by decide) (by decide) 320 rfl (fun T v L w h => ?_)
      obtain ⟨rfl, bk, sh, k, bs, hk, h61, hbn, hbk, rfl⟩ := h
      refine g_astore w at_320 322 rfl rfl #[.val (.long b), .second, .val (.long r), .second, .val (.int g1), .val (.int g2), .val (.int g3), .val (.int sel), .val (.long q0), .second, .val (.long q1), .second, .val (.long q2), .second, .val (.long q3), .second, .val (.int (4 : Int32)), .val (.ref b9), .val (.int mode), .val (.long dlt), .second, .val (.long v), .second, .val (.int ee), .val (.ref b10)] rfl ?_
      refine g_aload w at_322 rfl rfl 324 rfl ?_
      refine g_lload w at_324 rfl 326 rfl ?_
      refine g_virt w (argsL := [(.long v)]) (rest := []) (rm5 l Z a0 hw n0 b10 b9 bk [q0, q1, q2, q3] (4 : Int32) sh k bs v srt4 rfl hk h61 hbn hbk) at_326 1 rfl 25 rfl 26 rfl 10 rfl 29 rfl 28 rfl 27 rfl ⟨by decide, by decide⟩ pd_3 rfl rfl rfl 0 rfl (by decide) (by decide) (by decide) (by decide) 329 rfl (fun T v L w h => ?_)
      obtain ⟨⟨z, jz, rfl, hz, hcn⟩, rfl⟩ := h
      refine g_iload w at_329 rfl 331 rfl ?_
      refine g_icmp_ne w at_331 338 (by decide) (by decide) 334 rfl (fun h => absurd (by rw [hee]; exact own_sum4 q0 q1 q2 q3 v hz hcn) h) (fun hc331 => ?_)
      refine g_iconst w at_334 (1 : Int32) rfl 335 rfl ?_
      refine g_goto w at_335 339 (by decide) (by decide) ?_
      exact g_iretn w (by simp) at_339 (by decide) (by decide) rfl
    refine g_iload w at_174 rfl 176 rfl ?_
    refine g_if_ne w at_176 189 (by decide) (by decide) 179 rfl (fun hc176 => ?_) (fun hc176 => ?_)
    · -- pc 189 (taken: not mode = (0 : Int32))
      refine g_iload w at_189 rfl 191 rfl ?_
      refine g_iconst w at_191 (1 : Int32) rfl 192 rfl ?_
      refine g_icmp_ne w at_192 205 (by decide) (by decide) 195 rfl (fun hc192 => ?_) (fun hc192 => ?_)
      · -- pc 205 (taken: not mode = (1 : Int32))
        refine g_iload w at_205 rfl 207 rfl ?_
        refine g_iconst w at_207 (2 : Int32) rfl 208 rfl ?_
        refine g_icmp_ne w at_208 221 (by decide) (by decide) 211 rfl (fun hc208 => ?_) (fun hc208 => ?_)
        · -- pc 221 (taken: not mode = (2 : Int32))
          refine g_iload w at_221 rfl 223 rfl ?_
          refine g_iconst w at_223 (3 : Int32) rfl 224 rfl ?_
          refine g_icmp_ne w at_224 237 (by decide) (by decide) 227 rfl (fun hc224 => ?_) (fun hc224 => ?_)
          · -- pc 237 (taken: not mode = (3 : Int32))
            refine g_iload w at_237 rfl 239 rfl ?_
            refine g_bipush w at_239 (6 : Int32) rfl 241 rfl ?_
            refine g_icmp_ge w at_241 263 (by decide) (by decide) 244 rfl (fun hc241 => ?_) (fun hc241 => ?_)
            · -- pc 263 (taken: not mode < (6 : Int32))
              refine g_lloadN w at_263 rfl 264 rfl ?_
              refine g_lstore w at_264 266 rfl rfl #[.val (.long b), .second, .val (.long r), .second, .val (.int g1), .val (.int g2), .val (.int g3), .val (.int sel), .val (.long q0), .second, .val (.long q1), .second, .val (.long q2), .second, .val (.long q3), .second, .val (.int (4 : Int32)), .val (.ref b9), .val (.int mode), .val (.long dlt), .second, .val (.long r), .second, .unset, .unset] rfl ?_
              exact J266 r
            · -- pc 244 (on: mode < (6 : Int32))
              refine g_lload w at_244 rfl 246 rfl ?_
              refine g_lloadN w at_246 rfl 247 rfl ?_
              refine g_iconst w at_247 (1 : Int32) rfl 248 rfl ?_
              refine g_lushr w at_248 249 rfl ?_
              refine g_lload w at_249 rfl 251 rfl ?_
              refine g_lload w at_251 rfl 253 rfl ?_
              refine g_lsub w at_253 254 rfl ?_
              refine g_lconst w at_254 (1 : Int64) rfl 255 rfl ?_
              refine g_ladd w at_255 256 rfl ?_
              refine g_lrem w at_256 (own_dv four) 257 rfl ?_
              refine g_ladd w at_257 258 rfl ?_
              refine g_lstore w at_258 260 rfl rfl #[.val (.long b), .second, .val (.long r), .second, .val (.int g1), .val (.int g2), .val (.int g3), .val (.int sel), .val (.long q0), .second, .val (.long q1), .second, .val (.long q2), .second, .val (.long q3), .second, .val (.int (4 : Int32)), .val (.ref b9), .val (.int mode), .val (.long dlt), .second, .val (.long (q0 + ((ushrL r (1 : Int32)) % ((q3 - q0) + (1 : Int64))))), .second, .unset, .unset] rfl ?_
              refine g_goto w at_260 266 (by decide) (by decide) ?_
              exact J266 (q0 + ((ushrL r (1 : Int32)) % ((q3 - q0) + (1 : Int64))))
          · -- pc 227 (on: mode = (3 : Int32))
            refine g_lload w at_227 rfl 229 rfl ?_
            refine g_lload w at_229 rfl 231 rfl ?_
            refine g_ladd w at_231 232 rfl ?_
            refine g_lstore w at_232 234 rfl rfl #[.val (.long b), .second, .val (.long r), .second, .val (.int g1), .val (.int g2), .val (.int g3), .val (.int sel), .val (.long q0), .second, .val (.long q1), .second, .val (.long q2), .second, .val (.long q3), .second, .val (.int (4 : Int32)), .val (.ref b9), .val (.int mode), .val (.long dlt), .second, .val (.long (q3 + dlt)), .second, .unset, .unset] rfl ?_
            refine g_goto w at_234 266 (by decide) (by decide) ?_
            exact J266 (q3 + dlt)
        · -- pc 211 (on: mode = (2 : Int32))
          refine g_lload w at_211 rfl 213 rfl ?_
          refine g_lload w at_213 rfl 215 rfl ?_
          refine g_ladd w at_215 216 rfl ?_
          refine g_lstore w at_216 218 rfl rfl #[.val (.long b), .second, .val (.long r), .second, .val (.int g1), .val (.int g2), .val (.int g3), .val (.int sel), .val (.long q0), .second, .val (.long q1), .second, .val (.long q2), .second, .val (.long q3), .second, .val (.int (4 : Int32)), .val (.ref b9), .val (.int mode), .val (.long dlt), .second, .val (.long (q2 + dlt)), .second, .unset, .unset] rfl ?_
          refine g_goto w at_218 266 (by decide) (by decide) ?_
          exact J266 (q2 + dlt)
      · -- pc 195 (on: mode = (1 : Int32))
        refine g_lload w at_195 rfl 197 rfl ?_
        refine g_lload w at_197 rfl 199 rfl ?_
        refine g_ladd w at_199 200 rfl ?_
        refine g_lstore w at_200 202 rfl rfl #[.val (.long b), .second, .val (.long r), .second, .val (.int g1), .val (.int g2), .val (.int g3), .val (.int sel), .val (.long q0), .second, .val (.long q1), .second, .val (.long q2), .second, .val (.long q3), .second, .val (.int (4 : Int32)), .val (.ref b9), .val (.int mode), .val (.long dlt), .second, .val (.long (q1 + dlt)), .second, .unset, .unset] rfl ?_
        refine g_goto w at_202 266 (by decide) (by decide) ?_
        exact J266 (q1 + dlt)
    · -- pc 179 (on: mode = (0 : Int32))
      refine g_lload w at_179 rfl 181 rfl ?_
      refine g_lload w at_181 rfl 183 rfl ?_
      refine g_ladd w at_183 184 rfl ?_
      refine g_lstore w at_184 186 rfl rfl #[.val (.long b), .second, .val (.long r), .second, .val (.int g1), .val (.int g2), .val (.int g3), .val (.int sel), .val (.long q0), .second, .val (.long q1), .second, .val (.long q2), .second, .val (.long q3), .second, .val (.int (4 : Int32)), .val (.ref b9), .val (.int mode), .val (.long dlt), .second, .val (.long (q0 + dlt)), .second, .unset, .unset] rfl ?_
      refine g_goto w at_186 266 (by decide) (by decide) ?_
      exact J266 (q0 + dlt)
set_option maxRecDepth 65536 in
set_option maxHeartbeats 40000000 in
theorem comes_1 {Post : Tables → Env → Array Value → State → Outcome → State → Prop} (hpost : ∀ tb e args s v u, (limb_1_1.after args s (.returned v) u = true ∧ limb_1_2.after args s (.returned v) u = true ∧ True) → FrameEnd s (.returned v) u (Jvm.fieldLocs frame_1_writes args s ++ Jvm.arrayLocs frame_1_arrays args s ++ Jvm.staticLocs frame_1_statics s) 16 128 → Post tb e args s (.returned v) u) :
    ArmFor flags0 classFile x code maxLocals ret World_1 tables_1 room_1 Calls_1 rest_1 Pre_1 Post := by
  intro l hfl _ _ p e ha hc hk s m args below hf hA hF happ hP
  obtain ⟨hcalls, hrest, hpre⟩ := hP
  obtain ⟨-, -, -, hnamed, -, -, -, hat⟩ := (Spec.applies_iff hf).mp happ
  obtain ⟨hg, hn⟩ := and_e (Cond.before_iff.mp (show (Jvm.Cond.and given_1 narrow_1).before args s = true from hpre))
  obtain ⟨hcnt, g0⟩ := and_e hg
  obtain ⟨k0, g1⟩ := and_e g0
  obtain ⟨k1, g2⟩ := and_e g1
  obtain ⟨k2, g3⟩ := and_e g2
  obtain ⟨k3, g4⟩ := and_e g3
  obtain ⟨k4, g5⟩ := and_e g4
  have k5 := g5
  obtain ⟨w0, w1, w2, w3, w4, w5, rfl⟩ : ∃ w0 w1 w2 w3 w4 w5 : Value, args = #[w0, w1, w2, w3, w4, w5] := by
    have hs : args.size = 6 := by simpa [Cond.value, given_1] using hcnt
    obtain ⟨L⟩ := args
    match L, hs with
    | [w0, w1, w2, w3, w4, w5], _ => exact ⟨w0, w1, w2, w3, w4, w5, rfl⟩
  have hw := fun d (hd : d ∈ tables_1) => atoms_spec (ws := Jvm.Cond.code x code maxLocals ret :: tables_1) hat d (List.mem_cons_of_mem _ hd)
  obtain ⟨i0, e0⟩ := isL_v k0
  obtain rfl : w0 = (.long i0) := Option.some.inj e0
  obtain ⟨i1, e1⟩ := isL_v k1
  obtain rfl : w1 = (.long i1) := Option.some.inj e1
  obtain ⟨i2, e2⟩ := is_v k2
  obtain rfl : w2 = (.int i2) := Option.some.inj e2
  obtain ⟨i3, e3⟩ := is_v k3
  obtain rfl : w3 = (.int i3) := Option.some.inj e3
  obtain ⟨i4, e4⟩ := is_v k4
  obtain rfl : w4 = (.int i4) := Option.some.inj e4
  obtain ⟨i5, e5⟩ := is_v k5
  obtain rfl : w5 = (.int i5) := Option.some.inj e5
  obtain ⟨n, o, h1, h2, h3, _, Lc, rfl, ⟨N, LL, hH, rfl⟩, hq⟩ := rm0 l s _ hw s.heap.size i0 i1 i2 i3 i4 i5 tables_1 0 s.heap (Hp.nil (Old.start s) (Nat.zero_le _)) p e ha hc hk s m _ below hf ((Spec.applies_iff_loose hf).mp happ).1 ⟨rfl, State.Warmed39.refl s, rfl⟩ trivial
  exact ⟨n, _, h1, h2, h3, hpost _ _ _ _ _ _ ⟨Cond.after_iff.mpr rfl, Cond.after_iff.mpr (eq_i res_at (Term.int_eval (1)) rfl), trivial⟩ (fr_end N hq _ (by decide) (by decide))⟩
theorem main_1_1 : Claimed_1_1 := comes_1 fun _ _ _ _ _ _ h hF => ⟨h.1, hF⟩
theorem main_1_2 : Claimed_1_2 := comes_1 fun _ _ _ _ _ _ h hF => ⟨h.2.1, hF⟩
end Jvm.Pilot.@@N@@
namespace Jvm.Pilot.@@N@@
open Jvm Jvm.ClassFile Sem Op Lib Jvm.Free Jvm.Stand Jvm.Pilot.@@N@@.Jvm.D
/-! MADE BY PROGRAM (witnessworld.py) out of the Statement's table words and the real class files: 11 classes; the members and pool entries that the words name. The judged class is class 1, her method 1. -/
namespace start1
open Jvm.ClassFile
def u (s : String) : CpInfo := .utf8 (stringToUtf16 s)
/-- a pool by its gaps: so many unusable entries, then the entry; so many at the end -/
def gap : Nat → List CpInfo → List CpInfo
  | 0, r => r
  | n + 1, r => .unusable :: gap n r
def poolList (es : List (Nat × CpInfo)) (last : Nat) : List CpInfo := es.foldr (fun e r => gap e.1 (e.2 :: r)) (gap last [])
def pool (es : List (Nat × CpInfo)) (last : Nat) : Array CpInfo := ⟨poolList es last⟩
def fileOf (pool : Array CpInfo) (this : Nat) (attrs : Array Attribute := #[]) (ms : Array MethodInfo := #[]) (fl : Nat := 33) (sup : Nat := 0) (ifs : Array Nat := #[]) (fds : Array FieldInfo := #[]) : ClassFile where
  minorVersion := 0
  majorVersion := 65
  constantPool := pool
  accessFlags := fl
  thisClass := this
  superClass := sup
  interfaces := ifs
  fields := fds
  methods := ms
  attributes := attrs
def plain (name : String) (sup : Option ClassId) : Class where
  name := name
  kind := .ordinary
  loader := none
  accessFlags := 33
  super := sup
  interfaces := #[]
  cf := none
  fields := #[]
  methods := #[]
  instanceTypes := #[]
  staticTypes := #[]
  resolved := #[]
  callSites := []
  init := .initialized
  statics := none
  mirror := none

def pool0 : Array CpInfo := pool [(5, u "<init>"), (0, u "()V"), (1, .class_ 10), (1, u "java/lang/Object")] 113

def k0c0 : Code := { maxStack := 0, maxLocals := 1, code := object_method_1_code, exceptionTable := #[], attributes := #[] }
def k0m0 : Method := { name := "<init>", desc := "()V", sig := { parameters := [], returnType := none }, accessFlags := 1, code := some k0c0 }
/-- java/lang/Object -/
def k0 : Class := { plain "java/lang/Object" none with
  accessFlags := 33
  interfaces := #[]
  cf := some (fileOf pool0 8 #[] #[{ accessFlags := 1, nameIndex := 5, descriptorIndex := 6, attributes := #[] }] 33 0 #[] #[])
  fields := #[]
  methods := #[k0m0]
  instanceTypes := #[]
  staticTypes := #[]
  resolved := Array.replicate 124 none
  statics := none }

def pool1 : Array CpInfo := pool [(2, .class_ 4), (1, u "java/lang/Object"), (0, u "<init>"), (0, u "()V"), (0, .methodref 8 9), (0, .class_ 10), (0, .nameAndType 11 12), (0, u "com/example/leadhorizon/leadhorizon/calendar/SortedLongsCountBelowPinLaw"), (0, u "gap"), (0, u "(I)J"), (0, .methodref 8 14), (0, .nameAndType 15 16), (0, u "below"), (0, u "(IIJJ)I"), (0, .class_ 18), (0, u "com/example/leadhorizon/leadhorizon/calendar/SortedLongs"), (0, .methodref 17 20), (0, .nameAndType 5 21), (0, u "([J)V"), (0, .methodref 17 23), (0, .nameAndType 24 25), (0, u "countBelow"), (0, u "(J)I"), (2, u "law"), (0, u "(JJIIII)Z")] 5

def k1m0 : Method := { name := "<init>", desc := "()V", sig := { parameters := [], returnType := none }, accessFlags := 1, code := none }
def k1c1 : Code := { maxStack := 8, maxLocals := 25, code := code, exceptionTable := #[], attributes := #[] }
def k1m1 : Method := { name := "law", desc := "(JJIIII)Z", sig := { parameters := [.long, .long, .int, .int, .int, .int], returnType := some .boolean }, accessFlags := 9, code := some k1c1 }
def k1c2 : Code := { maxStack := 4, maxLocals := 1, code := method_3_code, exceptionTable := #[], attributes := #[] }
def k1m2 : Method := { name := "gap", desc := "(I)J", sig := { parameters := [.int], returnType := some .long }, accessFlags := 10, code := some k1c2 }
def k1c3 : Code := { maxStack := 4, maxLocals := 6, code := method_4_code, exceptionTable := #[], attributes := #[] }
def k1m3 : Method := { name := "below", desc := "(IIJJ)I", sig := { parameters := [.int, .int, .long, .long], returnType := some .int }, accessFlags := 10, code := some k1c3 }
/-- com/example/leadhorizon/leadhorizon/calendar/SortedLongsCountBelowPinLaw -/
def k1 : Class := { plain "com/example/leadhorizon/leadhorizon/calendar/SortedLongsCountBelowPinLaw" (some 0) with
  accessFlags := 49
  interfaces := #[]
  cf := some (fileOf pool1 8 #[] #[{ accessFlags := 1, nameIndex := 5, descriptorIndex := 6, attributes := #[] }, { accessFlags := 9, nameIndex := 28, descriptorIndex := 29, attributes := #[] }, { accessFlags := 10, nameIndex := 11, descriptorIndex := 12, attributes := #[] }, { accessFlags := 10, nameIndex := 15, descriptorIndex := 16, attributes := #[] }] 49 2 #[] #[])
  fields := #[]
  methods := #[k1m0, k1m1, k1m2, k1m3]
  instanceTypes := #[]
  staticTypes := #[]
  resolved := Array.replicate 35 none
  statics := none }

def pool2 : Array CpInfo := pool [(1, .methodref 2 3), (0, .class_ 4), (0, .nameAndType 5 6), (0, u "java/lang/Object"), (0, u "<init>"), (0, u "()V"), (0, .fieldref 8 9), (0, .class_ 10), (0, .nameAndType 11 12), (0, u "com/example/leadhorizon/leadhorizon/calendar/SortedLongs"), (0, u "values"), (0, u "[J"), (0, .long 2), (1, .fieldref 8 16), (0, .nameAndType 17 18), (0, u "shift"), (0, u "I"), (0, .fieldref 8 20), (0, .nameAndType 21 22), (0, u "buckets"), (0, u "[I"), (0, u "([J)V"), (6, u "countBelow"), (0, u "(J)I")] 2

def k2c0 : Code := { maxStack := 6, maxLocals := 9, code := prog_12_method_1_code, exceptionTable := #[], attributes := #[] }
def k2m0 : Method := { name := "<init>", desc := "([J)V", sig := { parameters := [(.array .long)], returnType := none }, accessFlags := 0, code := some k2c0 }
def k2c1 : Code := { maxStack := 5, maxLocals := 7, code := prog_12_method_3_code, exceptionTable := #[], attributes := #[] }
def k2m1 : Method := { name := "countBelow", desc := "(J)I", sig := { parameters := [.long], returnType := some .int }, accessFlags := 0, code := some k2c1 }
/-- com/example/leadhorizon/leadhorizon/calendar/SortedLongs -/
def k2 : Class := { plain "com/example/leadhorizon/leadhorizon/calendar/SortedLongs" (some 0) with
  accessFlags := 48
  interfaces := #[]
  cf := some (fileOf pool2 8 #[] #[{ accessFlags := 0, nameIndex := 5, descriptorIndex := 23, attributes := #[] }, { accessFlags := 0, nameIndex := 30, descriptorIndex := 31, attributes := #[] }] 48 2 #[] #[{ accessFlags := 18, nameIndex := 11, descriptorIndex := 12, attributes := #[] }, { accessFlags := 18, nameIndex := 17, descriptorIndex := 18, attributes := #[] }, { accessFlags := 18, nameIndex := 21, descriptorIndex := 22, attributes := #[] }])
  fields := #[{ name := "values", type := (.array .long), accessFlags := 18, slot := 0, constantValue := 0 }, { name := "shift", type := .int, accessFlags := 18, slot := 1, constantValue := 0 }, { name := "buckets", type := (.array .int), accessFlags := 18, slot := 2, constantValue := 0 }]
  methods := #[k2m0, k2m1]
  instanceTypes := #[(.array .long), .int, (.array .int)]
  staticTypes := #[]
  resolved := Array.replicate 34 none
  statics := none }

def pool3 : Array CpInfo := pool [(1, u "java/lang/Cloneable"), (0, .class_ 1), (0, u "java/lang/Object"), (0, .class_ 3)] 3

/-- java/lang/Cloneable -/
def k3 : Class := { plain "java/lang/Cloneable" (some 0) with
  accessFlags := 1537
  interfaces := #[]
  cf := some (fileOf pool3 2 #[] #[] 1537 4 #[] #[])
  fields := #[]
  methods := #[]
  instanceTypes := #[]
  staticTypes := #[]
  resolved := Array.replicate 8 none
  statics := none }

def pool4 : Array CpInfo := pool [(1, u "java/io/Serializable"), (0, .class_ 1), (0, u "java/lang/Object"), (0, .class_ 3)] 3

/-- java/io/Serializable -/
def k4 : Class := { plain "java/io/Serializable" (some 0) with
  accessFlags := 1537
  interfaces := #[]
  cf := some (fileOf pool4 2 #[] #[] 1537 4 #[] #[])
  fields := #[]
  methods := #[]
  instanceTypes := #[]
  staticTypes := #[]
  resolved := Array.replicate 8 none
  statics := none }

/-- the primitive byte -/
def k5 : Class := { plain "byte" none with kind := .primitive 'B', accessFlags := 0x411 }
/-- [B -/
def k6 : Class := { plain "[B" (some 0) with kind := .array 5 .byte, interfaces := #[3, 4], accessFlags := 1041 }

/-- the primitive int -/
def k7 : Class := { plain "int" none with kind := .primitive 'I', accessFlags := 0x411 }
/-- [I -/
def k8 : Class := { plain "[I" (some 0) with kind := .array 7 .int, interfaces := #[3, 4], accessFlags := 1041 }

/-- the primitive long -/
def k9 : Class := { plain "long" none with kind := .primitive 'J', accessFlags := 0x411 }
/-- [J -/
def k10 : Class := { plain "[J" (some 0) with kind := .array 9 .long, interfaces := #[3, 4], accessFlags := 1041 }

def heap : Heap := #[]
def classes : Array Class := #[k0, k1, k2, k3, k4, k5, k6, k7, k8, k9, k10]
def interned : List (Array UInt16 × Addr) := []
def slotsUsed : Nat := 0
def theMethod : MethodId := ⟨1, 1⟩
def args0 : Array Value := #[.long 53, .long 5, .int 9, .int 1, .int 2, .int 70]
def aboutOver (below : List Frame) : State where
  vm := { classes := classes, interned := interned.toArray }
  heap := heap
  slotsUsed := slotsUsed
  threads := #[{ frames := .invoking theMethod args0 :: below }]
def below0 : List Frame := [.native { method := ⟨0, 0⟩, args := #[] }]
def about1 : State := aboutOver below0
def p0 : Program := .bare "" "" ""
def e0 : Env := launch0.env 0 0 0
theorem w_frames : about1.frames = Frame.invoking theMethod args0 :: below0 := rfl
set_option maxRecDepth 65536 in
theorem w_args : argsFit about1.vm theMethod args0 = true := by decide +kernel
set_option maxRecDepth 65536 in
theorem w_heap : heapFits about1 = true := by decide +kernel
set_option maxRecDepth 65536 in
theorem w_runnable : about1.curStatus? = some .runnable := by decide +kernel
set_option maxRecDepth 65536 in
theorem w_alone : about1.alone = true := by decide +kernel
set_option maxRecDepth 65536 in
theorem w_named : about1.methodNamed? x = some theMethod := by decide +kernel
set_option maxRecDepth 65536 in
theorem w_hears : about1.hears theMethod below0 = true := by decide +kernel
set_option maxRecDepth 65536 in
theorem w_ripe : about1.ripe theMethod args0 below0 = true := by decide +kernel
theorem w_running : about1.status = .running := rfl
set_option maxRecDepth 65536 in
theorem w_room : about1.hasRoom e0.platform room_1 = true :=
  launch0.hasRoom_least _ room_1 (by decide +kernel) (by decide +kernel) (by decide +kernel) (by decide +kernel) (by decide +kernel) (by decide +kernel)
theorem allAtoms_all (ts : List Jvm.Cond) (a : Array Jvm.Value) (st : Jvm.State) : (allAtoms ts).before a st = ts.all (fun c => c.before a st) := by
  induction ts with
  | nil => rfl
  | cons c t ih =>
    show (Jvm.Cond.and c (allAtoms t)).before a st = _
    rw [Jvm.Cond.before_and, ih, List.all_cons]
def words1 : List Jvm.Cond := Jvm.Cond.code x code maxLocals ret :: tables_1
/-- a 'code' word, met by the world's own term for the bytes: nothing is compared byte by byte -/
theorem code_word {y : MethodName} {bytes : ByteArray} {mx : Nat} {rt : Option FieldType} {a : Array Value} {s : State} {m : MethodId} {meth : Method} {c : Code} (h1 : s.methodNamed? y = some m) (h2 : s.vm.method? m = some meth) (h3 : meth.code = some c) (h4 : c.code = bytes)
    (h5 : (c.maxLocals == mx && c.exceptionTable.isEmpty && decide (c.maxStack ≤ mostOperands) && decide (meth.sig.returnType = rt) && !meth.locks && decide (parseMethodDescriptor y.desc = some meth.sig)) = true) : (Jvm.Cond.code y bytes mx rt).before a s = true := by
  simp only [Bool.and_eq_true, beq_iff_eq, Bool.not_eq_true', decide_eq_true_eq] at h5
  obtain ⟨⟨⟨⟨⟨g1, g2⟩, g3⟩, g4⟩, g5⟩, g6⟩ := h5
  simp [Cond.before, Cond.holds, Cond.value, h1, h2, h3, h4, g1, g2, g3, g4, g5, g6]
def isCode : Jvm.Cond → Bool
  | .code _ _ _ _ => true
  | _ => false
theorem all_split {L : List Jvm.Cond} {P : Jvm.Cond → Bool} (h1 : L.all (fun c => isCode c || P c) = true) (h2 : ∀ c ∈ L.filter isCode, P c = true) : L.all P = true := by
  refine List.all_eq_true.mpr fun c hc => ?_
  have h := List.all_eq_true.mp h1 c hc
  rcases Bool.eq_false_or_eq_true (isCode c) with hi | hi
  · exact h2 c (List.mem_filter.mpr ⟨hc, hi⟩)
  · simpa [hi] using h
set_option maxRecDepth 65536 in
theorem w_c0 : (Jvm.Cond.code x code maxLocals ret).before args0 about1 = true := code_word (m := ⟨1, 1⟩) (meth := k1m1) (c := k1c1) (by decide +kernel) rfl rfl rfl (by decide +kernel)
set_option maxRecDepth 65536 in
theorem w_c1 : (Jvm.Cond.code ({ cls := "com/example/leadhorizon/leadhorizon/calendar/SortedLongsCountBelowPinLaw", name := "gap", desc := "(I)J" } : Jvm.MethodName) method_3_code (1 : Nat) (Option.some Jvm.ClassFile.FieldType.long)).before args0 about1 = true := code_word (m := ⟨1, 2⟩) (meth := k1m2) (c := k1c2) (by decide +kernel) rfl rfl rfl (by decide +kernel)
set_option maxRecDepth 65536 in
theorem w_c2 : (Jvm.Cond.code ({ cls := "com/example/leadhorizon/leadhorizon/calendar/SortedLongsCountBelowPinLaw", name := "below", desc := "(IIJJ)I" } : Jvm.MethodName) method_4_code (6 : Nat) (Option.some Jvm.ClassFile.FieldType.int)).before args0 about1 = true := code_word (m := ⟨1, 3⟩) (meth := k1m3) (c := k1c3) (by decide +kernel) rfl rfl rfl (by decide +kernel)
set_option maxRecDepth 65536 in
theorem w_c3 : (Jvm.Cond.code ({ cls := "com/example/leadhorizon/leadhorizon/calendar/SortedLongs", name := "<init>", desc := "([J)V" } : Jvm.MethodName) prog_12_method_1_code (9 : Nat) (Option.none : Option Jvm.ClassFile.FieldType)).before args0 about1 = true := code_word (m := ⟨2, 0⟩) (meth := k2m0) (c := k2c0) (by decide +kernel) rfl rfl rfl (by decide +kernel)
set_option maxRecDepth 65536 in
theorem w_c4 : (Jvm.Cond.code ({ cls := "java/lang/Object", name := "<init>", desc := "()V" } : Jvm.MethodName) object_method_1_code (1 : Nat) (Option.none : Option Jvm.ClassFile.FieldType)).before args0 about1 = true := code_word (m := ⟨0, 0⟩) (meth := k0m0) (c := k0c0) (by decide +kernel) rfl rfl rfl (by decide +kernel)
set_option maxRecDepth 65536 in
theorem w_c5 : (Jvm.Cond.code ({ cls := "com/example/leadhorizon/leadhorizon/calendar/SortedLongs", name := "countBelow", desc := "(J)I" } : Jvm.MethodName) prog_12_method_3_code (7 : Nat) (Option.some Jvm.ClassFile.FieldType.int)).before args0 about1 = true := code_word (m := ⟨2, 1⟩) (meth := k2m1) (c := k2c1) (by decide +kernel) rfl rfl rfl (by decide +kernel)
def codes1 : List Jvm.Cond := [Jvm.Cond.code x code maxLocals ret, Jvm.Cond.code ({ cls := "com/example/leadhorizon/leadhorizon/calendar/SortedLongsCountBelowPinLaw", name := "gap", desc := "(I)J" } : Jvm.MethodName) method_3_code (1 : Nat) (Option.some Jvm.ClassFile.FieldType.long), Jvm.Cond.code ({ cls := "com/example/leadhorizon/leadhorizon/calendar/SortedLongsCountBelowPinLaw", name := "below", desc := "(IIJJ)I" } : Jvm.MethodName) method_4_code (6 : Nat) (Option.some Jvm.ClassFile.FieldType.int), Jvm.Cond.code ({ cls := "com/example/leadhorizon/leadhorizon/calendar/SortedLongs", name := "<init>", desc := "([J)V" } : Jvm.MethodName) prog_12_method_1_code (9 : Nat) (Option.none : Option Jvm.ClassFile.FieldType), Jvm.Cond.code ({ cls := "java/lang/Object", name := "<init>", desc := "()V" } : Jvm.MethodName) object_method_1_code (1 : Nat) (Option.none : Option Jvm.ClassFile.FieldType), Jvm.Cond.code ({ cls := "com/example/leadhorizon/leadhorizon/calendar/SortedLongs", name := "countBelow", desc := "(J)I" } : Jvm.MethodName) prog_12_method_3_code (7 : Nat) (Option.some Jvm.ClassFile.FieldType.int)]
set_option maxRecDepth 65536 in
theorem codes_eq : words1.filter isCode = codes1 := rfl
theorem w_codes : ∀ c ∈ words1.filter isCode, c.before args0 about1 = true := by
  rw [codes_eq]
  intro c hc
  simp only [codes1, List.mem_cons, List.not_mem_nil, or_false] at hc
  rcases hc with rfl | rfl | rfl | rfl | rfl | rfl
  · exact w_c0
  · exact w_c1
  · exact w_c2
  · exact w_c3
  · exact w_c4
  · exact w_c5
set_option maxRecDepth 65536 in
theorem w_t1 : (words1.take 24).all (fun c => isCode c || c.before args0 about1) = true := by decide +kernel
set_option maxRecDepth 65536 in
theorem w_t2 : (words1.drop 24).all (fun c => isCode c || c.before args0 about1) = true := by decide +kernel
theorem w_tables : (allAtoms (Jvm.Cond.code x code maxLocals ret :: tables_1)).before args0 about1 = true := by
  rw [allAtoms_all]
  show words1.all (fun c => c.before args0 about1) = true
  refine all_split ?_ w_codes
  rw [← List.take_append_drop 24 words1, List.all_append, w_t1, w_t2]
  rfl
set_option maxRecDepth 65536 in
theorem w_case : (Jvm.Cond.and given_1 narrow_1).before args0 about1 = true := by decide +kernel
theorem w_applies : (headSpec (Jvm.Cond.code x code maxLocals ret :: tables_1) room_1).applies x e0.platform about1 = true :=
  (Spec.applies_iff w_frames).mpr ⟨w_running, w_runnable, w_alone, w_named, w_hears, w_ripe, w_room, w_tables⟩
theorem atStart : AtStart classFile x code maxLocals ret World_1 tables_1 room_1 Calls_1 rest_1 Pre_1 launch0 p0 e0 about1 theMethod args0 below0 :=
  ⟨lists_1, trivial, launch0.admits_env _ _ _, launch0.least_env, fairChoices_fair.cas, fairChoices_fair.clock, w_frames, w_args, w_heap, w_applies, trivial, trivial, w_case⟩
end start1
theorem witness_1 : WitnessClaimed_1 := ⟨start1.p0, start1.e0, start1.about1, start1.theMethod, start1.args0, start1.below0, start1.atStart⟩
end Jvm.Pilot.@@N@@
