import JvmDerived
import JvmDerived.Pilot.@@N@@Statement
import JvmDerived.Pilot.@@N@@Code
set_option linter.unusedVariables false
set_option linter.unusedSimpArgs false
namespace Jvm.OwnW
open Jvm Jvm.ClassFile Sem Op Lib Jvm.Free Jvm.Stand Jvm.LawKit Jvm.RoadKit
/-! ## shifts -/
def ushrI (x y : Int32) : Int32 := (x.toUInt32 >>> (y &&& 31).toUInt32).toInt32
def shlL (x : Int64) (y : Int32) : Int64 := x <<< (y &&& 0x3f).toInt64
def shrL (x : Int64) (y : Int32) : Int64 := x >>> (y &&& 0x3f).toInt64
def ushrL (x : Int64) (y : Int32) : Int64 := (x.toUInt64 >>> (y &&& 0x3f).toInt64.toUInt64).toInt64
theorem ushrI_c (x q : Int32) (k : Nat) (hk : q.toBitVec.toNat % 32 = k) (h0 : 0 < k) : (ushrI x q).toInt = (x.toInt % 4294967296) / (2 ^ k : Nat) := c_iushr x q k hk h0
theorem shlL_c (x : Int64) (q : Int32) (k : Nat) (hk : q.toBitVec.toNat % 64 = k) : ((shlL x q).toInt - x.toInt * (2 ^ k : Nat)) % 18446744073709551616 = 0 := c_lshl x q k hk
theorem shrL_c (x : Int64) (q : Int32) (k : Nat) (hk : q.toBitVec.toNat % 64 = k) : (shrL x q).toInt = x.toInt / (2 ^ k : Nat) := c_lshr x q k hk
theorem ushrL_c (x : Int64) (q : Int32) (k : Nat) (hk : q.toBitVec.toNat % 64 = k) (h0 : 0 < k) : (ushrL x q).toInt = (x.toInt % 18446744073709551616) / (2 ^ k : Nat) := c_lushr x q k hk h0
theorem ushrL_0 (x : Int64) : ushrL x 0 = x := by
  show (x.toUInt64 >>> (0 : UInt64)).toInt64 = x
  simp
/-! ## what the walk's own cells hold -/
/-- a field: the class that declares it, its name, its descriptor, its value -/
abbrev FldE := String × String × String × Value
/-- an object (its class, its fields) or an array (its component's kind, its values) -/
abbrev Obj := (String × List FldE) ⊕ (FieldType × List Value)
abbrev HL := List (Addr × Obj)
def Is (Z : State) (h : Heap) (a : Addr) : Obj → Prop
  | .inl (C, fs) => Exa Z h a C ∧ (∀ f ∈ fs, Fld Z h a f.1 f.2.1 f.2.2.1 f.2.2.2) ∧ fs.Pairwise fun f g => RoadKit.slotOf Z f.1 f.2.1 f.2.2.1 ≠ RoadKit.slotOf Z g.1 g.2.1 g.2.2.1
  | .inr (ty, vs) => ∃ c : Cell, Arr Z h a c ty ∧ Exa Z h a ("[" ++ ty.toString) ∧ c.slots.toList = vs ∧ vs.length < 2 ^ 31
def Hp (Z : State) (n0 kb : Nat) (h : Heap) (L : HL) : Prop :=
  (Old Z n0 h ∧ kb ≤ h.size) ∧ (∀ (i : Nat) (a : Addr) (o : Obj), L[i]? = some (a, o) → n0 ≤ a ∧ Is Z h a o) ∧ ∀ (i j : Nat) (a : Addr) (o o' : Obj), L[i]? = some (a, o) → L[j]? = some (a, o') → i = j
section Heaps
variable {Z : State} {a0 : Array Value} {n0 kb : Nat} {h h' : Heap} {a b : Addr} {o : Obj} {L : HL}
theorem Is.lt (F : Is Z h a o) : a < h.size := by
  rcases o with ⟨C, fs⟩ | ⟨ty, vs⟩
  · exact F.1.lt
  · obtain ⟨c, A, -⟩ := F; exact A.lt
theorem Is.ext (F : Is Z h a o) (E : Ext h h') : Is Z h' a o := by
  rcases o with ⟨C, fs⟩ | ⟨ty, vs⟩
  · exact ⟨F.1.ext E, fun f hf => (F.2.1 f hf).ext E, F.2.2⟩
  · obtain ⟨c, A, X, r⟩ := F; exact ⟨c, A.ext E, X.ext E, r⟩
theorem Is.other {sl : Nat} {v : Value} (F : Is Z h b o) (W : Wr h h' a sl v) (q : b ≠ a) : Is Z h' b o := by
  rcases o with ⟨C, fs⟩ | ⟨ty, vs⟩
  · exact ⟨F.1.wr W, fun f hf => (F.2.1 f hf).other W (Or.inl q), F.2.2⟩
  · obtain ⟨c, A, X, r⟩ := F; exact ⟨c, A.other W q, X.wr W, r⟩
theorem Hp.nil (O : Old Z n0 h) (hk : kb ≤ h.size) : Hp Z n0 kb h [] := ⟨⟨O, hk⟩, fun i a o q => by simp at q, fun i j a o o' q => by simp at q⟩
theorem Hp.at (H : Hp Z n0 kb h L) {i : Nat} (q : L[i]? = some (a, o)) : Is Z h a o := (H.2.1 i a o q).2
theorem Hp.obj {C : String} {fs : List FldE} (H : Hp Z n0 kb h L) {i : Nat} (q : L[i]? = some (a, .inl (C, fs))) : Exa Z h a C ∧ (∀ f ∈ fs, Fld Z h a f.1 f.2.1 f.2.2.1 f.2.2.2) ∧ fs.Pairwise fun f g => RoadKit.slotOf Z f.1 f.2.1 f.2.2.1 ≠ RoadKit.slotOf Z g.1 g.2.1 g.2.2.1 := (H.2.1 i a _ q).2
theorem Hp.arr {ty : FieldType} {vs : List Value} (H : Hp Z n0 kb h L) {i : Nat} (q : L[i]? = some (a, .inr (ty, vs))) : ∃ c : Cell, Arr Z h a c ty ∧ Exa Z h a ("[" ++ ty.toString) ∧ c.slots.toList = vs ∧ vs.length < 2 ^ 31 := (H.2.1 i a _ q).2
theorem Hp.ge (H : Hp Z n0 kb h L) {i : Nat} (q : L[i]? = some (a, o)) : n0 ≤ a := (H.2.1 i a o q).1
theorem Hp.push (H : Hp Z n0 kb h L) (E : Ext h h') (hn : n0 ≤ h.size) (F : Is Z h' h.size o) : Hp Z n0 kb h' (L ++ [(h.size, o)]) := by
  have lt : ∀ {i : Nat} {b : Addr} {o' : Obj}, (L ++ [(h.size, o)])[i]? = some (b, o') → (i < L.length ∧ L[i]? = some (b, o') ∧ b < h.size) ∨ (i = L.length ∧ b = h.size ∧ o' = o) := by
    intro i b o' q
    by_cases hi : i < L.length
    · rw [List.getElem?_append_left hi] at q
      exact Or.inl ⟨hi, q, (H.at q).lt⟩
    · rw [List.getElem?_append_right (Nat.le_of_not_lt hi)] at q
      have : i - L.length = 0 := by
        cases hk : i - L.length with
        | zero => rfl
        | succ k => rw [hk] at q; simp at q
      rw [this] at q
      simp at q
      exact Or.inr ⟨by omega, q.1.symm, q.2.symm⟩
  refine ⟨⟨H.1.1.ext E, Nat.le_trans H.1.2 E.1⟩, fun i b o' q => ?_, fun i j b o1 o2 q1 q2 => ?_⟩
  · rcases lt q with ⟨-, q', -⟩ | ⟨-, rfl, rfl⟩
    · exact ⟨H.ge q', (H.at q').ext E⟩
    · exact ⟨hn, F⟩
  · rcases lt q1 with ⟨-, q1', r1⟩ | ⟨e1, r1, -⟩ <;> rcases lt q2 with ⟨-, q2', r2⟩ | ⟨e2, r2, -⟩
    · exact H.2.2 i j b o1 o2 q1' q2'
    · exact absurd r2 (Nat.ne_of_lt r1)
    · exact absurd r1 (Nat.ne_of_lt r2)
    · exact e1.trans e2.symm
theorem Hp.size (H : Hp Z n0 kb h L) : n0 ≤ h.size := H.1.1.1 ▸ H.1.1.2.1
theorem Hp.lower {kb' : Nat} (H : Hp Z n0 kb h L) (q : kb' ≤ h.size) : Hp Z n0 kb' h L := ⟨⟨H.1.1, q⟩, H.2⟩
theorem Hp.put {sl : Nat} {v : Value} {o' : Obj} (H : Hp Z n0 kb h L) {i : Nat} (q : L[i]? = some (a, o)) (W : Wr h h' a sl v) (F : Is Z h' a o') : Hp Z n0 kb h' (L.set i (a, o')) := by
  have at' : ∀ {j : Nat} {b : Addr} {o2 : Obj}, (L.set i (a, o'))[j]? = some (b, o2) → (j = i ∧ b = a ∧ o2 = o') ∨ (j ≠ i ∧ L[j]? = some (b, o2)) := by
    intro j b o2 r
    by_cases hj : j = i
    · subst hj
      rw [List.getElem?_set_self (List.getElem?_eq_some_iff.mp q).1] at r
      simp at r
      exact Or.inl ⟨rfl, r.1.symm, r.2.symm⟩
    · rw [List.getElem?_set_ne (Ne.symm hj)] at r
      exact Or.inr ⟨hj, r⟩
  refine ⟨⟨H.1.1.wr W (H.ge q), by rw [W.size]; exact H.1.2⟩, fun j b o2 r => ?_, fun j j' b o1 o2 r1 r2 => ?_⟩
  · rcases at' r with ⟨rfl, rfl, rfl⟩ | ⟨hj, r'⟩
    · exact ⟨H.ge q, F⟩
    · exact ⟨H.ge r', (H.at r').other W fun e => hj (by subst e; exact H.2.2 _ _ _ _ _ r' q)⟩
  · rcases at' r1 with ⟨rfl, rfl, rfl⟩ | ⟨n1, r1'⟩ <;> rcases at' r2 with ⟨rfl, e2, -⟩ | ⟨n2, r2'⟩
    · rfl
    · exact absurd (H.2.2 _ _ _ _ _ r2' q) n2
    · subst e2; exact absurd (H.2.2 _ _ _ _ _ r1' q) n1
    · exact H.2.2 _ _ _ _ _ r1' r2'
theorem Is.field {C : String} {fs : List FldE} {j : Nat} {O n d : String} {v w : Value} (F : Is Z h a (.inl (C, fs))) (q : fs[j]? = some (O, n, d, w)) (W : Wr h h' a (RoadKit.slotOf Z O n d) v) : Is Z h' a (.inl (C, fs.set j (O, n, d, v))) := by
  obtain ⟨E, A, D⟩ := F
  obtain ⟨hj, e⟩ := List.getElem?_eq_some_iff.mp q
  have nth : ∀ k g, k ≠ j → fs[k]? = some g → RoadKit.slotOf Z g.1 g.2.1 g.2.2.1 ≠ RoadKit.slotOf Z O n d := by
    intro k g hk r
    obtain ⟨hk', e'⟩ := List.getElem?_eq_some_iff.mp r
    rw [List.pairwise_iff_getElem] at D
    rcases Nat.lt_or_gt_of_ne hk with u | u
    · have := D k j hk' hj u; rw [e, e'] at this; exact this
    · have := D j k hj hk' u; rw [e, e'] at this; exact Ne.symm this
  refine ⟨E.wr W, fun f hf => ?_, ?_⟩
  · obtain ⟨k, hk, ek⟩ := List.mem_iff_getElem.mp hf
    by_cases hkj : k = j
    · subst hkj
      have : f = (O, n, d, v) := by rw [← ek]; simp
      subst this
      exact (A (O, n, d, w) (List.mem_of_getElem? q)).same W
    · have r : fs[k]? = some f := by
        have : (fs.set j (O, n, d, v))[k]? = some f := List.getElem?_eq_some_iff.mpr ⟨hk, ek⟩
        rwa [List.getElem?_set_ne (Ne.symm hkj)] at this
      exact (A f (List.mem_of_getElem? r)).other W (Or.inr (nth k f hkj r))
  · have em : (fs.set j (O, n, d, v)).map (fun f => RoadKit.slotOf Z f.1 f.2.1 f.2.2.1) = fs.map (fun f => RoadKit.slotOf Z f.1 f.2.1 f.2.2.1) := by
      rw [List.map_set]
      refine List.ext_getElem? fun k => ?_
      by_cases hkj : j = k
      · subst hkj
        rw [List.getElem?_set_self (by simpa using hj)]
        simp [q]
      · rw [List.getElem?_set_ne hkj]
    have D' : (fs.map (fun f => RoadKit.slotOf Z f.1 f.2.1 f.2.2.1)).Pairwise (· ≠ ·) := List.pairwise_map.mpr D
    rw [← em] at D'
    exact List.pairwise_map.mp D'
theorem Is.elem {ty : FieldType} {vs : List Value} {v : Value} {c : Cell} (A : Arr Z h a c ty) (X : Exa Z h a ("[" ++ ty.toString)) (e : c.slots.toList = vs) (hl : vs.length < 2 ^ 31) {j : Nat} (W : Wr h h' a j v) : Is Z h' a (.inr (ty, vs.set j v)) :=
  ⟨c.setSlot j v, A.same W, X.wr W, by subst e; simp [Cell.setSlot], by simpa using hl⟩
/-- the fields of a fresh object -/
def FOk (Z : State) (a0 : Array Value) (C : String) : List FldE → Prop
  | [] => True
  | (O, n, d, v) :: r => Laid Z a0 C O n d ∧ (∃ ty, parseFieldDescriptor d = some ty ∧ v = defaultValue ty) ∧ FOk Z a0 C r
theorem FOk.cons {C O n d : String} {v : Value} {ty : FieldType} {r : List FldE} (l : Laid Z a0 C O n d) (p : parseFieldDescriptor d = some ty) (e : v = defaultValue ty) (k : FOk Z a0 C r) : FOk Z a0 C ((O, n, d, v) :: r) := ⟨l, ⟨ty, p, e⟩, k⟩
theorem FOk.mem {C : String} : ∀ {fs : List FldE}, FOk Z a0 C fs → ∀ f ∈ fs, Laid Z a0 C f.1 f.2.1 f.2.2.1 ∧ ∃ ty, parseFieldDescriptor f.2.2.1 = some ty ∧ f.2.2.2 = defaultValue ty
  | [], _, _, hf => by simp at hf
  | (O, n, d, v) :: r, k, f, hf => by
    rcases List.mem_cons.mp hf with rfl | hf
    · exact ⟨k.1, k.2.1⟩
    · exact FOk.mem k.2.2 f hf
theorem FOk.pw {C : String} {fs : List FldE} (k : FOk Z a0 C fs) (hn : (fs.map fun f => f.2.1).Nodup) : fs.Pairwise fun f g => RoadKit.slotOf Z f.1 f.2.1 f.2.2.1 ≠ RoadKit.slotOf Z g.1 g.2.1 g.2.2.1 := by
  have hn' : fs.Pairwise fun f g => f.2.1 ≠ g.2.1 := List.pairwise_map.mp hn
  refine List.Pairwise.imp_of_mem ?_ hn'
  intro f g hf hg q
  obtain ⟨l1, t1, p1, -⟩ := k.mem f hf
  obtain ⟨l2, t2, p2, -⟩ := k.mem g hg
  exact slot_ne l1 l2 q p1 p2
theorem set_at {L : HL} {i : Nat} {q r : Addr × Obj} (h : L[i]? = some q) : (L.set i r)[i]? = some r := List.getElem?_set_self (List.getElem?_eq_some_iff.mp h).1
theorem set_ne {L : HL} {i j : Nat} {q r : Addr × Obj} (n : i ≠ j) (h : L[j]? = some q) : (L.set i r)[j]? = some q := (List.getElem?_set_ne n).trans h
end Heaps
/-! ## the walk: where it stands, and that it comes to its end -/
def Wd (p : Program) (l : Launch) (e : Env) (R : Room) (s : State) (m : MethodId) (args : Array Value) (below : List Frame) (meth : Method) (c : Code) (Z : State) (a0 : Array Value) (n0 kb : Nat) (ws : List Cond)
    (y : MethodName) (bytes : ByteArray) (ml : Nat) (ret : Option FieldType) (T : State) (L : HL) (cells slots : Nat) : Prop :=
  (∃ locs, Stand p l e R s m args below meth c T locs cells slots ∧ Fr n0 locs) ∧ Hp Z n0 kb T.heap L ∧ p.tables.exec = Jvm.exec ∧ Z.Warmed39 s.vm ∧ s.vm.findClass y.cls = some m.cls ∧ c.code = bytes ∧ c.maxLocals = ml ∧
    meth.sig.returnType = ret ∧ meth.locks = false ∧ meth.name = y.name ∧ ∀ d ∈ ws, d.before a0 Z = true
/-- how a narrow walk ends: nothing of the tables has changed but what has been resolved -/
def EndN (s : State) (kc ks : Nat) (v : Option Value) (t : State) (Lc : List Loc) : Prop := FrameEnd s (.returned v) t Lc kc ks
def Go (p : Program) (e : Env) (below : List Frame) (Z : State) (n0 kg : Nat) (E : Option Value → State → List Loc → Prop) (P : Option Value → HL → Prop) (T : State) (g : JFrame) : Prop :=
  ∃ s₂ o, Steps p.tables e below (T.setTop g) s₂ ∧ s₂.status = .running ∧ Ended s₂ below o ∧ ∃ v Lc, o = .returned v ∧ (Fr n0 Lc ∧ ∃ L', Hp Z n0 kg s₂.heap L' ∧ P v L') ∧ E v s₂ Lc
/-- a method's contract: at these arguments and these cells it returns, with P of what it returns and of the cells -/
def Con (l : Launch) (y : MethodName) (bytes : ByteArray) (ml : Nat) (ret : Option FieldType) (rm : Room) (Z : State) (n0 : Nat) (as' : Array Value) (L : HL) (P : Option Value → HL → Prop) : Prop :=
  ∀ (wx : List Cond) (kb : Nat) (h : Heap), Hp Z n0 kb h L → MetFree l y (head1 (Cond.code y bytes ml ret :: wx) rm) (fun a U => a = as' ∧ Z.Warmed39 U.vm ∧ U.heap = h) (fun _ _ _ _ _ => True)
    (fun _ U o U' => ∃ v Lc, o = .returned v ∧ (Fr n0 Lc ∧ ∃ L', Hp Z n0 kb U'.heap L' ∧ P v L') ∧ FrameEnd U o U' Lc rm.cells rm.slots)
/-- what a call leaves on the stack -/
def pushV : Option Value → List Value → List Value
  | some v, r => v :: r
  | none, r => r
theorem pushV_eq (v : Option Value) (r : List Value) : v.toList ++ r = pushV v r := by cases v <;> rfl
section Walk
variable {p : Program} {l : Launch} {e : Env} {R : Room} {s : State} {m : MethodId} {args : Array Value} {below : List Frame} {meth : Method} {c : Code} {Z : State} {a0 : Array Value} {n0 kb kg : Nat} {ws : List Cond} {y : MethodName} {bytes : ByteArray} {ml : Nat} {ret : Option FieldType} {T T' : State} {L : HL} {cells slots : Nat} {P : Option Value → HL → Prop} {E : Option Value → State → List Loc → Prop} {kc ks : Nat}
theorem Go.pre {g g' : JFrame} (k : Go p e below Z n0 kg E P T' g') (f : ∀ t, Steps p.tables e below (T'.setTop g') t → Steps p.tables e below (T.setTop g) t) : Go p e below Z n0 kg E P T g := by
  obtain ⟨s₂, o, h1, r⟩ := k
  exact ⟨s₂, o, f _ h1, r⟩
theorem Go.mono {g : JFrame} {P' : Option Value → HL → Prop} (k : Go p e below Z n0 kg E P' T g) (f : ∀ v L, P' v L → P v L) : Go p e below Z n0 kg E P T g := by
  obtain ⟨s₂, o, h1, h2, h3, v, Lc, h4, ⟨h5, L', h6, h7⟩, h8⟩ := k
  exact ⟨s₂, o, h1, h2, h3, v, Lc, h4, ⟨h5, L', h6, f _ _ h7⟩, h8⟩
section Wds
variable (w : Wd p l e R s m args below meth c Z a0 n0 kb ws y bytes ml ret T L cells slots)
theorem Wd.here (w : Wd p l e R s m args below meth c Z a0 n0 kb ws y bytes ml ret T L cells slots) : At T m c below := by obtain ⟨⟨_, X, -⟩, -⟩ := w; exact X.here
theorem Wd.hx (w : Wd p l e R s m args below meth c Z a0 n0 kb ws y bytes ml ret T L cells slots) : p.tables.exec = Jvm.exec := w.2.2.1
theorem Wd.hby (w : Wd p l e R s m args below meth c Z a0 n0 kb ws y bytes ml ret T L cells slots) : c.code = bytes := w.2.2.2.2.2.1
theorem Wd.hp (w : Wd p l e R s m args below meth c Z a0 n0 kb ws y bytes ml ret T L cells slots) : Hp Z n0 kb T.heap L := w.2.1
theorem Wd.hw (w : Wd p l e R s m args below meth c Z a0 n0 kb ws y bytes ml ret T L cells slots) {k : Nat} {d : Cond} (h : ws[k]? = some d) : d.before a0 Z = true := w.2.2.2.2.2.2.2.2.2.2 _ (List.mem_of_getElem? h)
theorem Wd.to {L' : HL} (w : Wd p l e R s m args below meth c Z a0 n0 kb ws y bytes ml ret T L cells slots) (q : L = L') : Wd p l e R s m args below meth c Z a0 n0 kb ws y bytes ml ret T L' cells slots := q ▸ w
end Wds
theorem Con.of {rm : Room} {as' : Array Value} (hpl : plainFor y = true) (hws : ∀ d ∈ ws, d.before a0 Z = true)
    (body : ∀ {p : Program} {e : Env} {s : State} {m : MethodId} {below : List Frame} {meth : Method} {c : Code} {T : State} {kb : Nat}, Wd p l e rm s m as' below meth c Z a0 n0 kb ws y bytes ml ret T L 0 0 → Go p e below Z n0 kb (EndN s rm.cells rm.slots) P T (entryFrame m as' ml)) :
    Con l y bytes ml ret rm Z n0 as' L P := by
  intro wx kb h hH
  refine MetFree.of_bodySF hpl hisR ?_
  intro p e s m args below meth c s₁ Bd hml hP hK
  obtain ⟨rfl, hZ, hh⟩ := hP
  have X0 : Stand p l e rm s m args below meth c s₁ [] 0 0 := Stand.of_body Bd
  have e0 : s₁.heap = h := by rw [← hh, Bd.state]; rfl
  obtain ⟨s₂, o, h1, h2, h3, v, Lc, rfl, h5, h6⟩ := body ⟨⟨[], X0, Fr.nil n0⟩, by rw [e0]; exact hH, Bd.exec, hZ, findClass_of_methodNamed Bd.named, Bd.bytes, hml, Bd.returns, Bd.notSynchronized, (name_of_methodNamed Bd.named Bd.method).1, hws⟩
  obtain ⟨h5a, L', h5b, h5c⟩ := h5
  exact ⟨s₂, _, h1, h2, h3, v, Lc, rfl, ⟨h5a, L', h5b, h5c⟩, h6⟩
theorem g_entry {as' : Array Value} (Ls : Array Slot) (q : entryFrame m as' ml = mkF m 0 Ls []) (k : Go p e below Z n0 kg E P T (mkF m 0 Ls [])) : Go p e below Z n0 kg E P T (entryFrame m as' ml) := by rw [q]; exact k
theorem g_int {pc : Nat} {Ls : Array Slot} {x x' : Int32} {st : List Value} (q : x = x') (k : Go p e below Z n0 kg E P T (mkF m pc Ls (.int x' :: st))) : Go p e below Z n0 kg E P T (mkF m pc Ls (.int x :: st)) := by rw [q]; exact k
theorem g_long {pc : Nat} {Ls : Array Slot} {x x' : Int64} {st : List Value} (q : x = x') (k : Go p e below Z n0 kg E P T (mkF m pc Ls (.long x' :: st))) : Go p e below Z n0 kg E P T (mkF m pc Ls (.long x :: st)) := by rw [q]; exact k
theorem g_end {f : State → State} {fs : List Frame} {v : Option Value} {g : JFrame} {locs : List Loc} (X : Stand p l e R s m args below meth c T locs cells slots) (N : Fr n0 locs) (H : Hp Z n0 kb T.heap L) (hc : cells ≤ kc) (hs : slots ≤ ks) (hP : P v L)
    (st : Steps p.tables e below (T.setTop g) (T.setFrames fs)) (h1 : (T.setFrames fs).status = .running) (h2 : Ended (T.setFrames fs) below (.returned v)) (h3 : s.WarmedH (T.setFrames fs).vm) (h4 : s.sameButNew ({ T.setFrames fs with vm := s.vm } : State) locs cells slots) :
    Go p e below Z n0 kb (EndN s kc ks) P T g :=
  ⟨_, _, st, h1, h2, v, locs, rfl, ⟨N, L, H, hP⟩, ⟨_, rfl⟩, h3, h4.mono hc hs⟩
theorem g_ret (w : Wd p l e R s m args below meth c Z a0 n0 kb ws y bytes ml none T L cells slots) {pc : Nat} {Ls : Array Slot} (hd : decode bytes pc = .ok (.return_, 1)) (hc : cells ≤ kc) (hs : slots ≤ ks) (hP : P none L) :
    Go p e below Z n0 kb (EndN s kc ks) P T (mkF m pc Ls []) := by
  obtain ⟨⟨locs, X, N⟩, H, hx, hZ, hown, hby, hml, hret, hlk, hnm, hws⟩ := w
  obtain ⟨fs, hr, h1, h2, h3, h4⟩ := X.leave (v := none) (fun _ => rfl) hlk
  exact g_end (f := id) X N H hc hs hP (X.returnOut hx hret (hb hby hd) hr) h1 h2 h3 h4
theorem g_retW {t : FieldType} {i : Instr} (w : Wd p l e R s m args below meth c Z a0 n0 kb ws y bytes ml (some t) T L cells slots) {pc : Nat} {Ls : Array Slot} {v : Value} {st : List Value} (hd : decode bytes pc = .ok (i, 1)) (hn : narrow t v = v)
    (hi : (i = .ireturn ∧ (t = .int ∨ t = .boolean ∨ t = .byte ∨ t = .char ∨ t = .short) ∧ ∃ z, v = .int z) ∨ (i = .lreturn ∧ t = .long ∧ ∃ z, v = .long z) ∨ (i = .dreturn ∧ t = .double ∧ ∃ z, v = .double z) ∨ (i = .freturn ∧ t = .float ∧ ∃ z, v = .float z) ∨ (i = .areturn ∧ t.isReference = true ∧ v.isRef = true))
    (hc : cells ≤ kc) (hs : slots ≤ ks) (hP : P (some v) L) : Go p e below Z n0 kb (EndN s kc ks) P T (mkF m pc Ls (v :: st)) := by
  obtain ⟨⟨locs, X, N⟩, H, hx, hZ, hown, hby, hml, hret, hlk, hnm, hws⟩ := w
  obtain ⟨fs, hr, h1, h2, h3, h4⟩ := X.leave (v := some v) (fun q => by rw [hret] at q; cases q) hlk
  exact g_end (f := id) X N H hc hs hP (retOut X hx hret hn hi (hb hby hd) hr) h1 h2 h3 h4
theorem g_ireti (w : Wd p l e R s m args below meth c Z a0 n0 kb ws y bytes ml (some .int) T L cells slots) {pc : Nat} {Ls : Array Slot} {z : Int32} {st : List Value} (hd : decode bytes pc = .ok (.ireturn, 1)) (hc : cells ≤ kc) (hs : slots ≤ ks) (hP : P (some (.int z)) L) :
    Go p e below Z n0 kb (EndN s kc ks) P T (mkF m pc Ls (.int z :: st)) := g_retW w hd rfl (Or.inl ⟨rfl, Or.inl rfl, z, rfl⟩) hc hs hP
theorem g_lret (w : Wd p l e R s m args below meth c Z a0 n0 kb ws y bytes ml (some .long) T L cells slots) {pc : Nat} {Ls : Array Slot} {z : Int64} {st : List Value} (hd : decode bytes pc = .ok (.lreturn, 1)) (hc : cells ≤ kc) (hs : slots ≤ ks) (hP : P (some (.long z)) L) :
    Go p e below Z n0 kb (EndN s kc ks) P T (mkF m pc Ls (.long z :: st)) := g_retW w hd rfl (Or.inr (Or.inl ⟨rfl, rfl, z, rfl⟩)) hc hs hP
theorem g_aret {t : FieldType} (w : Wd p l e R s m args below meth c Z a0 n0 kb ws y bytes ml (some t) T L cells slots) {pc : Nat} {Ls : Array Slot} {v : Value} {st : List Value} (hd : decode bytes pc = .ok (.areturn, 1)) (ht : t.isReference = true) (hv : v.isRef = true) (hn : narrow t v = v) (hc : cells ≤ kc) (hs : slots ≤ ks) (hP : P (some v) L) :
    Go p e below Z n0 kb (EndN s kc ks) P T (mkF m pc Ls (v :: st)) := g_retW w hd hn (Or.inr (Or.inr (Or.inr (Or.inr ⟨rfl, ht, hv⟩)))) hc hs hP
/-- a boolean, byte, char or short: narrowed -/
theorem g_iretn {t : FieldType} (w : Wd p l e R s m args below meth c Z a0 n0 kb ws y bytes ml (some t) T L cells slots) (ht : t = .boolean ∨ t = .byte ∨ t = .char ∨ t = .short) {pc : Nat} {Ls : Array Slot} {z : Int32} {st : List Value} (hd : decode bytes pc = .ok (.ireturn, 1)) (hc : cells ≤ kc) (hs : slots ≤ ks) (hP : P (some (.int (nar t z))) L) :
    Go p e below Z n0 kb (EndN s kc ks) P T (mkF m pc Ls (.int z :: st)) := by
  obtain ⟨⟨locs, X, N⟩, H, hx, hZ, hown, hby, hml, hret, hlk, hnm, hws⟩ := w
  obtain ⟨fs, hr, h1, h2, h3, h4⟩ := X.leave (v := some (.int (nar t z))) (fun q => by rw [hret] at q; cases q) hlk
  exact g_end (f := id) X N H hc hs hP (retN X hx hret ht (hb hby hd) hr) h1 h2 h3 h4
/-! ## constants of the pool -/
theorem g_ldci (w : Wd p l e R s m args below meth c Z a0 n0 kb ws y bytes ml ret T L cells slots) {pc : Nat} {Ls : Array Slot} {st : List Value} {idx : Nat} (hd : decode bytes pc = .ok (.ldc idx, 2)) (k : Nat) {v : Int32} (hk : ws[k]? = some (.constant y.cls idx v)) (pc' : Nat) (hp : pc + 2 = pc')
    (kt : Go p e below Z n0 kg E P T (mkF m pc' Ls (.int v :: st))) : Go p e below Z n0 kg E P T (mkF m pc Ls st) := by
  subst hp
  have hk' := w.hw hk
  obtain ⟨⟨locs, X, N⟩, H, hx, hZ, hown, hby, hml, hret, hlk, hnm, hws⟩ := w
  exact kt.pre fun t q => X.ldcInt hx hown (mvT hZ hk') (g := mkF m pc Ls st) rfl (hb hby hd) t q
theorem g_ldcl (w : Wd p l e R s m args below meth c Z a0 n0 kb ws y bytes ml ret T L cells slots) {pc : Nat} {Ls : Array Slot} {st : List Value} {idx : Nat} (hd : decode bytes pc = .ok (.ldc2_w idx, 3)) (k : Nat) {v : Int64} (hk : ws[k]? = some (.constantLong y.cls idx v)) (pc' : Nat) (hp : pc + 3 = pc')
    (kt : Go p e below Z n0 kg E P T (mkF m pc' Ls (.long v :: st))) : Go p e below Z n0 kg E P T (mkF m pc Ls st) := by
  subst hp
  have hk' := w.hw hk
  obtain ⟨⟨locs, X, N⟩, H, hx, hZ, hown, hby, hml, hret, hlk, hnm, hws⟩ := w
  exact kt.pre fun t q => X.ldc2Long hx hown (mvT hZ hk') (g := mkF m pc Ls st) rfl (hb hby hd) t q
/-! ## fields -/
theorem g_getf (w : Wd p l e R s m args below meth c Z a0 n0 kb ws y bytes ml ret T L cells slots) {pc : Nat} {Ls : Array Slot} {st : List Value} {idx : Nat} {a : Addr} {C R0 O n d : String} {fs : List FldE} {v : Value} (hd : decode bytes pc = .ok (.getfield idx, 3)) (i : Nat) (hi : L[i]? = some (a, .inl (C, fs))) (j : Nat) (hj : fs[j]? = some (O, n, d, v))
    (k : Nat) (hk : ws[k]? = some (.fieldLink y.cls idx R0 n d)) (via : Via Z R0 O n d) (pc' : Nat) (hp : pc + 3 = pc')
    (kt : ∀ T', Wd p l e R s m args below meth c Z a0 n0 kb ws y bytes ml ret T' L cells slots → Go p e below Z n0 kg E P T' (mkF m pc' Ls (v :: st))) : Go p e below Z n0 kg E P T (mkF m pc Ls (.ref a :: st)) := by
  subst hp
  have hk' := w.hw hk
  obtain ⟨⟨locs, X, N⟩, H, hx, hZ, hown, hby, hml, hret, hlk, hnm, hws⟩ := w
  have F := (H.obj hi).2.1 _ (List.mem_of_getElem? hj)
  obtain ⟨T', X', e', st'⟩ := getF X hx hZ hown (host := "") (Or.inl hk') via rfl F (g := mkF m pc Ls (.ref a :: st)) rfl rfl (hb hby hd)
  exact (kt T' ⟨⟨locs, X', N⟩, by rw [e']; exact H, hx, hZ, hown, hby, hml, hret, hlk, hnm, hws⟩).pre st'
theorem g_putf (w : Wd p l e R s m args below meth c Z a0 n0 kb ws y bytes ml ret T L cells slots) {pc : Nat} {Ls : Array Slot} {st : List Value} {idx kk : Nat} {a : Addr} {C R0 O n d : String} {fs : List FldE} {u v : Value} {ty : FieldType} (hd : decode bytes pc = .ok (.putfield idx, 3)) (i : Nat) (hi : L[i]? = some (a, .inl (C, fs))) (j : Nat) (hj : fs[j]? = some (O, n, d, u))
    (k : Nat) (hk : ws[k]? = some (.fieldLink y.cls idx R0 n d)) (via : Via Z R0 O n d) (k2 : Nat) (hk2 : ws[k2]? = some (.lays C O n d) ∨ (ws[k2]? = some (.laysFinal C O n d) ∧ y.cls = O ∧ y.name = "<init>")) (k3 : Nat) (hk3 : ws[k3]? = some (.instantiable C kk)) (hty : parseFieldDescriptor d = some ty) (hn : narrow ty v = v) (hf : fits ty v = true) (pc' : Nat) (hp : pc + 3 = pc')
    (kt : ∀ T', Wd p l e R s m args below meth c Z a0 n0 kb ws y bytes ml ret T' (L.set i (a, .inl (C, fs.set j (O, n, d, v)))) cells slots → Go p e below Z n0 kg E P T' (mkF m pc' Ls st)) : Go p e below Z n0 kg E P T (mkF m pc Ls (v :: .ref a :: st)) := by
  subst hp
  have hk' := w.hw hk
  have hk3' := w.hw hk3
  have hk2' : (Cond.lays C O n d).before a0 Z = true ∨ ((Cond.laysFinal C O n d).before a0 Z = true ∧ y.cls = O ∧ y.name = "<init>") := hk2.imp (fun q => w.hw q) fun q => ⟨w.hw q.1, q.2⟩
  obtain ⟨⟨locs, X, N⟩, H, hx, hZ, hown, hby, hml, hret, hlk, hnm, hws⟩ := w
  have I := H.obj hi
  have F := I.2.1 _ (List.mem_of_getElem? hj)
  obtain ⟨T', h', X', e', W, st'⟩ := putF X hx hZ hown (host := "") (Or.inl hk') via rfl F I.1 (hk2'.imp id fun q => ⟨q.1, q.2.1, hnm.trans q.2.2⟩) hk3' hty hn hf (g := mkF m pc Ls (v :: .ref a :: st)) rfl rfl (hb hby hd)
  refine (kt T' ⟨⟨_, X', Fr.snoc X' N (H.ge hi)⟩, ?_, hx, hZ, hown, hby, hml, hret, hlk, hnm, hws⟩).pre st'
  rw [e']
  exact H.put hi W (Is.field (H.at hi) hj W)
/-! ## new objects and arrays -/
theorem g_new (w : Wd p l e R s m args below meth c Z a0 n0 kb ws y bytes ml ret T L cells slots) {pc : Nat} {Ls : Array Slot} {st : List Value} {idx n : Nat} {C : String} (fs : List FldE) (hd : decode bytes pc = .ok (.new idx, 3)) (k1 : Nat) (hk1 : ws[k1]? = some (.classLink y.cls idx C)) (k2 : Nat) (hk2 : ws[k2]? = some (.instantiable C n)) (k3 : Nat) (hk3 : ws[k3]? = some (.initialized C))
    (hfs : FOk Z a0 C fs) (hnd : (fs.map fun f => f.2.1).Nodup) (hc : cells + 1 ≤ R.cells) (hs : slots + n ≤ R.slots) (pc' : Nat) (hp : pc + 3 = pc')
    (kt : ∀ T' a, Wd p l e R s m args below meth c Z a0 n0 kb ws y bytes ml ret T' (L ++ [(a, .inl (C, fs))]) (cells + 1) (slots + n) → Go p e below Z n0 kg E P T' (mkF m pc' Ls (.ref a :: st))) : Go p e below Z n0 kg E P T (mkF m pc Ls st) := by
  subst hp
  have hk1' := w.hw hk1
  have hk2' := w.hw hk2
  have hk3' := w.hw hk3
  obtain ⟨⟨locs, X, N⟩, H, hx, hZ, hown, hby, hml, hret, hlk, hnm, hws⟩ := w
  obtain ⟨T', h', X', e', E, A, D, -, st'⟩ := newO X hx hZ hown hk1' hk2' hk3' rfl (g := mkF m pc Ls st) rfl (hb hby hd) hc hs
  refine (kt T' T.heap.size ⟨⟨_, X', N⟩, ?_, hx, hZ, hown, hby, hml, hret, hlk, hnm, hws⟩).pre st'
  rw [e']
  refine H.push E H.size (show Exa _ _ _ _ ∧ _ ∧ _ from ⟨A, fun f hf => ?_, hfs.pw hnd⟩)
  obtain ⟨l1, t1, p1, v1⟩ := hfs.mem f hf
  rw [v1]
  exact D l1 p1
theorem g_newarr (w : Wd p l e R s m args below meth c Z a0 n0 kb ws y bytes ml ret T L cells slots) {pc : Nat} {Ls : Array Slot} {st : List Value} {aty : ArrayType} {n : Int32} (hd : decode bytes pc = .ok (.newarray aty, 2)) (k1 : Nat) (hk1 : ws[k1]? = some (.arrayClass (newarray.typeOf aty))) (nn cap : Nat) (hn : n.toInt = (nn : Int)) (hcap : nn ≤ cap) (hb8 : cap * 8 ≤ 536870912)
    (vs : List Value) (hvs : vs = List.replicate nn (defaultValue (newarray.typeOf aty))) (hc : cells + 1 ≤ R.cells) (hs : slots + cap ≤ R.slots) (pc' : Nat) (hp : pc + 2 = pc')
    (kt : ∀ T' a, Wd p l e R s m args below meth c Z a0 n0 kb ws y bytes ml ret T' (L ++ [(a, .inr (newarray.typeOf aty, vs))]) (cells + 1) (slots + cap) → Go p e below Z n0 kg E P T' (mkF m pc' Ls (.ref a :: st))) : Go p e below Z n0 kg E P T (mkF m pc Ls (.int n :: st)) := by
  subst hp hvs
  have hk1' := w.hw hk1
  obtain ⟨⟨locs, X, N⟩, H, hx, hZ, hown, hby, hml, hret, hlk, hnm, hws⟩ := w
  have q0 : ¬ n < 0 := by rw [Int32.lt_iff_toInt_lt, hn]; show ¬ ((nn : Int) < 0); omega
  have q1 : n.toNatClampNeg = nn := by have := nat_of q0; rw [hn] at this; exact (Int.ofNat.inj this).symm
  obtain ⟨T', h', cA, X', e', E, A, XA, st'⟩ := newPE X hx hZ hk1' rfl (g := mkF m pc Ls (.int n :: st)) rfl (hb hby hd) rfl q0 (cap := cap) (by rw [q1]; exact hcap) hb8 hc hs (ad := "[" ++ (newarray.typeOf aty).toString) rfl
  refine (kt T' T.heap.size ⟨⟨_, X', N⟩, ?_, hx, hZ, hown, hby, hml, hret, hlk, hnm, hws⟩).pre st'
  rw [e']
  refine H.push E H.size (show ∃ c : Cell, _ from ⟨_, A, XA, by simp [newA, q1], ?_⟩)
  have := Int32.toInt_lt n
  rw [hn] at this
  simp only [List.length_replicate]
  omega
theorem inb {j : Int32} {jn : Nat} {cl : Cell} {vs : List Value} (hj : j.toInt = (jn : Int)) (e : cl.slots.toList = vs) (hl : jn < vs.length) : ¬ (j < 0 ∨ cl.slots.size ≤ j.toNatClampNeg) ∧ j.toNatClampNeg = jn := by
  have q0 : ¬ j < 0 := by rw [Int32.lt_iff_toInt_lt, hj]; show ¬ ((jn : Int) < 0); omega
  have q1 : j.toNatClampNeg = jn := by have := nat_of q0; rw [hj] at this; exact (Int.ofNat.inj this).symm
  refine ⟨fun q => q.elim q0 fun r => ?_, q1⟩
  rw [q1] at r
  have : cl.slots.size = vs.length := by rw [← e]; simp
  omega
theorem g_alen (w : Wd p l e R s m args below meth c Z a0 n0 kb ws y bytes ml ret T L cells slots) {pc : Nat} {Ls : Array Slot} {st : List Value} {a : Addr} {ty : FieldType} {vs : List Value} (hd : decode bytes pc = .ok (.arraylength, 1)) (i : Nat) (hi : L[i]? = some (a, .inr (ty, vs))) (z : Int32) (hz : z.toInt = (vs.length : Int)) (pc' : Nat) (hp : pc + 1 = pc')
    (kt : Go p e below Z n0 kg E P T (mkF m pc' Ls (.int z :: st))) : Go p e below Z n0 kg E P T (mkF m pc Ls (.ref a :: st)) := by
  subst hp
  obtain ⟨⟨locs, X, N⟩, H, hx, hZ, hown, hby, hml, hret, hlk, hnm, hws⟩ := w
  obtain ⟨cl, A, -, ev, hl⟩ := H.arr hi
  refine kt.pre fun t q => X.arraylength hx A.1 (State.isArrayOf_alike hZ.alike A.2.1) (g := mkF m pc Ls (.ref a :: st)) rfl rfl (hb hby hd) t ?_
  have : cl.slots.size.toInt32 = z := by
    apply Int32.toInt_inj.mp
    have e1 : cl.slots.size = vs.length := by rw [← ev]; simp
    rw [hz, e1]
    exact len_toInt hl
  rw [this]
  exact q
theorem g_castA (w : Wd p l e R s m args below meth c Z a0 n0 kb ws y bytes ml ret T L cells slots) {pc : Nat} {Ls : Array Slot} {st : List Value} {a : Addr} {ty : FieldType} {vs : List Value} {idx : Nat} {K : String} (hd : decode bytes pc = .ok (.checkcast idx, 3)) (i : Nat) (hi : L[i]? = some (a, .inr (ty, vs))) (k : Nat) (hk : ws[k]? = some (.classLink y.cls idx K)) (hK : "[" ++ ty.toString = K) (pc' : Nat) (hp : pc + 3 = pc')
    (kt : ∀ T', Wd p l e R s m args below meth c Z a0 n0 kb ws y bytes ml ret T' L cells slots → Go p e below Z n0 kg E P T' (mkF m pc' Ls (.ref a :: st))) : Go p e below Z n0 kg E P T (mkF m pc Ls (.ref a :: st)) := by
  subst hp hK
  have hk' := w.hw hk
  obtain ⟨⟨locs, X, N⟩, H, hx, hZ, hown, hby, hml, hret, hlk, hnm, hws⟩ := w
  obtain ⟨cl, A, XA, ev, hl⟩ := H.arr hi
  obtain ⟨T', X', e', st'⟩ := castY X hx hZ hown hk' rfl (Ins.self XA) (g := mkF m pc Ls (.ref a :: st)) rfl rfl (hb hby hd)
  exact (kt T' ⟨⟨locs, X', N⟩, by rw [e']; exact H, hx, hZ, hown, hby, hml, hret, hlk, hnm, hws⟩).pre st'
theorem g_cloneA (w : Wd p l e R s m args below meth c Z a0 n0 kb ws y bytes ml ret T L cells slots) {pc : Nat} {Ls : Array Slot} {st : List Value} {a : Addr} {ty : FieldType} {vs : List Value} {idx : Nat} {ad : String} (hd : decode bytes pc = .ok (.invokevirtual idx, 3)) (i : Nat) (hi : L[i]? = some (a, .inr (ty, vs))) (had : "[" ++ ty.toString = ad)
    (k1 : Nat) (hk1 : ws[k1]? = some (.methodLink y.cls idx ⟨ad, "clone", "()Ljava/lang/Object;"⟩)) (k2 : Nat) (hk2 : ws[k2]? = some (.sameMethod ad "java/lang/Object" "clone" "()Ljava/lang/Object;")) (k3 : Nat) (hk3 : ws[k3]? = some (.native ⟨"java/lang/Object", "clone", "()Ljava/lang/Object;"⟩)) (k4 : Nat) (hk4 : ws[k4]? = some (.instanceMethod ⟨"java/lang/Object", "clone", "()Ljava/lang/Object;"⟩))
    (k5 : Nat) (hk5 : ws[k5]? = some (.selects ad ⟨ad, "clone", "()Ljava/lang/Object;"⟩ ⟨"java/lang/Object", "clone", "()Ljava/lang/Object;"⟩)) (k6 : Nat) (hk6 : ws[k6]? = some (.castable ad "java/lang/Cloneable")) (hfit : ∀ v ∈ vs, fits ty v = true) (hsz : Ls.size = ml) (hf : 1 ≤ R.frames) (W cap : Nat) (hW : (st.map fun v => v.category).sum = W) (hl : W + 14 ≤ R.locals) (hcap : vs.length ≤ cap) (hc : cells + 1 ≤ R.cells) (hs : slots + cap ≤ R.slots) (pc' : Nat) (hp : pc + 3 = pc')
    (kt : ∀ T' a', Wd p l e R s m args below meth c Z a0 n0 kb ws y bytes ml ret T' (L ++ [(a', .inr (ty, vs))]) (cells + 1) (slots + cap) → Go p e below Z n0 kg E P T' (mkF m pc' Ls (.ref a' :: st))) : Go p e below Z n0 kg E P T (mkF m pc Ls (.ref a :: st)) := by
  subst hp had
  have hk1' := w.hw hk1
  have hk2' := w.hw hk2
  have hk3' := w.hw hk3
  have hk4' := w.hw hk4
  have hk5' := w.hw hk5
  have hk6' := w.hw hk6
  obtain ⟨⟨locs, X, N⟩, H, hx, hZ, hown, hby, hml, hret, hlk, hnm, hws⟩ := w
  obtain ⟨cl, A, XA, ev, hL⟩ := H.arr hi
  have FC : FitC Z cl := fitC_of A fun i hi v hv => hfit v (by rw [← ev]; exact Array.mem_toList_iff.mpr (Array.mem_of_getElem? hv))
  have hlen : cl.slots.size = vs.length := by rw [← ev]; simp
  obtain ⟨T', h', X', e', E, A', XA', st'⟩ := cloneA X hx hZ hown hk1' hk2' hk3' hk4' hk5' hk6' rfl A XA FC (g := mkF m pc Ls (.ref a :: st)) rfl (by rw [hml]; exact hsz) rfl (hb hby hd) hf (W := W) (cap := cap) (by show 2 * 0 + _ ≤ _; rw [hW]; omega) hl (by rw [hlen]; exact hcap) hc hs
  refine (kt T' T.heap.size ⟨⟨_, X', N⟩, ?_, hx, hZ, hown, hby, hml, hret, hlk, hnm, hws⟩).pre st'
  rw [e']
  exact H.push E H.size ⟨_, A', XA', ev, hL⟩
/-! ## what stood at the start: statics and old objects (never written) -/
theorem Hp.old (H : Hp Z n0 kb T.heap L) : Ext Z.heap T.heap := H.1.1.2
theorem g_gets (w : Wd p l e R s m args below meth c Z a0 n0 kb ws y bytes ml ret T L cells slots) {pc : Nat} {Ls : Array Slot} {st : List Value} {idx : Nat} {O n d : String} {v : Value} (F : Sta Z Z.heap O n d v) (hd : decode bytes pc = .ok (.getstatic idx, 3)) (k : Nat) (hk : ws[k]? = some (.fieldLink y.cls idx O n d)) (pc' : Nat) (hp : pc + 3 = pc')
    (kt : ∀ T', Wd p l e R s m args below meth c Z a0 n0 kb ws y bytes ml ret T' L cells slots → Go p e below Z n0 kg E P T' (mkF m pc' Ls (v :: st))) : Go p e below Z n0 kg E P T (mkF m pc Ls st) := by
  subst hp
  have hk' := w.hw hk
  obtain ⟨⟨locs, X, N⟩, H, hx, hZ, hown, hby, hml, hret, hlk, hnm, hws⟩ := w
  obtain ⟨T', X', e', st'⟩ := getS X hx hZ hown (host := "") hk' Via.refl rfl (F.ext H.old) (g := mkF m pc Ls st) rfl (hb hby hd)
  exact (kt T' ⟨⟨locs, X', N⟩, by rw [e']; exact H, hx, hZ, hown, hby, hml, hret, hlk, hnm, hws⟩).pre st'
theorem g_getfO (w : Wd p l e R s m args below meth c Z a0 n0 kb ws y bytes ml ret T L cells slots) {pc : Nat} {Ls : Array Slot} {st : List Value} {idx : Nat} {a : Addr} {O n d : String} {v : Value} (F : Fld Z Z.heap a O n d v) (hd : decode bytes pc = .ok (.getfield idx, 3)) (k : Nat) (hk : ws[k]? = some (.fieldLink y.cls idx O n d)) (pc' : Nat) (hp : pc + 3 = pc')
    (kt : ∀ T', Wd p l e R s m args below meth c Z a0 n0 kb ws y bytes ml ret T' L cells slots → Go p e below Z n0 kg E P T' (mkF m pc' Ls (v :: st))) : Go p e below Z n0 kg E P T (mkF m pc Ls (.ref a :: st)) := by
  subst hp
  have hk' := w.hw hk
  obtain ⟨⟨locs, X, N⟩, H, hx, hZ, hown, hby, hml, hret, hlk, hnm, hws⟩ := w
  obtain ⟨T', X', e', st'⟩ := getF X hx hZ hown (host := "") (Or.inl hk') Via.refl rfl (F.ext H.old) (g := mkF m pc Ls (.ref a :: st)) rfl rfl (hb hby hd)
  exact (kt T' ⟨⟨locs, X', N⟩, by rw [e']; exact H, hx, hZ, hown, hby, hml, hret, hlk, hnm, hws⟩).pre st'
theorem g_iaload (w : Wd p l e R s m args below meth c Z a0 n0 kb ws y bytes ml ret T L cells slots) {pc : Nat} {Ls : Array Slot} {st : List Value} {a : Addr} {vs : List Value} {j : Int32} {v : Value} (hd : decode bytes pc = .ok (.iaload, 1)) (i : Nat) (hi : L[i]? = some (a, .inr (.int, vs))) (jn : Nat) (hj : j.toInt = (jn : Int)) (hv : vs[jn]? = some v) (pc' : Nat) (hp : pc + 1 = pc')
    (kt : Go p e below Z n0 kg E P T (mkF m pc' Ls (v :: st))) : Go p e below Z n0 kg E P T (mkF m pc Ls (.int j :: .ref a :: st)) := by
  subst hp
  obtain ⟨⟨locs, X, N⟩, H, hx, hZ, hown, hby, hml, hret, hlk, hnm, hws⟩ := w
  obtain ⟨cl, A, -, ev, hl⟩ := H.arr hi
  obtain ⟨q1, q2⟩ := inb hj ev (List.getElem?_eq_some_iff.mp hv).1
  exact kt.pre fun t q => X.iaload hx (j := j) (v := v) A.1 (State.isArrayOf_alike hZ.alike A.2.1) A.2.2 q1 (by rw [q2, ← hv, ← ev]; simp) (g := mkF m pc Ls (.int j :: .ref a :: st)) rfl rfl (hb hby hd) t q
theorem g_laload (w : Wd p l e R s m args below meth c Z a0 n0 kb ws y bytes ml ret T L cells slots) {pc : Nat} {Ls : Array Slot} {st : List Value} {a : Addr} {vs : List Value} {j : Int32} {v : Value} (hd : decode bytes pc = .ok (.laload, 1)) (i : Nat) (hi : L[i]? = some (a, .inr (.long, vs))) (jn : Nat) (hj : j.toInt = (jn : Int)) (hv : vs[jn]? = some v) (pc' : Nat) (hp : pc + 1 = pc')
    (kt : Go p e below Z n0 kg E P T (mkF m pc' Ls (v :: st))) : Go p e below Z n0 kg E P T (mkF m pc Ls (.int j :: .ref a :: st)) := by
  subst hp
  obtain ⟨⟨locs, X, N⟩, H, hx, hZ, hown, hby, hml, hret, hlk, hnm, hws⟩ := w
  obtain ⟨cl, A, -, ev, hl⟩ := H.arr hi
  obtain ⟨q1, q2⟩ := inb hj ev (List.getElem?_eq_some_iff.mp hv).1
  exact kt.pre fun t q => X.laload hx (j := j) (v := v) A.1 (State.isArrayOf_alike hZ.alike A.2.1) A.2.2 q1 (by rw [q2, ← hv, ← ev]; simp) (g := mkF m pc Ls (.int j :: .ref a :: st)) rfl rfl (hb hby hd) t q
theorem g_caload (w : Wd p l e R s m args below meth c Z a0 n0 kb ws y bytes ml ret T L cells slots) {pc : Nat} {Ls : Array Slot} {st : List Value} {a : Addr} {vs : List Value} {j : Int32} {v : Value} (hd : decode bytes pc = .ok (.caload, 1)) (i : Nat) (hi : L[i]? = some (a, .inr (.char, vs))) (jn : Nat) (hj : j.toInt = (jn : Int)) (hv : vs[jn]? = some v) (pc' : Nat) (hp : pc + 1 = pc')
    (kt : Go p e below Z n0 kg E P T (mkF m pc' Ls (v :: st))) : Go p e below Z n0 kg E P T (mkF m pc Ls (.int j :: .ref a :: st)) := by
  subst hp
  obtain ⟨⟨locs, X, N⟩, H, hx, hZ, hown, hby, hml, hret, hlk, hnm, hws⟩ := w
  obtain ⟨cl, A, -, ev, hl⟩ := H.arr hi
  obtain ⟨q1, q2⟩ := inb hj ev (List.getElem?_eq_some_iff.mp hv).1
  exact kt.pre fun t q => X.caload hx (j := j) (v := v) A.1 (State.isArrayOf_alike hZ.alike A.2.1) A.2.2 q1 (by rw [q2, ← hv, ← ev]; simp) (g := mkF m pc Ls (.int j :: .ref a :: st)) rfl rfl (hb hby hd) t q
theorem g_baload (w : Wd p l e R s m args below meth c Z a0 n0 kb ws y bytes ml ret T L cells slots) {pc : Nat} {Ls : Array Slot} {st : List Value} {a : Addr} {vs : List Value} {j : Int32} {v : Value} (hd : decode bytes pc = .ok (.baload, 1)) (i : Nat) (hi : L[i]? = some (a, .inr (.byte, vs))) (jn : Nat) (hj : j.toInt = (jn : Int)) (hv : vs[jn]? = some v) (pc' : Nat) (hp : pc + 1 = pc')
    (kt : Go p e below Z n0 kg E P T (mkF m pc' Ls (v :: st))) : Go p e below Z n0 kg E P T (mkF m pc Ls (.int j :: .ref a :: st)) := by
  subst hp
  obtain ⟨⟨locs, X, N⟩, H, hx, hZ, hown, hby, hml, hret, hlk, hnm, hws⟩ := w
  obtain ⟨cl, A, -, ev, hl⟩ := H.arr hi
  obtain ⟨q1, q2⟩ := inb hj ev (List.getElem?_eq_some_iff.mp hv).1
  exact kt.pre fun t q => X.baloadBytes hx (j := j) (v := v) A.1 (State.isArrayOf_alike hZ.alike A.2.1) A.2.2 q1 (by rw [q2, ← hv, ← ev]; simp) (g := mkF m pc Ls (.int j :: .ref a :: st)) rfl rfl (hb hby hd) t q
theorem g_zaload (w : Wd p l e R s m args below meth c Z a0 n0 kb ws y bytes ml ret T L cells slots) {pc : Nat} {Ls : Array Slot} {st : List Value} {a : Addr} {vs : List Value} {j : Int32} {v : Value} (hd : decode bytes pc = .ok (.baload, 1)) (i : Nat) (hi : L[i]? = some (a, .inr (.boolean, vs))) (jn : Nat) (hj : j.toInt = (jn : Int)) (hv : vs[jn]? = some v) (pc' : Nat) (hp : pc + 1 = pc')
    (kt : Go p e below Z n0 kg E P T (mkF m pc' Ls (v :: st))) : Go p e below Z n0 kg E P T (mkF m pc Ls (.int j :: .ref a :: st)) := by
  subst hp
  obtain ⟨⟨locs, X, N⟩, H, hx, hZ, hown, hby, hml, hret, hlk, hnm, hws⟩ := w
  obtain ⟨cl, A, -, ev, hl⟩ := H.arr hi
  obtain ⟨q1, q2⟩ := inb hj ev (List.getElem?_eq_some_iff.mp hv).1
  exact kt.pre fun t q => X.baloadBooleans hx (j := j) (v := v) A.1 (State.isArrayOf_alike hZ.alike A.2.1) A.2.2 q1 (by rw [q2, ← hv, ← ev]; simp) (g := mkF m pc Ls (.int j :: .ref a :: st)) rfl rfl (hb hby hd) t q
theorem g_iastore (w : Wd p l e R s m args below meth c Z a0 n0 kb ws y bytes ml ret T L cells slots) {pc : Nat} {Ls : Array Slot} {st : List Value} {a : Addr} {vs : List Value} {j : Int32} {x : Int32} (hd : decode bytes pc = .ok (.iastore, 1)) (i : Nat) (hi : L[i]? = some (a, .inr (.int, vs))) (jn : Nat) (hj : j.toInt = (jn : Int)) (hl : jn < vs.length) (v : Value) (hv : (.int x) = v) (pc' : Nat) (hp : pc + 1 = pc')
    (kt : ∀ T', Wd p l e R s m args below meth c Z a0 n0 kb ws y bytes ml ret T' (L.set i (a, .inr (.int, vs.set jn v))) cells slots → Go p e below Z n0 kg E P T' (mkF m pc' Ls st)) : Go p e below Z n0 kg E P T (mkF m pc Ls (.int x :: .int j :: .ref a :: st)) := by
  subst hp hv
  obtain ⟨⟨locs, X, N⟩, H, hx, hZ, hown, hby, hml, hret, hlk, hnm, hws⟩ := w
  obtain ⟨cl, A, XA, ev, hL⟩ := H.arr hi
  obtain ⟨q1, q2⟩ := inb hj ev hl
  obtain ⟨T', h', X', e', W, st'⟩ := stI X hx hZ rfl A (j := j) (x := x) q1 (g := mkF m pc Ls (.int x :: .int j :: .ref a :: st)) rfl rfl (hb hby hd)
  rw [q2] at W
  refine (kt T' ⟨⟨_, X', Fr.snoc X' N (H.ge hi)⟩, ?_, hx, hZ, hown, hby, hml, hret, hlk, hnm, hws⟩).pre st'
  rw [e']
  exact H.put hi W (Is.elem A XA ev hL W)
theorem g_lastore (w : Wd p l e R s m args below meth c Z a0 n0 kb ws y bytes ml ret T L cells slots) {pc : Nat} {Ls : Array Slot} {st : List Value} {a : Addr} {vs : List Value} {j : Int32} {x : Int64} (hd : decode bytes pc = .ok (.lastore, 1)) (i : Nat) (hi : L[i]? = some (a, .inr (.long, vs))) (jn : Nat) (hj : j.toInt = (jn : Int)) (hl : jn < vs.length) (v : Value) (hv : (.long x) = v) (pc' : Nat) (hp : pc + 1 = pc')
    (kt : ∀ T', Wd p l e R s m args below meth c Z a0 n0 kb ws y bytes ml ret T' (L.set i (a, .inr (.long, vs.set jn v))) cells slots → Go p e below Z n0 kg E P T' (mkF m pc' Ls st)) : Go p e below Z n0 kg E P T (mkF m pc Ls (.long x :: .int j :: .ref a :: st)) := by
  subst hp hv
  obtain ⟨⟨locs, X, N⟩, H, hx, hZ, hown, hby, hml, hret, hlk, hnm, hws⟩ := w
  obtain ⟨cl, A, XA, ev, hL⟩ := H.arr hi
  obtain ⟨q1, q2⟩ := inb hj ev hl
  obtain ⟨T', h', X', e', W, st'⟩ := stJ X hx hZ rfl A (j := j) (x := x) q1 (g := mkF m pc Ls (.long x :: .int j :: .ref a :: st)) rfl rfl (hb hby hd)
  rw [q2] at W
  refine (kt T' ⟨⟨_, X', Fr.snoc X' N (H.ge hi)⟩, ?_, hx, hZ, hown, hby, hml, hret, hlk, hnm, hws⟩).pre st'
  rw [e']
  exact H.put hi W (Is.elem A XA ev hL W)
theorem g_castore (w : Wd p l e R s m args below meth c Z a0 n0 kb ws y bytes ml ret T L cells slots) {pc : Nat} {Ls : Array Slot} {st : List Value} {a : Addr} {vs : List Value} {j : Int32} {x : Int32} (hd : decode bytes pc = .ok (.castore, 1)) (i : Nat) (hi : L[i]? = some (a, .inr (.char, vs))) (jn : Nat) (hj : j.toInt = (jn : Int)) (hl : jn < vs.length) (v : Value) (hv : (.int (nar .char x)) = v) (pc' : Nat) (hp : pc + 1 = pc')
    (kt : ∀ T', Wd p l e R s m args below meth c Z a0 n0 kb ws y bytes ml ret T' (L.set i (a, .inr (.char, vs.set jn v))) cells slots → Go p e below Z n0 kg E P T' (mkF m pc' Ls st)) : Go p e below Z n0 kg E P T (mkF m pc Ls (.int x :: .int j :: .ref a :: st)) := by
  subst hp hv
  obtain ⟨⟨locs, X, N⟩, H, hx, hZ, hown, hby, hml, hret, hlk, hnm, hws⟩ := w
  obtain ⟨cl, A, XA, ev, hL⟩ := H.arr hi
  obtain ⟨q1, q2⟩ := inb hj ev hl
  obtain ⟨T', h', X', e', W, st'⟩ := stC X hx hZ rfl A (j := j) (x := x) q1 (g := mkF m pc Ls (.int x :: .int j :: .ref a :: st)) rfl rfl (hb hby hd)
  rw [q2] at W
  refine (kt T' ⟨⟨_, X', Fr.snoc X' N (H.ge hi)⟩, ?_, hx, hZ, hown, hby, hml, hret, hlk, hnm, hws⟩).pre st'
  rw [e']
  exact H.put hi W (Is.elem A XA ev hL W)
theorem g_bastore (w : Wd p l e R s m args below meth c Z a0 n0 kb ws y bytes ml ret T L cells slots) {pc : Nat} {Ls : Array Slot} {st : List Value} {a : Addr} {vs : List Value} {j : Int32} {x : Int32} (hd : decode bytes pc = .ok (.bastore, 1)) (i : Nat) (hi : L[i]? = some (a, .inr (.byte, vs))) (jn : Nat) (hj : j.toInt = (jn : Int)) (hl : jn < vs.length) (v : Value) (hv : (.int (nar .byte x)) = v) (pc' : Nat) (hp : pc + 1 = pc')
    (kt : ∀ T', Wd p l e R s m args below meth c Z a0 n0 kb ws y bytes ml ret T' (L.set i (a, .inr (.byte, vs.set jn v))) cells slots → Go p e below Z n0 kg E P T' (mkF m pc' Ls st)) : Go p e below Z n0 kg E P T (mkF m pc Ls (.int x :: .int j :: .ref a :: st)) := by
  subst hp hv
  obtain ⟨⟨locs, X, N⟩, H, hx, hZ, hown, hby, hml, hret, hlk, hnm, hws⟩ := w
  obtain ⟨cl, A, XA, ev, hL⟩ := H.arr hi
  obtain ⟨q1, q2⟩ := inb hj ev hl
  obtain ⟨T', h', X', e', W, st'⟩ := stB X hx hZ rfl A (j := j) (x := x) q1 (g := mkF m pc Ls (.int x :: .int j :: .ref a :: st)) rfl rfl (hb hby hd)
  rw [q2] at W
  refine (kt T' ⟨⟨_, X', Fr.snoc X' N (H.ge hi)⟩, ?_, hx, hZ, hown, hby, hml, hret, hlk, hnm, hws⟩).pre st'
  rw [e']
  exact H.put hi W (Is.elem A XA ev hL W)
theorem g_zastore (w : Wd p l e R s m args below meth c Z a0 n0 kb ws y bytes ml ret T L cells slots) {pc : Nat} {Ls : Array Slot} {st : List Value} {a : Addr} {vs : List Value} {j : Int32} {x : Int32} (hd : decode bytes pc = .ok (.bastore, 1)) (i : Nat) (hi : L[i]? = some (a, .inr (.boolean, vs))) (jn : Nat) (hj : j.toInt = (jn : Int)) (hl : jn < vs.length) (v : Value) (hv : (.int (nar .boolean x)) = v) (pc' : Nat) (hp : pc + 1 = pc')
    (kt : ∀ T', Wd p l e R s m args below meth c Z a0 n0 kb ws y bytes ml ret T' (L.set i (a, .inr (.boolean, vs.set jn v))) cells slots → Go p e below Z n0 kg E P T' (mkF m pc' Ls st)) : Go p e below Z n0 kg E P T (mkF m pc Ls (.int x :: .int j :: .ref a :: st)) := by
  subst hp hv
  obtain ⟨⟨locs, X, N⟩, H, hx, hZ, hown, hby, hml, hret, hlk, hnm, hws⟩ := w
  obtain ⟨cl, A, XA, ev, hL⟩ := H.arr hi
  obtain ⟨q1, q2⟩ := inb hj ev hl
  obtain ⟨T', h', X', e', W, st'⟩ := stZ X hx hZ rfl A (j := j) (x := x) q1 (g := mkF m pc Ls (.int x :: .int j :: .ref a :: st)) rfl rfl (hb hby hd)
  rw [q2] at W
  refine (kt T' ⟨⟨_, X', Fr.snoc X' N (H.ge hi)⟩, ?_, hx, hZ, hown, hby, hml, hret, hlk, hnm, hws⟩).pre st'
  rw [e']
  exact H.put hi W (Is.elem A XA ev hL W)
theorem g_iadd (w : Wd p l e R s m args below meth c Z a0 n0 kb ws y bytes ml ret T L cells slots) {pc : Nat} {Ls : Array Slot} {x y : Int32} {st : List Value} (hd : decode bytes pc = .ok (.iadd, 1)) (pc' : Nat) (hp : pc + 1 = pc')
    (k : Go p e below Z n0 kg E P T (mkF m pc' Ls (.int (x + y) :: st))) : Go p e below Z n0 kg E P T (mkF m pc Ls (.int y :: .int x :: st)) := by
  subst hp
  exact k.pre fun t q => XS.iadd w.here w.hx rfl (hb w.hby hd) rfl q
theorem g_isub (w : Wd p l e R s m args below meth c Z a0 n0 kb ws y bytes ml ret T L cells slots) {pc : Nat} {Ls : Array Slot} {x y : Int32} {st : List Value} (hd : decode bytes pc = .ok (.isub, 1)) (pc' : Nat) (hp : pc + 1 = pc')
    (k : Go p e below Z n0 kg E P T (mkF m pc' Ls (.int (x - y) :: st))) : Go p e below Z n0 kg E P T (mkF m pc Ls (.int y :: .int x :: st)) := by
  subst hp
  exact k.pre fun t q => XS.isub w.here w.hx rfl (hb w.hby hd) rfl q
theorem g_imul (w : Wd p l e R s m args below meth c Z a0 n0 kb ws y bytes ml ret T L cells slots) {pc : Nat} {Ls : Array Slot} {x y : Int32} {st : List Value} (hd : decode bytes pc = .ok (.imul, 1)) (pc' : Nat) (hp : pc + 1 = pc')
    (k : Go p e below Z n0 kg E P T (mkF m pc' Ls (.int (x * y) :: st))) : Go p e below Z n0 kg E P T (mkF m pc Ls (.int y :: .int x :: st)) := by
  subst hp
  exact k.pre fun t q => XS.imul w.here w.hx rfl (hb w.hby hd) rfl q
theorem g_iand (w : Wd p l e R s m args below meth c Z a0 n0 kb ws y bytes ml ret T L cells slots) {pc : Nat} {Ls : Array Slot} {x y : Int32} {st : List Value} (hd : decode bytes pc = .ok (.iand, 1)) (pc' : Nat) (hp : pc + 1 = pc')
    (k : Go p e below Z n0 kg E P T (mkF m pc' Ls (.int (x &&& y) :: st))) : Go p e below Z n0 kg E P T (mkF m pc Ls (.int y :: .int x :: st)) := by
  subst hp
  exact k.pre fun t q => XS.iand w.here w.hx rfl (hb w.hby hd) rfl q
theorem g_ior (w : Wd p l e R s m args below meth c Z a0 n0 kb ws y bytes ml ret T L cells slots) {pc : Nat} {Ls : Array Slot} {x y : Int32} {st : List Value} (hd : decode bytes pc = .ok (.ior, 1)) (pc' : Nat) (hp : pc + 1 = pc')
    (k : Go p e below Z n0 kg E P T (mkF m pc' Ls (.int (x ||| y) :: st))) : Go p e below Z n0 kg E P T (mkF m pc Ls (.int y :: .int x :: st)) := by
  subst hp
  exact k.pre fun t q => XT.ior w.here w.hx rfl (hb w.hby hd) rfl q
theorem g_ixor (w : Wd p l e R s m args below meth c Z a0 n0 kb ws y bytes ml ret T L cells slots) {pc : Nat} {Ls : Array Slot} {x y : Int32} {st : List Value} (hd : decode bytes pc = .ok (.ixor, 1)) (pc' : Nat) (hp : pc + 1 = pc')
    (k : Go p e below Z n0 kg E P T (mkF m pc' Ls (.int (x ^^^ y) :: st))) : Go p e below Z n0 kg E P T (mkF m pc Ls (.int y :: .int x :: st)) := by
  subst hp
  exact k.pre fun t q => XT.ixor w.here w.hx rfl (hb w.hby hd) rfl q
theorem g_ishl (w : Wd p l e R s m args below meth c Z a0 n0 kb ws y bytes ml ret T L cells slots) {pc : Nat} {Ls : Array Slot} {x y : Int32} {st : List Value} (hd : decode bytes pc = .ok (.ishl, 1)) (pc' : Nat) (hp : pc + 1 = pc')
    (k : Go p e below Z n0 kg E P T (mkF m pc' Ls (.int (x <<< (y &&& 31)) :: st))) : Go p e below Z n0 kg E P T (mkF m pc Ls (.int y :: .int x :: st)) := by
  subst hp
  exact k.pre fun t q => XS.ishl w.here w.hx rfl (hb w.hby hd) rfl q
theorem g_ishr (w : Wd p l e R s m args below meth c Z a0 n0 kb ws y bytes ml ret T L cells slots) {pc : Nat} {Ls : Array Slot} {x y : Int32} {st : List Value} (hd : decode bytes pc = .ok (.ishr, 1)) (pc' : Nat) (hp : pc + 1 = pc')
    (k : Go p e below Z n0 kg E P T (mkF m pc' Ls (.int (x >>> (y &&& 31)) :: st))) : Go p e below Z n0 kg E P T (mkF m pc Ls (.int y :: .int x :: st)) := by
  subst hp
  exact k.pre fun t q => XS.ishr w.here w.hx rfl (hb w.hby hd) rfl q
theorem g_iushr (w : Wd p l e R s m args below meth c Z a0 n0 kb ws y bytes ml ret T L cells slots) {pc : Nat} {Ls : Array Slot} {x y : Int32} {st : List Value} (hd : decode bytes pc = .ok (.iushr, 1)) (pc' : Nat) (hp : pc + 1 = pc')
    (k : Go p e below Z n0 kg E P T (mkF m pc' Ls (.int (ushrI x y) :: st))) : Go p e below Z n0 kg E P T (mkF m pc Ls (.int y :: .int x :: st)) := by
  subst hp
  exact k.pre fun t q => XS.iushr w.here w.hx rfl (hb w.hby hd) rfl q
theorem g_ladd (w : Wd p l e R s m args below meth c Z a0 n0 kb ws y bytes ml ret T L cells slots) {pc : Nat} {Ls : Array Slot} {x y : Int64} {st : List Value} (hd : decode bytes pc = .ok (.ladd, 1)) (pc' : Nat) (hp : pc + 1 = pc')
    (k : Go p e below Z n0 kg E P T (mkF m pc' Ls (.long (x + y) :: st))) : Go p e below Z n0 kg E P T (mkF m pc Ls (.long y :: .long x :: st)) := by
  subst hp
  exact k.pre fun t q => XT.ladd w.here w.hx rfl (hb w.hby hd) rfl q
theorem g_lsub (w : Wd p l e R s m args below meth c Z a0 n0 kb ws y bytes ml ret T L cells slots) {pc : Nat} {Ls : Array Slot} {x y : Int64} {st : List Value} (hd : decode bytes pc = .ok (.lsub, 1)) (pc' : Nat) (hp : pc + 1 = pc')
    (k : Go p e below Z n0 kg E P T (mkF m pc' Ls (.long (x - y) :: st))) : Go p e below Z n0 kg E P T (mkF m pc Ls (.long y :: .long x :: st)) := by
  subst hp
  exact k.pre fun t q => XT.lsub w.here w.hx rfl (hb w.hby hd) rfl q
theorem g_lmul (w : Wd p l e R s m args below meth c Z a0 n0 kb ws y bytes ml ret T L cells slots) {pc : Nat} {Ls : Array Slot} {x y : Int64} {st : List Value} (hd : decode bytes pc = .ok (.lmul, 1)) (pc' : Nat) (hp : pc + 1 = pc')
    (k : Go p e below Z n0 kg E P T (mkF m pc' Ls (.long (x * y) :: st))) : Go p e below Z n0 kg E P T (mkF m pc Ls (.long y :: .long x :: st)) := by
  subst hp
  exact k.pre fun t q => XT.lmul w.here w.hx rfl (hb w.hby hd) rfl q
theorem g_land (w : Wd p l e R s m args below meth c Z a0 n0 kb ws y bytes ml ret T L cells slots) {pc : Nat} {Ls : Array Slot} {x y : Int64} {st : List Value} (hd : decode bytes pc = .ok (.land, 1)) (pc' : Nat) (hp : pc + 1 = pc')
    (k : Go p e below Z n0 kg E P T (mkF m pc' Ls (.long (x &&& y) :: st))) : Go p e below Z n0 kg E P T (mkF m pc Ls (.long y :: .long x :: st)) := by
  subst hp
  exact k.pre fun t q => XT.land w.here w.hx rfl (hb w.hby hd) rfl q
theorem g_lor (w : Wd p l e R s m args below meth c Z a0 n0 kb ws y bytes ml ret T L cells slots) {pc : Nat} {Ls : Array Slot} {x y : Int64} {st : List Value} (hd : decode bytes pc = .ok (.lor, 1)) (pc' : Nat) (hp : pc + 1 = pc')
    (k : Go p e below Z n0 kg E P T (mkF m pc' Ls (.long (x ||| y) :: st))) : Go p e below Z n0 kg E P T (mkF m pc Ls (.long y :: .long x :: st)) := by
  subst hp
  exact k.pre fun t q => XT.lor w.here w.hx rfl (hb w.hby hd) rfl q
theorem g_lxor (w : Wd p l e R s m args below meth c Z a0 n0 kb ws y bytes ml ret T L cells slots) {pc : Nat} {Ls : Array Slot} {x y : Int64} {st : List Value} (hd : decode bytes pc = .ok (.lxor, 1)) (pc' : Nat) (hp : pc + 1 = pc')
    (k : Go p e below Z n0 kg E P T (mkF m pc' Ls (.long (x ^^^ y) :: st))) : Go p e below Z n0 kg E P T (mkF m pc Ls (.long y :: .long x :: st)) := by
  subst hp
  exact k.pre fun t q => XT.lxor w.here w.hx rfl (hb w.hby hd) rfl q
theorem g_lshl (w : Wd p l e R s m args below meth c Z a0 n0 kb ws y bytes ml ret T L cells slots) {pc : Nat} {Ls : Array Slot} {x : Int64} {y : Int32} {st : List Value} (hd : decode bytes pc = .ok (.lshl, 1)) (pc' : Nat) (hp : pc + 1 = pc')
    (k : Go p e below Z n0 kg E P T (mkF m pc' Ls (.long (shlL x y) :: st))) : Go p e below Z n0 kg E P T (mkF m pc Ls (.int y :: .long x :: st)) := by
  subst hp
  exact k.pre fun t q => XS.lshl w.here w.hx rfl (hb w.hby hd) rfl q
theorem g_lshr (w : Wd p l e R s m args below meth c Z a0 n0 kb ws y bytes ml ret T L cells slots) {pc : Nat} {Ls : Array Slot} {x : Int64} {y : Int32} {st : List Value} (hd : decode bytes pc = .ok (.lshr, 1)) (pc' : Nat) (hp : pc + 1 = pc')
    (k : Go p e below Z n0 kg E P T (mkF m pc' Ls (.long (shrL x y) :: st))) : Go p e below Z n0 kg E P T (mkF m pc Ls (.int y :: .long x :: st)) := by
  subst hp
  exact k.pre fun t q => XS.lshr w.here w.hx rfl (hb w.hby hd) rfl q
theorem g_lushr (w : Wd p l e R s m args below meth c Z a0 n0 kb ws y bytes ml ret T L cells slots) {pc : Nat} {Ls : Array Slot} {x : Int64} {y : Int32} {st : List Value} (hd : decode bytes pc = .ok (.lushr, 1)) (pc' : Nat) (hp : pc + 1 = pc')
    (k : Go p e below Z n0 kg E P T (mkF m pc' Ls (.long (ushrL x y) :: st))) : Go p e below Z n0 kg E P T (mkF m pc Ls (.int y :: .long x :: st)) := by
  subst hp
  exact k.pre fun t q => XS.lushr w.here w.hx rfl (hb w.hby hd) rfl q
theorem g_lcmp (w : Wd p l e R s m args below meth c Z a0 n0 kb ws y bytes ml ret T L cells slots) {pc : Nat} {Ls : Array Slot} {x y : Int64} {st : List Value} (hd : decode bytes pc = .ok (.lcmp, 1)) (pc' : Nat) (hp : pc + 1 = pc')
    (k : Go p e below Z n0 kg E P T (mkF m pc' Ls (.int (XT.cmpL x y) :: st))) : Go p e below Z n0 kg E P T (mkF m pc Ls (.long y :: .long x :: st)) := by
  subst hp
  exact k.pre fun t q => XT.lcmp w.here w.hx rfl (hb w.hby hd) rfl q
theorem g_idiv (w : Wd p l e R s m args below meth c Z a0 n0 kb ws y bytes ml ret T L cells slots) {pc : Nat} {Ls : Array Slot} {x y : Int32} {st : List Value} (hd : decode bytes pc = .ok (.idiv, 1)) (hy : y ≠ 0) (pc' : Nat) (hp : pc + 1 = pc')
    (k : Go p e below Z n0 kg E P T (mkF m pc' Ls (.int (x / y) :: st))) : Go p e below Z n0 kg E P T (mkF m pc Ls (.int y :: .int x :: st)) := by
  subst hp
  exact k.pre fun t q => XS.idiv w.here w.hx rfl (hb w.hby hd) rfl hy q
theorem g_ldiv (w : Wd p l e R s m args below meth c Z a0 n0 kb ws y bytes ml ret T L cells slots) {pc : Nat} {Ls : Array Slot} {x y : Int64} {st : List Value} (hd : decode bytes pc = .ok (.ldiv, 1)) (hy : y ≠ 0) (pc' : Nat) (hp : pc + 1 = pc')
    (k : Go p e below Z n0 kg E P T (mkF m pc' Ls (.long (x / y) :: st))) : Go p e below Z n0 kg E P T (mkF m pc Ls (.long y :: .long x :: st)) := by
  subst hp
  exact k.pre fun t q => XT.ldiv w.here w.hx rfl (hb w.hby hd) rfl hy q
theorem g_irem (w : Wd p l e R s m args below meth c Z a0 n0 kb ws y bytes ml ret T L cells slots) {pc : Nat} {Ls : Array Slot} {x y : Int32} {st : List Value} (hd : decode bytes pc = .ok (.irem, 1)) (hy : y ≠ 0) (pc' : Nat) (hp : pc + 1 = pc')
    (k : Go p e below Z n0 kg E P T (mkF m pc' Ls (.int (x % y) :: st))) : Go p e below Z n0 kg E P T (mkF m pc Ls (.int y :: .int x :: st)) := by
  subst hp
  exact k.pre fun t q => XS.irem w.here w.hx rfl (hb w.hby hd) rfl hy (by rw [irem_eq_mod]; exact q)
theorem g_lrem (w : Wd p l e R s m args below meth c Z a0 n0 kb ws y bytes ml ret T L cells slots) {pc : Nat} {Ls : Array Slot} {x y : Int64} {st : List Value} (hd : decode bytes pc = .ok (.lrem, 1)) (hy : y ≠ 0) (pc' : Nat) (hp : pc + 1 = pc')
    (k : Go p e below Z n0 kg E P T (mkF m pc' Ls (.long (x % y) :: st))) : Go p e below Z n0 kg E P T (mkF m pc Ls (.long y :: .long x :: st)) := by
  subst hp
  exact k.pre fun t q => XT.lrem w.here w.hx rfl (hb w.hby hd) rfl hy (by rw [lrem_mod]; exact q)
theorem g_ineg (w : Wd p l e R s m args below meth c Z a0 n0 kb ws y bytes ml ret T L cells slots) {pc : Nat} {Ls : Array Slot} {x : Int32} {st : List Value} (hd : decode bytes pc = .ok (.ineg, 1)) (pc' : Nat) (hp : pc + 1 = pc')
    (k : Go p e below Z n0 kg E P T (mkF m pc' Ls (.int (-x) :: st))) : Go p e below Z n0 kg E P T (mkF m pc Ls (.int x :: st)) := by
  subst hp
  exact k.pre fun t q => XS.ineg w.here w.hx rfl (hb w.hby hd) rfl q
theorem g_lneg (w : Wd p l e R s m args below meth c Z a0 n0 kb ws y bytes ml ret T L cells slots) {pc : Nat} {Ls : Array Slot} {x : Int64} {st : List Value} (hd : decode bytes pc = .ok (.lneg, 1)) (pc' : Nat) (hp : pc + 1 = pc')
    (k : Go p e below Z n0 kg E P T (mkF m pc' Ls (.long (-x) :: st))) : Go p e below Z n0 kg E P T (mkF m pc Ls (.long x :: st)) := by
  subst hp
  exact k.pre fun t q => XT.lneg w.here w.hx rfl (hb w.hby hd) rfl q
theorem g_i2l (w : Wd p l e R s m args below meth c Z a0 n0 kb ws y bytes ml ret T L cells slots) {pc : Nat} {Ls : Array Slot} {x : Int32} {st : List Value} (hd : decode bytes pc = .ok (.i2l, 1)) (pc' : Nat) (hp : pc + 1 = pc')
    (k : Go p e below Z n0 kg E P T (mkF m pc' Ls (.long (x.toInt64) :: st))) : Go p e below Z n0 kg E P T (mkF m pc Ls (.int x :: st)) := by
  subst hp
  exact k.pre fun t q => XT.i2l w.here w.hx rfl (hb w.hby hd) rfl q
theorem g_l2i (w : Wd p l e R s m args below meth c Z a0 n0 kb ws y bytes ml ret T L cells slots) {pc : Nat} {Ls : Array Slot} {x : Int64} {st : List Value} (hd : decode bytes pc = .ok (.l2i, 1)) (pc' : Nat) (hp : pc + 1 = pc')
    (k : Go p e below Z n0 kg E P T (mkF m pc' Ls (.int (x.toInt32) :: st))) : Go p e below Z n0 kg E P T (mkF m pc Ls (.long x :: st)) := by
  subst hp
  exact k.pre fun t q => XT.l2i w.here w.hx rfl (hb w.hby hd) rfl q
theorem g_i2b (w : Wd p l e R s m args below meth c Z a0 n0 kb ws y bytes ml ret T L cells slots) {pc : Nat} {Ls : Array Slot} {x : Int32} {st : List Value} (hd : decode bytes pc = .ok (.i2b, 1)) (pc' : Nat) (hp : pc + 1 = pc')
    (k : Go p e below Z n0 kg E P T (mkF m pc' Ls (.int (x.toInt8.toInt32) :: st))) : Go p e below Z n0 kg E P T (mkF m pc Ls (.int x :: st)) := by
  subst hp
  exact k.pre fun t q => XT.i2b w.here w.hx rfl (hb w.hby hd) rfl q
theorem g_i2c (w : Wd p l e R s m args below meth c Z a0 n0 kb ws y bytes ml ret T L cells slots) {pc : Nat} {Ls : Array Slot} {x : Int32} {st : List Value} (hd : decode bytes pc = .ok (.i2c, 1)) (pc' : Nat) (hp : pc + 1 = pc')
    (k : Go p e below Z n0 kg E P T (mkF m pc' Ls (.int (x.toUInt32.toUInt16.toUInt32.toInt32) :: st))) : Go p e below Z n0 kg E P T (mkF m pc Ls (.int x :: st)) := by
  subst hp
  exact k.pre fun t q => XT.i2c w.here w.hx rfl (hb w.hby hd) rfl q
theorem g_i2s (w : Wd p l e R s m args below meth c Z a0 n0 kb ws y bytes ml ret T L cells slots) {pc : Nat} {Ls : Array Slot} {x : Int32} {st : List Value} (hd : decode bytes pc = .ok (.i2s, 1)) (pc' : Nat) (hp : pc + 1 = pc')
    (k : Go p e below Z n0 kg E P T (mkF m pc' Ls (.int (x.toInt16.toInt32) :: st))) : Go p e below Z n0 kg E P T (mkF m pc Ls (.int x :: st)) := by
  subst hp
  exact k.pre fun t q => XT.i2s w.here w.hx rfl (hb w.hby hd) rfl q
theorem g_iload (w : Wd p l e R s m args below meth c Z a0 n0 kb ws y bytes ml ret T L cells slots) {pc : Nat} {Ls : Array Slot} {i : Nat} {v : Int32} {st : List Value} (hd : decode bytes pc = .ok (.iload i, 2)) (hl : Ls[i]? = some (.val (.int v))) (pc' : Nat) (hp : pc + 2 = pc')
    (k : Go p e below Z n0 kg E P T (mkF m pc' Ls (.int v :: st))) : Go p e below Z n0 kg E P T (mkF m pc Ls (st)) := by
  subst hp
  exact k.pre fun t q => XS.iload w.here w.hx rfl (hb w.hby hd) hl q
theorem g_iloadN (w : Wd p l e R s m args below meth c Z a0 n0 kb ws y bytes ml ret T L cells slots) {pc : Nat} {Ls : Array Slot} {i : Fin 4} {v : Int32} {st : List Value} (hd : decode bytes pc = .ok (.iload_n i, 1)) (hl : Ls[i.val]? = some (.val (.int v))) (pc' : Nat) (hp : pc + 1 = pc')
    (k : Go p e below Z n0 kg E P T (mkF m pc' Ls (.int v :: st))) : Go p e below Z n0 kg E P T (mkF m pc Ls (st)) := by
  subst hp
  exact k.pre fun t q => XS.iloadN w.here w.hx rfl (hb w.hby hd) hl q
theorem g_lload (w : Wd p l e R s m args below meth c Z a0 n0 kb ws y bytes ml ret T L cells slots) {pc : Nat} {Ls : Array Slot} {i : Nat} {v : Int64} {st : List Value} (hd : decode bytes pc = .ok (.lload i, 2)) (hl : Ls[i]? = some (.val (.long v))) (pc' : Nat) (hp : pc + 2 = pc')
    (k : Go p e below Z n0 kg E P T (mkF m pc' Ls (.long v :: st))) : Go p e below Z n0 kg E P T (mkF m pc Ls (st)) := by
  subst hp
  exact k.pre fun t q => XT.lload w.here w.hx rfl (hb w.hby hd) hl q
theorem g_lloadN (w : Wd p l e R s m args below meth c Z a0 n0 kb ws y bytes ml ret T L cells slots) {pc : Nat} {Ls : Array Slot} {i : Fin 4} {v : Int64} {st : List Value} (hd : decode bytes pc = .ok (.lload_n i, 1)) (hl : Ls[i.val]? = some (.val (.long v))) (pc' : Nat) (hp : pc + 1 = pc')
    (k : Go p e below Z n0 kg E P T (mkF m pc' Ls (.long v :: st))) : Go p e below Z n0 kg E P T (mkF m pc Ls (st)) := by
  subst hp
  exact k.pre fun t q => XT.lloadN w.here w.hx rfl (hb w.hby hd) hl q
theorem g_aload (w : Wd p l e R s m args below meth c Z a0 n0 kb ws y bytes ml ret T L cells slots) {pc : Nat} {Ls : Array Slot} {i : Nat} {v : Value} {st : List Value} (hd : decode bytes pc = .ok (.aload i, 2)) (hl : Ls[i]? = some (.val v)) (hv : v.isRef = true) (pc' : Nat) (hp : pc + 2 = pc')
    (k : Go p e below Z n0 kg E P T (mkF m pc' Ls (v :: st))) : Go p e below Z n0 kg E P T (mkF m pc Ls (st)) := by
  subst hp
  exact k.pre fun t q => XS.aload w.here w.hx rfl (hb w.hby hd) hl hv q
theorem g_aloadN (w : Wd p l e R s m args below meth c Z a0 n0 kb ws y bytes ml ret T L cells slots) {pc : Nat} {Ls : Array Slot} {i : Fin 4} {v : Value} {st : List Value} (hd : decode bytes pc = .ok (.aload_n i, 1)) (hl : Ls[i.val]? = some (.val v)) (hv : v.isRef = true) (pc' : Nat) (hp : pc + 1 = pc')
    (k : Go p e below Z n0 kg E P T (mkF m pc' Ls (v :: st))) : Go p e below Z n0 kg E P T (mkF m pc Ls (st)) := by
  subst hp
  exact k.pre fun t q => XS.aloadN w.here w.hx rfl (hb w.hby hd) hl hv q
theorem g_iconst (w : Wd p l e R s m args below meth c Z a0 n0 kb ws y bytes ml ret T L cells slots) {pc : Nat} {Ls : Array Slot} {i : Int} {st : List Value} (hd : decode bytes pc = .ok (.iconst i, 1)) (z : Int32) (hz : Int32.ofInt i = z) (pc' : Nat) (hp : pc + 1 = pc')
    (k : Go p e below Z n0 kg E P T (mkF m pc' Ls (.int z :: st))) : Go p e below Z n0 kg E P T (mkF m pc Ls (st)) := by
  subst hp
  exact k.pre fun t q => XS.iconst w.here w.hx rfl (hb w.hby hd) (by rw [hz]; exact q)
theorem g_bipush (w : Wd p l e R s m args below meth c Z a0 n0 kb ws y bytes ml ret T L cells slots) {pc : Nat} {Ls : Array Slot} {i : Int} {st : List Value} (hd : decode bytes pc = .ok (.bipush i, 2)) (z : Int32) (hz : (Int8.ofInt i).toInt32 = z) (pc' : Nat) (hp : pc + 2 = pc')
    (k : Go p e below Z n0 kg E P T (mkF m pc' Ls (.int z :: st))) : Go p e below Z n0 kg E P T (mkF m pc Ls (st)) := by
  subst hp
  exact k.pre fun t q => XS.bipush w.here w.hx rfl (hb w.hby hd) (by rw [hz]; exact q)
theorem g_sipush (w : Wd p l e R s m args below meth c Z a0 n0 kb ws y bytes ml ret T L cells slots) {pc : Nat} {Ls : Array Slot} {i : Int} {st : List Value} (hd : decode bytes pc = .ok (.sipush i, 3)) (z : Int32) (hz : (Int16.ofInt i).toInt32 = z) (pc' : Nat) (hp : pc + 3 = pc')
    (k : Go p e below Z n0 kg E P T (mkF m pc' Ls (.int z :: st))) : Go p e below Z n0 kg E P T (mkF m pc Ls (st)) := by
  subst hp
  exact k.pre fun t q => XS.sipush w.here w.hx rfl (hb w.hby hd) (by rw [hz]; exact q)
theorem g_lconst (w : Wd p l e R s m args below meth c Z a0 n0 kb ws y bytes ml ret T L cells slots) {pc : Nat} {Ls : Array Slot} {i : Fin 2} {st : List Value} (hd : decode bytes pc = .ok (.lconst i, 1)) (z : Int64) (hz : Int64.ofNat i = z) (pc' : Nat) (hp : pc + 1 = pc')
    (k : Go p e below Z n0 kg E P T (mkF m pc' Ls (.long z :: st))) : Go p e below Z n0 kg E P T (mkF m pc Ls (st)) := by
  subst hp
  exact k.pre fun t q => XT.lconst w.here w.hx rfl (hb w.hby hd) (by rw [hz]; exact q)
theorem g_anull (w : Wd p l e R s m args below meth c Z a0 n0 kb ws y bytes ml ret T L cells slots) {pc : Nat} {Ls : Array Slot} {st : List Value} (hd : decode bytes pc = .ok (.aconst_null, 1)) (pc' : Nat) (hp : pc + 1 = pc')
    (k : Go p e below Z n0 kg E P T (mkF m pc' Ls (.null :: st))) : Go p e below Z n0 kg E P T (mkF m pc Ls (st)) := by
  subst hp
  exact k.pre fun t q => XS.aconstNull w.here w.hx rfl (hb w.hby hd) q
theorem g_dup (w : Wd p l e R s m args below meth c Z a0 n0 kb ws y bytes ml ret T L cells slots) {pc : Nat} {Ls : Array Slot} {x : Value} {st : List Value} (hd : decode bytes pc = .ok (.dup, 1)) (hc : x.category = 1) (pc' : Nat) (hp : pc + 1 = pc')
    (k : Go p e below Z n0 kg E P T (mkF m pc' Ls (x :: x :: st))) : Go p e below Z n0 kg E P T (mkF m pc Ls (x :: st)) := by
  subst hp
  exact k.pre fun t q => XS.dup w.here w.hx rfl (hb w.hby hd) rfl hc q
theorem g_pop (w : Wd p l e R s m args below meth c Z a0 n0 kb ws y bytes ml ret T L cells slots) {pc : Nat} {Ls : Array Slot} {x : Value} {st : List Value} (hd : decode bytes pc = .ok (.pop, 1)) (hc : x.category = 1) (pc' : Nat) (hp : pc + 1 = pc')
    (k : Go p e below Z n0 kg E P T (mkF m pc' Ls (st))) : Go p e below Z n0 kg E P T (mkF m pc Ls (x :: st)) := by
  subst hp
  exact k.pre fun t q => XT.pop w.here w.hx rfl (hb w.hby hd) rfl hc q
theorem g_dup_x1 (w : Wd p l e R s m args below meth c Z a0 n0 kb ws y bytes ml ret T L cells slots) {pc : Nat} {Ls : Array Slot} {x x' : Value} {st : List Value} (hd : decode bytes pc = .ok (.dup_x1, 1)) (hc : x.category = 1) (hc' : x'.category = 1) (pc' : Nat) (hp : pc + 1 = pc')
    (k : Go p e below Z n0 kg E P T (mkF m pc' Ls (x :: x' :: x :: st))) : Go p e below Z n0 kg E P T (mkF m pc Ls (x :: x' :: st)) := by
  subst hp
  exact k.pre fun t q => XT.dupX1 w.here w.hx rfl (hb w.hby hd) rfl hc hc' q
theorem g_dup2 (w : Wd p l e R s m args below meth c Z a0 n0 kb ws y bytes ml ret T L cells slots) {pc : Nat} {Ls : Array Slot} {x x' : Value} {st : List Value} (hd : decode bytes pc = .ok (.dup2, 1)) (hc : x.category = 1) (hc' : x'.category = 1) (pc' : Nat) (hp : pc + 1 = pc')
    (k : Go p e below Z n0 kg E P T (mkF m pc' Ls (x :: x' :: x :: x' :: st))) : Go p e below Z n0 kg E P T (mkF m pc Ls (x :: x' :: st)) := by
  subst hp
  exact k.pre fun t q => XT.dup2 w.here w.hx rfl (hb w.hby hd) rfl hc hc' q
theorem g_istore (w : Wd p l e R s m args below meth c Z a0 n0 kb ws y bytes ml ret T L cells slots) {pc : Nat} {Ls : Array Slot} {i : Nat} {x x' : Int32} {st : List Value} (hd : decode bytes pc = .ok (.istore i, 2)) (pc' : Nat) (hp : pc + 2 = pc') (e1 : x = x') (Ls' : Array Slot) (hl : storeLocals Ls i (.int x') = some Ls')
    (k : Go p e below Z n0 kg E P T (mkF m pc' Ls' st)) : Go p e below Z n0 kg E P T (mkF m pc Ls (.int x :: st)) := by
  subst hp e1
  exact k.pre fun t q => XS.istore w.here w.hx rfl (hb w.hby hd) rfl hl q
theorem g_istoreN (w : Wd p l e R s m args below meth c Z a0 n0 kb ws y bytes ml ret T L cells slots) {pc : Nat} {Ls : Array Slot} {i : Fin 4} {x x' : Int32} {st : List Value} (hd : decode bytes pc = .ok (.istore_n i, 1)) (pc' : Nat) (hp : pc + 1 = pc') (e1 : x = x') (Ls' : Array Slot) (hl : storeLocals Ls i.val (.int x') = some Ls')
    (k : Go p e below Z n0 kg E P T (mkF m pc' Ls' st)) : Go p e below Z n0 kg E P T (mkF m pc Ls (.int x :: st)) := by
  subst hp e1
  exact k.pre fun t q => XS.istoreN w.here w.hx rfl (hb w.hby hd) rfl hl q
theorem g_lstore (w : Wd p l e R s m args below meth c Z a0 n0 kb ws y bytes ml ret T L cells slots) {pc : Nat} {Ls : Array Slot} {i : Nat} {x x' : Int64} {st : List Value} (hd : decode bytes pc = .ok (.lstore i, 2)) (pc' : Nat) (hp : pc + 2 = pc') (e1 : x = x') (Ls' : Array Slot) (hl : storeLocals Ls i (.long x') = some Ls')
    (k : Go p e below Z n0 kg E P T (mkF m pc' Ls' st)) : Go p e below Z n0 kg E P T (mkF m pc Ls (.long x :: st)) := by
  subst hp e1
  exact k.pre fun t q => XT.lstore w.here w.hx rfl (hb w.hby hd) rfl hl q
theorem g_lstoreN (w : Wd p l e R s m args below meth c Z a0 n0 kb ws y bytes ml ret T L cells slots) {pc : Nat} {Ls : Array Slot} {i : Fin 4} {x x' : Int64} {st : List Value} (hd : decode bytes pc = .ok (.lstore_n i, 1)) (pc' : Nat) (hp : pc + 1 = pc') (e1 : x = x') (Ls' : Array Slot) (hl : storeLocals Ls i.val (.long x') = some Ls')
    (k : Go p e below Z n0 kg E P T (mkF m pc' Ls' st)) : Go p e below Z n0 kg E P T (mkF m pc Ls (.long x :: st)) := by
  subst hp e1
  exact k.pre fun t q => XT.lstoreN w.here w.hx rfl (hb w.hby hd) rfl hl q
theorem g_astore (w : Wd p l e R s m args below meth c Z a0 n0 kb ws y bytes ml ret T L cells slots) {pc : Nat} {Ls : Array Slot} {i : Nat} {x : Value} {st : List Value} (hd : decode bytes pc = .ok (.astore i, 2)) (pc' : Nat) (hp : pc + 2 = pc') (hv : x.isRef = true) (Ls' : Array Slot) (hl : storeLocals Ls i x = some Ls')
    (k : Go p e below Z n0 kg E P T (mkF m pc' Ls' st)) : Go p e below Z n0 kg E P T (mkF m pc Ls (x :: st)) := by
  subst hp
  exact k.pre fun t q => XS.astore w.here w.hx rfl (hb w.hby hd) rfl hv hl q
theorem g_astoreN (w : Wd p l e R s m args below meth c Z a0 n0 kb ws y bytes ml ret T L cells slots) {pc : Nat} {Ls : Array Slot} {i : Fin 4} {x : Value} {st : List Value} (hd : decode bytes pc = .ok (.astore_n i, 1)) (pc' : Nat) (hp : pc + 1 = pc') (hv : x.isRef = true) (Ls' : Array Slot) (hl : storeLocals Ls i.val x = some Ls')
    (k : Go p e below Z n0 kg E P T (mkF m pc' Ls' st)) : Go p e below Z n0 kg E P T (mkF m pc Ls (x :: st)) := by
  subst hp
  exact k.pre fun t q => XS.astoreN w.here w.hx rfl (hb w.hby hd) rfl hv hl q
theorem g_iinc (w : Wd p l e R s m args below meth c Z a0 n0 kb ws y bytes ml ret T L cells slots) {pc : Nat} {Ls : Array Slot} {i : Nat} {cst : Int} {x x' : Int32} {st : List Value} (hd : decode bytes pc = .ok (.iinc i cst, 3)) (pc' : Nat) (hp : pc + 3 = pc') (hl0 : Ls[i]? = some (.val (.int x))) (e1 : x + Int32.ofInt cst = x') (Ls' : Array Slot) (hl : storeLocals Ls i (.int x') = some Ls')
    (k : Go p e below Z n0 kg E P T (mkF m pc' Ls' st)) : Go p e below Z n0 kg E P T (mkF m pc Ls st) := by
  subst hp e1
  exact k.pre fun t q => XS.iinc w.here w.hx rfl (hb w.hby hd) hl0 hl q
theorem g_goto (w : Wd p l e R s m args below meth c Z a0 n0 kb ws y bytes ml ret T L cells slots) {pc : Nat} {Ls : Array Slot} {o : Int} {st : List Value} (hd : decode bytes pc = .ok (.goto o, 3)) (pc' : Nat) (ho : 0 ≤ (pc : Int) + o) (hp : ((pc : Int) + o).toNat = pc')
    (k : Go p e below Z n0 kg E P T (mkF m pc' Ls st)) : Go p e below Z n0 kg E P T (mkF m pc Ls st) := k.pre fun t q => XS.goto w.here w.hx rfl rfl (hb w.hby hd) ho hp q
theorem g_icmp_eq (w : Wd p l e R s m args below meth c Z a0 n0 kb ws y bytes ml ret T L cells slots) {pc : Nat} {Ls : Array Slot} {x y' : Int32} {o : Int} {st : List Value} (hd : decode bytes pc = .ok (.if_icmp .eq o, 3)) (pcT : Nat) (ho : 0 ≤ (pc : Int) + o) (hT : ((pc : Int) + o).toNat = pcT) (pcF : Nat) (hF : pc + 3 = pcF)
    (k1 : x = y' → Go p e below Z n0 kg E P T (mkF m pcT Ls st)) (k2 : ¬ x = y' → Go p e below Z n0 kg E P T (mkF m pcF Ls st)) : Go p e below Z n0 kg E P T (mkF m pc Ls (.int y' :: .int x :: st)) := by
  subst hF
  by_cases h : x = y'
  · exact (k1 h).pre fun t q => XS.icmpYes w.here w.hx rfl rfl (hb w.hby hd) rfl (XT.ii_eq_t h) ho hT q
  · exact (k2 h).pre fun t q => XS.icmpNo w.here w.hx rfl (hb w.hby hd) rfl (XT.ii_eq_f h) q
theorem g_if_eq (w : Wd p l e R s m args below meth c Z a0 n0 kb ws y bytes ml ret T L cells slots) {pc : Nat} {Ls : Array Slot} {x : Int32} {o : Int} {st : List Value} (hd : decode bytes pc = .ok (.ifCond .eq o, 3)) (pcT : Nat) (ho : 0 ≤ (pc : Int) + o) (hT : ((pc : Int) + o).toNat = pcT) (pcF : Nat) (hF : pc + 3 = pcF)
    (k1 : x = 0 → Go p e below Z n0 kg E P T (mkF m pcT Ls st)) (k2 : ¬ x = 0 → Go p e below Z n0 kg E P T (mkF m pcF Ls st)) : Go p e below Z n0 kg E P T (mkF m pc Ls (.int x :: st)) := by
  subst hF
  by_cases h : x = 0
  · exact (k1 h).pre fun t q => XS.ifYes w.here w.hx rfl rfl (hb w.hby hd) rfl (XT.i0_eq_t h) ho hT q
  · exact (k2 h).pre fun t q => XS.ifNo w.here w.hx rfl (hb w.hby hd) rfl (XT.i0_eq_f h) q
theorem g_lif_eq (w : Wd p l e R s m args below meth c Z a0 n0 kb ws y bytes ml ret T L cells slots) {pc : Nat} {Ls : Array Slot} {x y' : Int64} {o : Int} {st : List Value} (hd : decode bytes pc = .ok (.ifCond .eq o, 3)) (pcT : Nat) (ho : 0 ≤ (pc : Int) + o) (hT : ((pc : Int) + o).toNat = pcT) (pcF : Nat) (hF : pc + 3 = pcF)
    (k1 : x = y' → Go p e below Z n0 kg E P T (mkF m pcT Ls st)) (k2 : ¬ x = y' → Go p e below Z n0 kg E P T (mkF m pcF Ls st)) : Go p e below Z n0 kg E P T (mkF m pc Ls (.int (XT.cmpL x y') :: st)) := by
  subst hF
  by_cases h : x = y'
  · exact (k1 h).pre fun t q => XS.ifYes w.here w.hx rfl rfl (hb w.hby hd) rfl (XT.ll_eq_t h) ho hT q
  · exact (k2 h).pre fun t q => XS.ifNo w.here w.hx rfl (hb w.hby hd) rfl (XT.ll_eq_f h) q
theorem g_icmp_ne (w : Wd p l e R s m args below meth c Z a0 n0 kb ws y bytes ml ret T L cells slots) {pc : Nat} {Ls : Array Slot} {x y' : Int32} {o : Int} {st : List Value} (hd : decode bytes pc = .ok (.if_icmp .ne o, 3)) (pcT : Nat) (ho : 0 ≤ (pc : Int) + o) (hT : ((pc : Int) + o).toNat = pcT) (pcF : Nat) (hF : pc + 3 = pcF)
    (k1 : ¬ x = y' → Go p e below Z n0 kg E P T (mkF m pcT Ls st)) (k2 : x = y' → Go p e below Z n0 kg E P T (mkF m pcF Ls st)) : Go p e below Z n0 kg E P T (mkF m pc Ls (.int y' :: .int x :: st)) := by
  subst hF
  by_cases h : x = y'
  · exact (k2 h).pre fun t q => XS.icmpNo w.here w.hx rfl (hb w.hby hd) rfl (XT.ii_ne_f h) q
  · exact (k1 h).pre fun t q => XS.icmpYes w.here w.hx rfl rfl (hb w.hby hd) rfl (XT.ii_ne_t h) ho hT q
theorem g_if_ne (w : Wd p l e R s m args below meth c Z a0 n0 kb ws y bytes ml ret T L cells slots) {pc : Nat} {Ls : Array Slot} {x : Int32} {o : Int} {st : List Value} (hd : decode bytes pc = .ok (.ifCond .ne o, 3)) (pcT : Nat) (ho : 0 ≤ (pc : Int) + o) (hT : ((pc : Int) + o).toNat = pcT) (pcF : Nat) (hF : pc + 3 = pcF)
    (k1 : ¬ x = 0 → Go p e below Z n0 kg E P T (mkF m pcT Ls st)) (k2 : x = 0 → Go p e below Z n0 kg E P T (mkF m pcF Ls st)) : Go p e below Z n0 kg E P T (mkF m pc Ls (.int x :: st)) := by
  subst hF
  by_cases h : x = 0
  · exact (k2 h).pre fun t q => XS.ifNo w.here w.hx rfl (hb w.hby hd) rfl (XT.i0_ne_f h) q
  · exact (k1 h).pre fun t q => XS.ifYes w.here w.hx rfl rfl (hb w.hby hd) rfl (XT.i0_ne_t h) ho hT q
theorem g_lif_ne (w : Wd p l e R s m args below meth c Z a0 n0 kb ws y bytes ml ret T L cells slots) {pc : Nat} {Ls : Array Slot} {x y' : Int64} {o : Int} {st : List Value} (hd : decode bytes pc = .ok (.ifCond .ne o, 3)) (pcT : Nat) (ho : 0 ≤ (pc : Int) + o) (hT : ((pc : Int) + o).toNat = pcT) (pcF : Nat) (hF : pc + 3 = pcF)
    (k1 : ¬ x = y' → Go p e below Z n0 kg E P T (mkF m pcT Ls st)) (k2 : x = y' → Go p e below Z n0 kg E P T (mkF m pcF Ls st)) : Go p e below Z n0 kg E P T (mkF m pc Ls (.int (XT.cmpL x y') :: st)) := by
  subst hF
  by_cases h : x = y'
  · exact (k2 h).pre fun t q => XS.ifNo w.here w.hx rfl (hb w.hby hd) rfl (XT.ll_ne_f h) q
  · exact (k1 h).pre fun t q => XS.ifYes w.here w.hx rfl rfl (hb w.hby hd) rfl (XT.ll_ne_t h) ho hT q
theorem g_icmp_lt (w : Wd p l e R s m args below meth c Z a0 n0 kb ws y bytes ml ret T L cells slots) {pc : Nat} {Ls : Array Slot} {x y' : Int32} {o : Int} {st : List Value} (hd : decode bytes pc = .ok (.if_icmp .lt o, 3)) (pcT : Nat) (ho : 0 ≤ (pc : Int) + o) (hT : ((pc : Int) + o).toNat = pcT) (pcF : Nat) (hF : pc + 3 = pcF)
    (k1 : x < y' → Go p e below Z n0 kg E P T (mkF m pcT Ls st)) (k2 : ¬ x < y' → Go p e below Z n0 kg E P T (mkF m pcF Ls st)) : Go p e below Z n0 kg E P T (mkF m pc Ls (.int y' :: .int x :: st)) := by
  subst hF
  by_cases h : x < y'
  · exact (k1 h).pre fun t q => XS.icmpYes w.here w.hx rfl rfl (hb w.hby hd) rfl (XT.ii_lt_t h) ho hT q
  · exact (k2 h).pre fun t q => XS.icmpNo w.here w.hx rfl (hb w.hby hd) rfl (XT.ii_lt_f h) q
theorem g_if_lt (w : Wd p l e R s m args below meth c Z a0 n0 kb ws y bytes ml ret T L cells slots) {pc : Nat} {Ls : Array Slot} {x : Int32} {o : Int} {st : List Value} (hd : decode bytes pc = .ok (.ifCond .lt o, 3)) (pcT : Nat) (ho : 0 ≤ (pc : Int) + o) (hT : ((pc : Int) + o).toNat = pcT) (pcF : Nat) (hF : pc + 3 = pcF)
    (k1 : x < 0 → Go p e below Z n0 kg E P T (mkF m pcT Ls st)) (k2 : ¬ x < 0 → Go p e below Z n0 kg E P T (mkF m pcF Ls st)) : Go p e below Z n0 kg E P T (mkF m pc Ls (.int x :: st)) := by
  subst hF
  by_cases h : x < 0
  · exact (k1 h).pre fun t q => XS.ifYes w.here w.hx rfl rfl (hb w.hby hd) rfl (XT.i0_lt_t h) ho hT q
  · exact (k2 h).pre fun t q => XS.ifNo w.here w.hx rfl (hb w.hby hd) rfl (XT.i0_lt_f h) q
theorem g_lif_lt (w : Wd p l e R s m args below meth c Z a0 n0 kb ws y bytes ml ret T L cells slots) {pc : Nat} {Ls : Array Slot} {x y' : Int64} {o : Int} {st : List Value} (hd : decode bytes pc = .ok (.ifCond .lt o, 3)) (pcT : Nat) (ho : 0 ≤ (pc : Int) + o) (hT : ((pc : Int) + o).toNat = pcT) (pcF : Nat) (hF : pc + 3 = pcF)
    (k1 : x < y' → Go p e below Z n0 kg E P T (mkF m pcT Ls st)) (k2 : ¬ x < y' → Go p e below Z n0 kg E P T (mkF m pcF Ls st)) : Go p e below Z n0 kg E P T (mkF m pc Ls (.int (XT.cmpL x y') :: st)) := by
  subst hF
  by_cases h : x < y'
  · exact (k1 h).pre fun t q => XS.ifYes w.here w.hx rfl rfl (hb w.hby hd) rfl (XT.ll_lt_t h) ho hT q
  · exact (k2 h).pre fun t q => XS.ifNo w.here w.hx rfl (hb w.hby hd) rfl (XT.ll_lt_f h) q
theorem g_icmp_ge (w : Wd p l e R s m args below meth c Z a0 n0 kb ws y bytes ml ret T L cells slots) {pc : Nat} {Ls : Array Slot} {x y' : Int32} {o : Int} {st : List Value} (hd : decode bytes pc = .ok (.if_icmp .ge o, 3)) (pcT : Nat) (ho : 0 ≤ (pc : Int) + o) (hT : ((pc : Int) + o).toNat = pcT) (pcF : Nat) (hF : pc + 3 = pcF)
    (k1 : ¬ x < y' → Go p e below Z n0 kg E P T (mkF m pcT Ls st)) (k2 : x < y' → Go p e below Z n0 kg E P T (mkF m pcF Ls st)) : Go p e below Z n0 kg E P T (mkF m pc Ls (.int y' :: .int x :: st)) := by
  subst hF
  by_cases h : x < y'
  · exact (k2 h).pre fun t q => XS.icmpNo w.here w.hx rfl (hb w.hby hd) rfl (XT.ii_ge_f h) q
  · exact (k1 h).pre fun t q => XS.icmpYes w.here w.hx rfl rfl (hb w.hby hd) rfl (XT.ii_ge_t h) ho hT q
theorem g_if_ge (w : Wd p l e R s m args below meth c Z a0 n0 kb ws y bytes ml ret T L cells slots) {pc : Nat} {Ls : Array Slot} {x : Int32} {o : Int} {st : List Value} (hd : decode bytes pc = .ok (.ifCond .ge o, 3)) (pcT : Nat) (ho : 0 ≤ (pc : Int) + o) (hT : ((pc : Int) + o).toNat = pcT) (pcF : Nat) (hF : pc + 3 = pcF)
    (k1 : ¬ x < 0 → Go p e below Z n0 kg E P T (mkF m pcT Ls st)) (k2 : x < 0 → Go p e below Z n0 kg E P T (mkF m pcF Ls st)) : Go p e below Z n0 kg E P T (mkF m pc Ls (.int x :: st)) := by
  subst hF
  by_cases h : x < 0
  · exact (k2 h).pre fun t q => XS.ifNo w.here w.hx rfl (hb w.hby hd) rfl (XT.i0_ge_f h) q
  · exact (k1 h).pre fun t q => XS.ifYes w.here w.hx rfl rfl (hb w.hby hd) rfl (XT.i0_ge_t h) ho hT q
theorem g_lif_ge (w : Wd p l e R s m args below meth c Z a0 n0 kb ws y bytes ml ret T L cells slots) {pc : Nat} {Ls : Array Slot} {x y' : Int64} {o : Int} {st : List Value} (hd : decode bytes pc = .ok (.ifCond .ge o, 3)) (pcT : Nat) (ho : 0 ≤ (pc : Int) + o) (hT : ((pc : Int) + o).toNat = pcT) (pcF : Nat) (hF : pc + 3 = pcF)
    (k1 : ¬ x < y' → Go p e below Z n0 kg E P T (mkF m pcT Ls st)) (k2 : x < y' → Go p e below Z n0 kg E P T (mkF m pcF Ls st)) : Go p e below Z n0 kg E P T (mkF m pc Ls (.int (XT.cmpL x y') :: st)) := by
  subst hF
  by_cases h : x < y'
  · exact (k2 h).pre fun t q => XS.ifNo w.here w.hx rfl (hb w.hby hd) rfl (XT.ll_ge_f h) q
  · exact (k1 h).pre fun t q => XS.ifYes w.here w.hx rfl rfl (hb w.hby hd) rfl (XT.ll_ge_t h) ho hT q
theorem g_icmp_gt (w : Wd p l e R s m args below meth c Z a0 n0 kb ws y bytes ml ret T L cells slots) {pc : Nat} {Ls : Array Slot} {x y' : Int32} {o : Int} {st : List Value} (hd : decode bytes pc = .ok (.if_icmp .gt o, 3)) (pcT : Nat) (ho : 0 ≤ (pc : Int) + o) (hT : ((pc : Int) + o).toNat = pcT) (pcF : Nat) (hF : pc + 3 = pcF)
    (k1 : y' < x → Go p e below Z n0 kg E P T (mkF m pcT Ls st)) (k2 : ¬ y' < x → Go p e below Z n0 kg E P T (mkF m pcF Ls st)) : Go p e below Z n0 kg E P T (mkF m pc Ls (.int y' :: .int x :: st)) := by
  subst hF
  by_cases h : y' < x
  · exact (k1 h).pre fun t q => XS.icmpYes w.here w.hx rfl rfl (hb w.hby hd) rfl (XT.ii_gt_t h) ho hT q
  · exact (k2 h).pre fun t q => XS.icmpNo w.here w.hx rfl (hb w.hby hd) rfl (XT.ii_gt_f h) q
theorem g_if_gt (w : Wd p l e R s m args below meth c Z a0 n0 kb ws y bytes ml ret T L cells slots) {pc : Nat} {Ls : Array Slot} {x : Int32} {o : Int} {st : List Value} (hd : decode bytes pc = .ok (.ifCond .gt o, 3)) (pcT : Nat) (ho : 0 ≤ (pc : Int) + o) (hT : ((pc : Int) + o).toNat = pcT) (pcF : Nat) (hF : pc + 3 = pcF)
    (k1 : 0 < x → Go p e below Z n0 kg E P T (mkF m pcT Ls st)) (k2 : ¬ 0 < x → Go p e below Z n0 kg E P T (mkF m pcF Ls st)) : Go p e below Z n0 kg E P T (mkF m pc Ls (.int x :: st)) := by
  subst hF
  by_cases h : 0 < x
  · exact (k1 h).pre fun t q => XS.ifYes w.here w.hx rfl rfl (hb w.hby hd) rfl (XT.i0_gt_t h) ho hT q
  · exact (k2 h).pre fun t q => XS.ifNo w.here w.hx rfl (hb w.hby hd) rfl (XT.i0_gt_f h) q
theorem g_lif_gt (w : Wd p l e R s m args below meth c Z a0 n0 kb ws y bytes ml ret T L cells slots) {pc : Nat} {Ls : Array Slot} {x y' : Int64} {o : Int} {st : List Value} (hd : decode bytes pc = .ok (.ifCond .gt o, 3)) (pcT : Nat) (ho : 0 ≤ (pc : Int) + o) (hT : ((pc : Int) + o).toNat = pcT) (pcF : Nat) (hF : pc + 3 = pcF)
    (k1 : y' < x → Go p e below Z n0 kg E P T (mkF m pcT Ls st)) (k2 : ¬ y' < x → Go p e below Z n0 kg E P T (mkF m pcF Ls st)) : Go p e below Z n0 kg E P T (mkF m pc Ls (.int (XT.cmpL x y') :: st)) := by
  subst hF
  by_cases h : y' < x
  · exact (k1 h).pre fun t q => XS.ifYes w.here w.hx rfl rfl (hb w.hby hd) rfl (XT.ll_gt_t h) ho hT q
  · exact (k2 h).pre fun t q => XS.ifNo w.here w.hx rfl (hb w.hby hd) rfl (XT.ll_gt_f h) q
theorem g_icmp_le (w : Wd p l e R s m args below meth c Z a0 n0 kb ws y bytes ml ret T L cells slots) {pc : Nat} {Ls : Array Slot} {x y' : Int32} {o : Int} {st : List Value} (hd : decode bytes pc = .ok (.if_icmp .le o, 3)) (pcT : Nat) (ho : 0 ≤ (pc : Int) + o) (hT : ((pc : Int) + o).toNat = pcT) (pcF : Nat) (hF : pc + 3 = pcF)
    (k1 : ¬ y' < x → Go p e below Z n0 kg E P T (mkF m pcT Ls st)) (k2 : y' < x → Go p e below Z n0 kg E P T (mkF m pcF Ls st)) : Go p e below Z n0 kg E P T (mkF m pc Ls (.int y' :: .int x :: st)) := by
  subst hF
  by_cases h : y' < x
  · exact (k2 h).pre fun t q => XS.icmpNo w.here w.hx rfl (hb w.hby hd) rfl (XT.ii_le_f h) q
  · exact (k1 h).pre fun t q => XS.icmpYes w.here w.hx rfl rfl (hb w.hby hd) rfl (XT.ii_le_t h) ho hT q
theorem g_if_le (w : Wd p l e R s m args below meth c Z a0 n0 kb ws y bytes ml ret T L cells slots) {pc : Nat} {Ls : Array Slot} {x : Int32} {o : Int} {st : List Value} (hd : decode bytes pc = .ok (.ifCond .le o, 3)) (pcT : Nat) (ho : 0 ≤ (pc : Int) + o) (hT : ((pc : Int) + o).toNat = pcT) (pcF : Nat) (hF : pc + 3 = pcF)
    (k1 : ¬ 0 < x → Go p e below Z n0 kg E P T (mkF m pcT Ls st)) (k2 : 0 < x → Go p e below Z n0 kg E P T (mkF m pcF Ls st)) : Go p e below Z n0 kg E P T (mkF m pc Ls (.int x :: st)) := by
  subst hF
  by_cases h : 0 < x
  · exact (k2 h).pre fun t q => XS.ifNo w.here w.hx rfl (hb w.hby hd) rfl (XT.i0_le_f h) q
  · exact (k1 h).pre fun t q => XS.ifYes w.here w.hx rfl rfl (hb w.hby hd) rfl (XT.i0_le_t h) ho hT q
theorem g_lif_le (w : Wd p l e R s m args below meth c Z a0 n0 kb ws y bytes ml ret T L cells slots) {pc : Nat} {Ls : Array Slot} {x y' : Int64} {o : Int} {st : List Value} (hd : decode bytes pc = .ok (.ifCond .le o, 3)) (pcT : Nat) (ho : 0 ≤ (pc : Int) + o) (hT : ((pc : Int) + o).toNat = pcT) (pcF : Nat) (hF : pc + 3 = pcF)
    (k1 : ¬ y' < x → Go p e below Z n0 kg E P T (mkF m pcT Ls st)) (k2 : y' < x → Go p e below Z n0 kg E P T (mkF m pcF Ls st)) : Go p e below Z n0 kg E P T (mkF m pc Ls (.int (XT.cmpL x y') :: st)) := by
  subst hF
  by_cases h : y' < x
  · exact (k2 h).pre fun t q => XS.ifNo w.here w.hx rfl (hb w.hby hd) rfl (XT.ll_le_f h) q
  · exact (k1 h).pre fun t q => XS.ifYes w.here w.hx rfl rfl (hb w.hby hd) rfl (XT.ll_le_t h) ho hT q
theorem g_acmp_eq (w : Wd p l e R s m args below meth c Z a0 n0 kb ws y bytes ml ret T L cells slots) {pc : Nat} {Ls : Array Slot} {x y' : Value} {o : Int} {st : List Value} (hd : decode bytes pc = .ok (.if_acmp .eq o, 3)) (hx' : x.isRef = true) (hy' : y'.isRef = true) (pcT : Nat) (ho : 0 ≤ (pc : Int) + o) (hT : ((pc : Int) + o).toNat = pcT) (pcF : Nat) (hF : pc + 3 = pcF)
    (k1 : x = y' → Go p e below Z n0 kg E P T (mkF m pcT Ls st)) (k2 : ¬ x = y' → Go p e below Z n0 kg E P T (mkF m pcF Ls st)) : Go p e below Z n0 kg E P T (mkF m pc Ls (y' :: x :: st)) := by
  subst hF
  by_cases h : x = y'
  · exact (k1 h).pre fun t q => XT.acmpYes w.here w.hx rfl rfl (hb w.hby hd) rfl hx' hy' (XT.aa_eq_t h) ho hT q
  · exact (k2 h).pre fun t q => XT.acmpNo w.here w.hx rfl (hb w.hby hd) rfl hx' hy' (XT.aa_eq_f h) q
theorem g_acmp_ne (w : Wd p l e R s m args below meth c Z a0 n0 kb ws y bytes ml ret T L cells slots) {pc : Nat} {Ls : Array Slot} {x y' : Value} {o : Int} {st : List Value} (hd : decode bytes pc = .ok (.if_acmp .ne o, 3)) (hx' : x.isRef = true) (hy' : y'.isRef = true) (pcT : Nat) (ho : 0 ≤ (pc : Int) + o) (hT : ((pc : Int) + o).toNat = pcT) (pcF : Nat) (hF : pc + 3 = pcF)
    (k1 : ¬ x = y' → Go p e below Z n0 kg E P T (mkF m pcT Ls st)) (k2 : x = y' → Go p e below Z n0 kg E P T (mkF m pcF Ls st)) : Go p e below Z n0 kg E P T (mkF m pc Ls (y' :: x :: st)) := by
  subst hF
  by_cases h : x = y'
  · exact (k2 h).pre fun t q => XT.acmpNo w.here w.hx rfl (hb w.hby hd) rfl hx' hy' (XT.aa_ne_f h) q
  · exact (k1 h).pre fun t q => XT.acmpYes w.here w.hx rfl rfl (hb w.hby hd) rfl hx' hy' (XT.aa_ne_t h) ho hT q
theorem g_ifnullT (w : Wd p l e R s m args below meth c Z a0 n0 kb ws y bytes ml ret T L cells slots) {pc : Nat} {Ls : Array Slot} {o : Int} {st : List Value} (hd : decode bytes pc = .ok (.ifnull o, 3)) (pcT : Nat) (ho : 0 ≤ (pc : Int) + o) (hT : ((pc : Int) + o).toNat = pcT) (k : Go p e below Z n0 kg E P T (mkF m pcT Ls st)) : Go p e below Z n0 kg E P T (mkF m pc Ls (.null :: st)) := k.pre fun t q => XS.ifnullYes w.here w.hx rfl rfl (hb w.hby hd) rfl ho hT q
theorem g_ifnullF (w : Wd p l e R s m args below meth c Z a0 n0 kb ws y bytes ml ret T L cells slots) {pc : Nat} {Ls : Array Slot} {r : Addr} {o : Int} {st : List Value} (hd : decode bytes pc = .ok (.ifnull o, 3)) (pcF : Nat) (hF : pc + 3 = pcF) (k : Go p e below Z n0 kg E P T (mkF m pcF Ls st)) : Go p e below Z n0 kg E P T (mkF m pc Ls (.ref r :: st)) := by
  subst hF
  exact k.pre fun t q => XS.ifnullNo w.here w.hx rfl (hb w.hby hd) rfl q
theorem g_ifnonnullT (w : Wd p l e R s m args below meth c Z a0 n0 kb ws y bytes ml ret T L cells slots) {pc : Nat} {Ls : Array Slot} {r : Addr} {o : Int} {st : List Value} (hd : decode bytes pc = .ok (.ifnonnull o, 3)) (pcT : Nat) (ho : 0 ≤ (pc : Int) + o) (hT : ((pc : Int) + o).toNat = pcT) (k : Go p e below Z n0 kg E P T (mkF m pcT Ls st)) : Go p e below Z n0 kg E P T (mkF m pc Ls (.ref r :: st)) := k.pre fun t q => XT.ifnonnullYes w.here w.hx rfl rfl (hb w.hby hd) rfl ho hT q
theorem g_ifnonnullF (w : Wd p l e R s m args below meth c Z a0 n0 kb ws y bytes ml ret T L cells slots) {pc : Nat} {Ls : Array Slot} {o : Int} {st : List Value} (hd : decode bytes pc = .ok (.ifnonnull o, 3)) (pcF : Nat) (hF : pc + 3 = pcF) (k : Go p e below Z n0 kg E P T (mkF m pcF Ls st)) : Go p e below Z n0 kg E P T (mkF m pc Ls (.null :: st)) := by
  subst hF
  exact k.pre fun t q => XT.ifnonnullNo w.here w.hx rfl (hb w.hby hd) rfl q
/-! ## calls -/
theorem g_initO (w : Wd p l e R s m args below meth c Z a0 n0 kb ws y bytes ml ret T L cells slots) {pc : Nat} {Ls : Array Slot} {st : List Value} {idx : Nat} {a : Addr} (hd : decode bytes pc = .ok (.invokespecial idx, 3)) (k1 : Nat) (hk1 : ws[k1]? = some (.methodLink y.cls idx Lib.objectInit)) (k2 : Nat) (hk2 : ws[k2]? = some (.instanceMethod Lib.objectInit)) (k3 : Nat) (hk3 : ws[k3]? = some (.code Lib.objectInit ⟨#[0xb1]⟩ 1 none))
    (hsz : Ls.size = ml) (hf : 1 ≤ R.frames) (W : Nat) (hW : (st.map fun v => v.category).sum = W) (hl : W + 12 ≤ R.locals) (pc' : Nat) (hp : pc + 3 = pc')
    (kt : ∀ T', Wd p l e R s m args below meth c Z a0 n0 kb ws y bytes ml ret T' L cells slots → Go p e below Z n0 kg E P T' (mkF m pc' Ls st)) : Go p e below Z n0 kg E P T (mkF m pc Ls (.ref a :: st)) := by
  subst hp
  have hk1' := w.hw hk1
  have hk2' := w.hw hk2
  have hk3' := w.hw hk3
  obtain ⟨⟨locs, X, N⟩, H, hx, hZ, hown, hby, hml, hret, hlk, hnm, hws⟩ := w
  obtain ⟨T', X', e', st'⟩ := initO X hx hZ hown hk1' hk2' hk3' rfl (g := mkF m pc Ls (.ref a :: st)) rfl (by rw [hml]; exact hsz) rfl (hb hby hd) hf (W := W) (by show 2 * 0 + _ ≤ _; rw [hW]; omega) hl
  exact (kt T' ⟨⟨locs, X', N⟩, by rw [e']; exact H, hx, hZ, hown, hby, hml, hret, hlk, hnm, hws⟩).pre st'
theorem Con.back {y' : MethodName} {bytes' : ByteArray} {ml' : Nat} {ret' : Option FieldType} {rm : Room} {as' : Array Value} {P' : Option Value → HL → Prop} {h : Heap} {len W : Nat} (C : Con l y' bytes' ml' ret' rm Z n0 as' L P') (H : Hp Z n0 kb h L) (hZ : Z.Warmed39 s.vm) (wc : (Cond.code y' bytes' ml' ret').before a0 Z = true) (wz : (Cond.initialized y'.cls).before a0 Z = true) (hf : rm.frames + 1 ≤ R.frames) (hl : W + (ml' + 11) + rm.locals ≤ R.locals) :
    Back l R p e below s args y' len W (fun A a => a = as' ∧ A.U.heap = h ∧ A.cells + rm.cells ≤ R.cells ∧ A.slots + rm.slots ≤ R.slots)
      (fun A _ v B => ∃ Lc, (Fr n0 Lc ∧ ∃ L', Hp Z n0 kb B.U.heap L' ∧ P' v L') ∧ B.locs = A.locs ++ Lc ∧ B.cells = A.cells + rm.cells ∧ B.slots = A.slots + rm.slots) :=
  backOf (Q := fun v hh Lc => Fr n0 Lc ∧ ∃ L', Hp Z n0 kb hh L' ∧ P' v L') (C [] kb h H) hZ wc wz hf hl
/-- behind a call -/
theorem g_behind {rm : Room} {P' : Option Value → HL → Prop} {pc : Nat} {Ls : Array Slot} {rest : List Value} {v : Option Value} {B : Pt} {locs : List Loc}
    (N : Fr n0 locs) (hx : p.tables.exec = Jvm.exec) (hZ : Z.Warmed39 s.vm) (hown : s.vm.findClass y.cls = some m.cls) (hby : c.code = bytes) (hml : c.maxLocals = ml) (hret : meth.sig.returnType = ret) (hlk : meth.locks = false) (hnm : meth.name = y.name) (hws : ∀ d ∈ ws, d.before a0 Z = true)
    (X' : Stand p l e R s m args below meth c B.U B.locs B.cells B.slots)
    (hQ : ∃ Lc, (Fr n0 Lc ∧ ∃ L', Hp Z n0 kb B.U.heap L' ∧ P' v L') ∧ Pt.locs B = locs ++ Lc ∧ Pt.cells B = cells + rm.cells ∧ Pt.slots B = slots + rm.slots)
    (kt : ∀ T' v L', Wd p l e R s m args below meth c Z a0 n0 kb ws y bytes ml ret T' L' (cells + rm.cells) (slots + rm.slots) → P' v L' → Go p e below Z n0 kg E P T' (mkF m pc Ls (pushV v rest))) :
    Go p e below Z n0 kg E P B.U (mkF m pc Ls (v.toList ++ rest)) := by
  obtain ⟨Lc, ⟨N', L', H', hP⟩, h1, h2, h3⟩ := hQ
  obtain ⟨U, bl, bc, bs⟩ := B
  dsimp only [Pt.U, Pt.locs, Pt.cells, Pt.slots] at h1 h2 h3 X' H' ⊢
  subst h1 h2 h3
  rw [pushV_eq]
  exact kt U v L' ⟨⟨_, X', Fr.app N N'⟩, H', hx, hZ, hown, hby, hml, hret, hlk, hnm, hws⟩ hP
theorem g_static (w : Wd p l e R s m args below meth c Z a0 n0 kb ws y bytes ml ret T L cells slots) {pc : Nat} {Ls : Array Slot} {st : List Value} {idx : Nat} {y' : MethodName} {bytes' : ByteArray} {ml' : Nat} {ret' : Option FieldType} {rm : Room} {P' : Option Value → HL → Prop} {ps : List FieldType} {rt : Option FieldType} {argsL rest : List Value}
    (C : Con l y' bytes' ml' ret' rm Z n0 argsL.toArray L P') (hd : decode bytes pc = .ok (.invokestatic idx, 3)) (k1 : Nat) (hk1 : ws[k1]? = some (.methodLink y.cls idx y')) (k2 : Nat) (hk2 : ws[k2]? = some (.static y')) (k3 : Nat) (hk3 : ws[k3]? = some (.initialized y'.cls)) (k4 : Nat) (hk4 : ws[k4]? = some (.code y' bytes' ml' ret'))
    (hy : y'.cls ≠ "java/lang/invoke/MethodHandle" ∧ y'.cls ≠ "java/lang/invoke/VarHandle") (hpd : parseMethodDescriptor y'.desc = some ⟨ps, rt⟩) (hlen : argsL.length = ps.length) (hst : st = argsL.reverse ++ rest) (hsz : Ls.size = ml) (W : Nat) (hW : (rest.map fun v => v.category).sum = W) (hf : rm.frames + 1 ≤ R.frames) (hl : W + (ml' + 11) + rm.locals ≤ R.locals)
    (hc : cells + rm.cells ≤ R.cells) (hs : slots + rm.slots ≤ R.slots) (pc' : Nat) (hp : pc + 3 = pc')
    (kt : ∀ T' v L', Wd p l e R s m args below meth c Z a0 n0 kb ws y bytes ml ret T' L' (cells + rm.cells) (slots + rm.slots) → P' v L' → Go p e below Z n0 kg E P T' (mkF m pc' Ls (pushV v rest))) : Go p e below Z n0 kg E P T (mkF m pc Ls st) := by
  subst hp hst
  have hk1' := w.hw hk1
  have hk2' := w.hw hk2
  have hk3' := w.hw hk3
  have hk4' := w.hw hk4
  obtain ⟨⟨locs, X, N⟩, H, hx, hZ, hown, hby, hml, hret, hlk, hnm, hws⟩ := w
  obtain ⟨v, vm₁, B, -, X', hQ, st'⟩ := Jvm.LawKit.callS X hx hown (mvT hZ hk1') (mvT hZ hk2') (mvT hZ hk3') (mvT hZ hk4') hy (Con.back C H hZ hk4' hk3' hf hl) (g := mkF m pc Ls (argsL.reverse ++ rest)) rfl (by rw [hml]; exact hsz) (argsL := argsL) (rest := rest) (lenOf hpd hlen) rfl (by show 2 * 0 + _ ≤ _; rw [hW]; omega) (hb hby hd) (fun _ _ => ⟨rfl, rfl, hc, hs⟩)
  exact (g_behind (rm := rm) (P' := P') N hx hZ hown hby hml hret hlk hnm hws X' hQ kt).pre st'
theorem g_ctor (w : Wd p l e R s m args below meth c Z a0 n0 kb ws y bytes ml ret T L cells slots) {pc : Nat} {Ls : Array Slot} {st : List Value} {idx : Nat} {y' : MethodName} {bytes' : ByteArray} {ml' : Nat} {rm : Room} {P' : Option Value → HL → Prop} {ps : List FieldType} {rt : Option FieldType} {a : Addr} {argsL rest : List Value}
    (C : Con l y' bytes' ml' none rm Z n0 (Value.ref a :: argsL).toArray L P') (hd : decode bytes pc = .ok (.invokespecial idx, 3)) (k1 : Nat) (hk1 : ws[k1]? = some (.methodLink y.cls idx y')) (k2 : Nat) (hk2 : ws[k2]? = some (.instanceMethod y')) (k3 : Nat) (hk3 : ws[k3]? = some (.initialized y'.cls)) (k4 : Nat) (hk4 : ws[k4]? = some (.code y' bytes' ml' none))
    (hyn : y'.name = "<init>") (hy : y'.cls ≠ "java/lang/invoke/MethodHandle" ∧ y'.cls ≠ "java/lang/invoke/VarHandle") (hpd : parseMethodDescriptor y'.desc = some ⟨ps, rt⟩) (hlen : argsL.length = ps.length) (hst : st = argsL.reverse ++ .ref a :: rest) (hsz : Ls.size = ml) (W : Nat) (hW : (rest.map fun v => v.category).sum = W) (hf : rm.frames + 1 ≤ R.frames) (hl : W + (ml' + 11) + rm.locals ≤ R.locals)
    (hc : cells + rm.cells ≤ R.cells) (hs : slots + rm.slots ≤ R.slots) (pc' : Nat) (hp : pc + 3 = pc')
    (kt : ∀ T' v L', Wd p l e R s m args below meth c Z a0 n0 kb ws y bytes ml ret T' L' (cells + rm.cells) (slots + rm.slots) → P' v L' → Go p e below Z n0 kg E P T' (mkF m pc' Ls (pushV v rest))) : Go p e below Z n0 kg E P T (mkF m pc Ls st) := by
  subst hp hst
  have hk1' := w.hw hk1
  have hk2' := w.hw hk2
  have hk3' := w.hw hk3
  have hk4' := w.hw hk4
  obtain ⟨⟨locs, X, N⟩, H, hx, hZ, hown, hby, hml, hret, hlk, hnm, hws⟩ := w
  obtain ⟨v, vm₁, B, -, X', hQ, st'⟩ := X.specialBack hx hyn hown (mvT hZ hk1') (mvT hZ hk2') (mvT hZ hk4') hy (Con.back C H hZ hk4' hk3' hf hl) (g := mkF m pc Ls (argsL.reverse ++ .ref a :: rest)) rfl (by rw [hml]; exact hsz) (Steps.refl _) (a := a) (argsL := argsL) (rest := rest) (lenOf hpd hlen) rfl (by show 2 * 0 + _ ≤ _; rw [hW]; omega) (hb hby hd) (fun _ _ => ⟨rfl, rfl, hc, hs⟩)
  exact (g_behind (rm := rm) (P' := P') N hx hZ hown hby hml hret hlk hnm hws X' hQ kt).pre fun t q => st'.trans q
theorem g_virt (w : Wd p l e R s m args below meth c Z a0 n0 kb ws y bytes ml ret T L cells slots) {pc : Nat} {Ls : Array Slot} {st : List Value} {idx : Nat} {y' : MethodName} {bytes' : ByteArray} {ml' : Nat} {ret' : Option FieldType} {rm : Room} {P' : Option Value → HL → Prop} {ps : List FieldType} {rt : Option FieldType} {a : Addr} {Cn : String} {fs : List FldE} {argsL rest : List Value}
    (C : Con l y' bytes' ml' ret' rm Z n0 (Value.ref a :: argsL).toArray L P') (hd : decode bytes pc = .ok (.invokevirtual idx, 3)) (i : Nat) (hi : L[i]? = some (a, .inl (Cn, fs))) (k1 : Nat) (hk1 : ws[k1]? = some (.methodLink y.cls idx y')) (k2 : Nat) (hk2 : ws[k2]? = some (.declares y')) (k3 : Nat) (hk3 : ws[k3]? = some (.initialized y'.cls)) (k4 : Nat) (hk4 : ws[k4]? = some (.code y' bytes' ml' ret'))
    (k5 : Nat) (hk5 : ws[k5]? = some (.selects Cn y' y')) (k6 : Nat) (hk6 : ws[k6]? = some (.instanceMethod y'))
    (hy : y'.cls ≠ "java/lang/invoke/MethodHandle" ∧ y'.cls ≠ "java/lang/invoke/VarHandle") (hpd : parseMethodDescriptor y'.desc = some ⟨ps, rt⟩) (hlen : argsL.length = ps.length) (hst : st = argsL.reverse ++ .ref a :: rest) (hsz : Ls.size = ml) (W : Nat) (hW : (rest.map fun v => v.category).sum = W) (hf : rm.frames + 1 ≤ R.frames) (hl : W + (ml' + 11) + rm.locals ≤ R.locals)
    (hc : cells + rm.cells ≤ R.cells) (hs : slots + rm.slots ≤ R.slots) (pc' : Nat) (hp : pc + 3 = pc')
    (kt : ∀ T' v L', Wd p l e R s m args below meth c Z a0 n0 kb ws y bytes ml ret T' L' (cells + rm.cells) (slots + rm.slots) → P' v L' → Go p e below Z n0 kg E P T' (mkF m pc' Ls (pushV v rest))) : Go p e below Z n0 kg E P T (mkF m pc Ls st) := by
  subst hp hst
  have hk1' := w.hw hk1
  have hk2' := w.hw hk2
  have hk3' := w.hw hk3
  have hk4' := w.hw hk4
  have hk5' := w.hw hk5
  have hk6' := w.hw hk6
  obtain ⟨⟨locs, X, N⟩, H, hx, hZ, hown, hby, hml, hret, hlk, hnm, hws⟩ := w
  obtain ⟨cq, kq, qa, qb, qc⟩ := isOf hZ rfl (H.obj hi).1
  obtain ⟨v, vm₁, B, -, X', hQ, st'⟩ := X.virtualBack hx (y := y') (z := y') hown (mvT hZ hk1') (mvT hZ hk2') (notFace_of_selects (args := #[]) (mvT hZ hk5')) (mvT hZ hk5') (mvT hZ hk6') hy (Con.back C H hZ hk4' hk3' hf hl) qa qc (g := mkF m pc Ls (argsL.reverse ++ .ref a :: rest)) rfl (by rw [hml]; exact hsz) (Steps.refl _) (argsL := argsL) (rest := rest) (lenOf hpd hlen) rfl (by show 2 * 0 + _ ≤ _; rw [hW]; omega) (hb hby hd) (fun _ _ => ⟨rfl, rfl, hc, hs⟩)
  exact (g_behind (rm := rm) (P' := P') N hx hZ hown hby hml hret hlk hnm hws X' hQ kt).pre fun t q => st'.trans q
theorem g_virtO (w : Wd p l e R s m args below meth c Z a0 n0 kb ws y bytes ml ret T L cells slots) {pc : Nat} {Ls : Array Slot} {st : List Value} {idx : Nat} {y' : MethodName} {bytes' : ByteArray} {ml' : Nat} {ret' : Option FieldType} {rm : Room} {P' : Option Value → HL → Prop} {ps : List FieldType} {rt : Option FieldType} {a : Addr} {Cn : String} {argsL rest : List Value}
    (C : Con l y' bytes' ml' ret' rm Z n0 (Value.ref a :: argsL).toArray L P') (hd : decode bytes pc = .ok (.invokevirtual idx, 3)) (EO : Exa Z Z.heap a Cn) (k1 : Nat) (hk1 : ws[k1]? = some (.methodLink y.cls idx y')) (k2 : Nat) (hk2 : ws[k2]? = some (.declares y')) (k3 : Nat) (hk3 : ws[k3]? = some (.initialized y'.cls)) (k4 : Nat) (hk4 : ws[k4]? = some (.code y' bytes' ml' ret'))
    (k5 : Nat) (hk5 : ws[k5]? = some (.selects Cn y' y')) (k6 : Nat) (hk6 : ws[k6]? = some (.instanceMethod y'))
    (hy : y'.cls ≠ "java/lang/invoke/MethodHandle" ∧ y'.cls ≠ "java/lang/invoke/VarHandle") (hpd : parseMethodDescriptor y'.desc = some ⟨ps, rt⟩) (hlen : argsL.length = ps.length) (hst : st = argsL.reverse ++ .ref a :: rest) (hsz : Ls.size = ml) (W : Nat) (hW : (rest.map fun v => v.category).sum = W) (hf : rm.frames + 1 ≤ R.frames) (hl : W + (ml' + 11) + rm.locals ≤ R.locals)
    (hc : cells + rm.cells ≤ R.cells) (hs : slots + rm.slots ≤ R.slots) (pc' : Nat) (hp : pc + 3 = pc')
    (kt : ∀ T' v L', Wd p l e R s m args below meth c Z a0 n0 kb ws y bytes ml ret T' L' (cells + rm.cells) (slots + rm.slots) → P' v L' → Go p e below Z n0 kg E P T' (mkF m pc' Ls (pushV v rest))) : Go p e below Z n0 kg E P T (mkF m pc Ls st) := by
  subst hp hst
  have hk1' := w.hw hk1
  have hk2' := w.hw hk2
  have hk3' := w.hw hk3
  have hk4' := w.hw hk4
  have hk5' := w.hw hk5
  have hk6' := w.hw hk6
  obtain ⟨⟨locs, X, N⟩, H, hx, hZ, hown, hby, hml, hret, hlk, hnm, hws⟩ := w
  obtain ⟨cq, kq, qa, qb, qc⟩ := isOf hZ rfl (EO.ext H.old)
  obtain ⟨v, vm₁, B, -, X', hQ, st'⟩ := X.virtualBack hx (y := y') (z := y') hown (mvT hZ hk1') (mvT hZ hk2') (notFace_of_selects (args := #[]) (mvT hZ hk5')) (mvT hZ hk5') (mvT hZ hk6') hy (Con.back C H hZ hk4' hk3' hf hl) qa qc (g := mkF m pc Ls (argsL.reverse ++ .ref a :: rest)) rfl (by rw [hml]; exact hsz) (Steps.refl _) (argsL := argsL) (rest := rest) (lenOf hpd hlen) rfl (by show 2 * 0 + _ ≤ _; rw [hW]; omega) (hb hby hd) (fun _ _ => ⟨rfl, rfl, hc, hs⟩)
  exact (g_behind (rm := rm) (P' := P') N hx hZ hown hby hml hret hlk hnm hws X' hQ kt).pre fun t q => st'.trans q
theorem g_priv (w : Wd p l e R s m args below meth c Z a0 n0 kb ws y bytes ml ret T L cells slots) {pc : Nat} {Ls : Array Slot} {st : List Value} {idx nI : Nat} {y' : MethodName} {bytes' : ByteArray} {ml' : Nat} {ret' : Option FieldType} {rm : Room} {P' : Option Value → HL → Prop} {ps : List FieldType} {rt : Option FieldType} {a : Addr} {Cn : String} {fs : List FldE} {argsL rest : List Value}
    (C : Con l y' bytes' ml' ret' rm Z n0 (Value.ref a :: argsL).toArray L P') (hd : decode bytes pc = .ok (.invokevirtual idx, 3)) (i : Nat) (hi : L[i]? = some (a, .inl (Cn, fs))) (k1 : Nat) (hk1 : ws[k1]? = some (.methodLink y.cls idx y')) (k2 : Nat) (hk2 : ws[k2]? = some (.instanceMethod y')) (k3 : Nat) (hk3 : ws[k3]? = some (.initialized y'.cls)) (k4 : Nat) (hk4 : ws[k4]? = some (.code y' bytes' ml' ret'))
    (k5 : Nat) (hk5 : ws[k5]? = some (.privateMethod y')) (k6 : Nat) (hk6 : ws[k6]? = some (.instantiable y'.cls nI))
    (hy : y'.cls ≠ "java/lang/invoke/MethodHandle" ∧ y'.cls ≠ "java/lang/invoke/VarHandle") (hpd : parseMethodDescriptor y'.desc = some ⟨ps, rt⟩) (hlen : argsL.length = ps.length) (hst : st = argsL.reverse ++ .ref a :: rest) (hsz : Ls.size = ml) (W : Nat) (hW : (rest.map fun v => v.category).sum = W) (hf : rm.frames + 1 ≤ R.frames) (hl : W + (ml' + 11) + rm.locals ≤ R.locals)
    (hc : cells + rm.cells ≤ R.cells) (hs : slots + rm.slots ≤ R.slots) (pc' : Nat) (hp : pc + 3 = pc')
    (kt : ∀ T' v L', Wd p l e R s m args below meth c Z a0 n0 kb ws y bytes ml ret T' L' (cells + rm.cells) (slots + rm.slots) → P' v L' → Go p e below Z n0 kg E P T' (mkF m pc' Ls (pushV v rest))) : Go p e below Z n0 kg E P T (mkF m pc Ls st) := by
  subst hp hst
  have hk1' := w.hw hk1
  have hk2' := w.hw hk2
  have hk3' := w.hw hk3
  have hk4' := w.hw hk4
  have hk5' := w.hw hk5
  have hk6' := w.hw hk6
  obtain ⟨⟨locs, X, N⟩, H, hx, hZ, hown, hby, hml, hret, hlk, hnm, hws⟩ := w
  obtain ⟨cl, hcl, hst0⟩ := (H.obj hi).1.cell
  have hpa : s.PrivateAt y' := Cond.privateMethod_at (mvP hZ hk5' (args := #[]))
  have hin : (Cond.instanceMethod y').before args s = true := mvT hZ hk2'
  have hic : (Cond.instantiable y'.cls nI).before args s = true := mvT hZ hk6'
  obtain ⟨cI, kI, i1, i2, i3, i4, -⟩ := Cond.instantiable_spec hic
  have hsel : (Cond.selects y'.cls y' y').before args s = true := selects_self_of_private i1 i2 (Bool.or_eq_false_iff.mp i4).1 hpa hin hy
  obtain ⟨v, vm₁, B, -, X', hQ, st'⟩ := X.privateBack hx (y := y') hown (mvT hZ hk1') hin hsel hpa (mvT hZ hk4') hy (Con.back C H hZ hk4' hk3' hf hl) (g := mkF m pc Ls (argsL.reverse ++ .ref a :: rest)) rfl (by rw [hml]; exact hsz) (Steps.refl _) (a := a) hcl hst0 (argsL := argsL) (rest := rest) (lenOf hpd hlen) rfl (by show 2 * 0 + _ ≤ _; rw [hW]; omega) (hb hby hd) (fun _ _ => ⟨rfl, rfl, hc, hs⟩)
  exact (g_behind (rm := rm) (P' := P') N hx hZ hown hby hml hret hlk hnm hws X' hQ kt).pre fun t q => st'.trans q
/-! ## from the case's words to the contract of the law -/
theorem fr_end {Lc : List Loc} {v : Option Value} {u : State} (N : Fr s.heap.size Lc) (hq : FrameEnd s (.returned v) u Lc kc ks) (L0 : List Loc) {kc' ks' : Nat} (h1 : kc ≤ kc') (h2 : ks ≤ ks') : FrameEnd s (.returned v) u L0 kc' ks' :=
  ⟨hq.1, hq.2.1, (hq.2.2.sift fun y hy => Or.inr (N y hy)).mono h1 h2⟩
end Walk
end Jvm.OwnW
/-! ## the wide end: String constants may be resolved and interned; the Stand lies over the start with other tables -/
namespace Jvm.OwnW
open Jvm Jvm.ClassFile Sem Op Lib Jvm.Free Jvm.Stand Jvm.LawKit Jvm.RoadKit
def EndW (s : State) (kc ks : Nat) (v : Option Value) (t : State) (Lc : List Loc) : Prop := ReturnedEndW s (.returned v) t Lc kc ks
def ConW (l : Launch) (y : MethodName) (bytes : ByteArray) (ml : Nat) (ret : Option FieldType) (rm : Room) (Z : State) (n0 : Nat) (as' : Array Value) (L : HL) (P : Option Value → HL → Prop) : Prop :=
  ∀ (wx : List Cond) (kb : Nat) (h : Heap), Hp Z n0 kb h L → MetFree l y (head1 (Cond.code y bytes ml ret :: wx) rm) (fun a U => a = as' ∧ Z.Warmed39 U.vm ∧ U.heap = h) (fun _ _ _ _ _ => True)
    (fun _ U o U' => ∃ v Lc, o = .returned v ∧ (Fr n0 Lc ∧ ∃ L', Hp Z n0 0 U'.heap L' ∧ P v L') ∧ ReturnedEndW U o U' Lc rm.cells rm.slots)
section Wide
variable {p : Program} {l : Launch} {e : Env} {R : Room} {s : State} {m : MethodId} {args : Array Value} {below : List Frame} {meth : Method} {c : Code} {Z : State} {a0 : Array Value} {n0 kb kg : Nat} {ws : List Cond} {y : MethodName} {bytes : ByteArray} {ml : Nat} {ret : Option FieldType} {T T' : State} {L : HL} {cells slots : Nat} {P : Option Value → HL → Prop} {E : Option Value → State → List Loc → Prop} {kc ks : Nat} {vm0 : Vm}
theorem ConW.of {rm : Room} {as' : Array Value} (hpl : plainFor y = true) (hws : ∀ d ∈ ws, d.before a0 Z = true)
    (body : ∀ {p : Program} {e : Env} {s : State} {m : MethodId} {below : List Frame} {meth : Method} {c : Code} {T : State} {kb : Nat} {vm0 : Vm}, s.Since vm0 kb → Wd p l e rm (s.setVm vm0) m as' below meth c Z a0 n0 kb ws y bytes ml ret T L 0 0 → Go p e below Z n0 0 (EndW s rm.cells rm.slots) P T (entryFrame m as' ml)) :
    ConW l y bytes ml ret rm Z n0 as' L P := by
  intro wx kb h hH
  refine MetFree.of_bodySF hpl hisR ?_
  intro p e s m args below meth c s₁ Bd hml hP hK
  obtain ⟨rfl, hZ, hh⟩ := hP
  have X0 : Stand p l e rm (s.setVm s.vm) m args below meth c s₁ [] 0 0 := Stand.of_body Bd
  have e0 : s₁.heap = h := by rw [← hh, Bd.state]; rfl
  obtain ⟨s₂, o, h1, h2, h3, v, Lc, rfl, h5, h6⟩ := body (s := s) (vm0 := s.vm) ((State.WarmedH.refl s).since kb) ⟨⟨[], X0, Fr.nil n0⟩, by rw [e0]; exact hH, Bd.exec, hZ, findClass_of_methodNamed Bd.named, Bd.bytes, hml, Bd.returns, Bd.notSynchronized, (name_of_methodNamed Bd.named Bd.method).1, hws⟩
  obtain ⟨h5a, L', h5b, h5c⟩ := h5
  exact ⟨s₂, _, h1, h2, h3, v, Lc, rfl, ⟨h5a, L', h5b, h5c⟩, h6⟩
theorem g_ldcS (w : Wd p l e R (s.setVm vm0) m args below meth c Z a0 n0 kb ws y bytes ml ret T L cells slots) (hS : s.Since vm0 kb) {pc : Nat} {Ls : Array Slot} {st : List Value} {idx : Nat} {text : String} (hd : decode bytes pc = .ok (.ldc idx, 2)) (k : Nat) (hk : ws[k]? = some (.stringLink y.cls idx text)) (hat : ∀ d ∈ Bundle.stringAtoms, d ∈ ws) (n : Nat) (hn : 4 * text.toList.length ≤ n) (hbig : n ≤ 536870912) (hc : cells + 2 ≤ R.cells) (hs : slots + (n + 4) ≤ R.slots) (pc' : Nat) (hp : pc + 2 = pc')
    (kt : ∀ T' (vm1 : Vm) (kb1 : Nat) (a : Addr), s.Since vm1 kb1 → Wd p l e R (s.setVm vm1) m args below meth c Z a0 n0 kb1 ws y bytes ml ret T' L (cells + 2) (slots + (n + 4)) → Go p e below Z n0 kg E P T' (mkF m pc' Ls (.ref a :: st))) : Go p e below Z n0 kg E P T (mkF m pc Ls st) := by
  subst hp
  have hk' := w.hw hk
  obtain ⟨⟨locs, X, N⟩, H, hx, hZ, hown, hby, hml, hret, hlk, hnm, hws⟩ := w
  obtain ⟨a, T', h', k1, X', e', EX, hS', hk1, hZ', hown', st'⟩ := ldcS X hx hZ hown hk' (fun d hd => hws d (hat d hd)) rfl hS H.1.2 (g := mkF m pc Ls st) rfl (hb hby hd) hn hbig hc hs
  refine (kt T' T'.vm k1 a hS' ⟨⟨locs, X', N⟩, ?_, hx, hZ', hown', hby, hml, hret, hlk, hnm, hws⟩).pre st'
  rw [e']
  refine ⟨⟨H.1.1.ext EX, hk1⟩, fun i b o q => ⟨H.ge q, (H.at q).ext EX⟩, H.2.2⟩
theorem g_iretnW {t : FieldType} (w : Wd p l e R (s.setVm vm0) m args below meth c Z a0 n0 kb ws y bytes ml (some t) T L cells slots) (hS : s.Since vm0 kb) (ht : t = .boolean ∨ t = .byte ∨ t = .char ∨ t = .short) {pc : Nat} {Ls : Array Slot} {z : Int32} {st : List Value} (hd : decode bytes pc = .ok (.ireturn, 1)) (hc : cells ≤ kc) (hs : slots ≤ ks) (hP : P (some (.int (nar t z))) L) :
    Go p e below Z n0 0 (EndW s kc ks) P T (mkF m pc Ls (.int z :: st)) := by
  obtain ⟨⟨locs, X, N⟩, H, hx, hZ, hown, hby, hml, hret, hlk, hnm, hws⟩ := w
  obtain ⟨fs, hr, h1, h2, h3, h4⟩ := X.leave (v := some (.int (nar t z))) (fun q => by rw [hret] at q; cases q) hlk
  obtain ⟨i1, i2, i3⟩ := hS.ended (U := T.setFrames fs) h3 H.1.2 h4
  exact ⟨_, _, retN X hx hret ht (hb hby hd) hr, h1, h2, _, locs, rfl, ⟨N, L, H.lower (Nat.zero_le _), hP⟩, ⟨_, rfl⟩, i1, i2, i3.mono hc hs⟩
theorem fr_endW {Lc : List Loc} {v : Option Value} {u : State} (N : Fr s.heap.size Lc) (hq : ReturnedEndW s (.returned v) u Lc kc ks) (L0 : List Loc) {kc' ks' : Nat} (h1 : kc ≤ kc') (h2 : ks ≤ ks') : ReturnedEndW s (.returned v) u L0 kc' ks' :=
  ⟨hq.1, hq.2.1, hq.2.2.1, (hq.2.2.2.sift fun y hy => Or.inr (N y hy)).mono h1 h2⟩
end Wide
end Jvm.OwnW
namespace Jvm.Pilot.@@N@@
open Jvm Jvm.ClassFile Sem Op Lib Jvm.Free Jvm.Stand Jvm.LawKit Jvm.RoadKit Bundle Jvm.OwnW Jvm.Pilot.@@N@@.Jvm.D
def own_min (a b : Int64) : Int64 := if b < a then b else a
def own_bd (u q : Int64) : Int64 := if q = 9223372036854775807 then u &&& 9223372036854775807 else (u &&& 9223372036854775807) % (q + 1)
def own_pos (w : Int32) : Prop := 1 ≤ w.toInt ∧ w.toInt ≤ 8
theorem own_posOf (z : Int32) : own_pos ((z &&& 7) + 1) := by
  have h := c_mask z 7 3 (by decide) (by decide)
  rw [show ((2 ^ 3 : Nat) : Int) = 8 from rfl] at h
  have a := c_iadd (z &&& 7) 1
  have b := ((z &&& 7) + 1).toInt_lt
  have c := ((z &&& 7) + 1).le_toInt
  have k1 : (1 : Int32).toInt = 1 := rfl
  unfold own_pos
  omega
theorem own_nnOf (z : Int64) : 0 ≤ (z &&& 9223372036854775807).toInt := by
  have h := c_maskL z 9223372036854775807 63 (by decide) (by decide)
  rw [show ((2 ^ 63 : Nat) : Int) = 9223372036854775808 from rfl] at h
  omega
theorem own_l {w : Int32} : w.toInt64.toInt = w.toInt := c_i2l w
theorem own_wz {w : Int32} (h : own_pos w) : w.toInt64 ≠ 0 := fun q => by
  have e := own_l (w := w)
  rw [q] at e
  have k0 : (0 : Int64).toInt = 0 := rfl
  unfold own_pos at h
  omega
theorem own_mulI {a b : Int32} (h1 : own_pos a) (h2 : own_pos b) : (a * b).toInt = a.toInt * b.toInt ∧ 1 ≤ a.toInt * b.toInt ∧ a.toInt * b.toInt ≤ 64 := by
  obtain ⟨a1, a2⟩ := h1
  obtain ⟨b1, b2⟩ := h2
  have m1 : a.toInt * b.toInt ≤ 8 * 8 := Int.mul_le_mul a2 b2 (by omega) (by decide)
  have m2 : 1 * 1 ≤ a.toInt * b.toInt := Int.mul_le_mul a1 b1 (by decide) (by omega)
  have c := c_imul a b
  have d := (a * b).toInt_lt
  have e := (a * b).le_toInt
  generalize a.toInt * b.toInt = y at *
  omega
theorem own_mulL {a b : Int32} (h1 : own_pos a) (h2 : own_pos b) : (a * b).toInt64 = a.toInt64 * b.toInt64 := by
  obtain ⟨m0, m1, m2⟩ := own_mulI h1 h2
  apply Int64.toInt_inj.mp
  have c := c_lmul a.toInt64 b.toInt64
  have d := (a.toInt64 * b.toInt64).toInt_lt
  have e := (a.toInt64 * b.toInt64).le_toInt
  rw [own_l, m0]
  rw [own_l, own_l] at c
  generalize a.toInt * b.toInt = y at *
  omega
theorem own_mulz {a b : Int32} (h1 : own_pos a) (h2 : own_pos b) : a.toInt64 * b.toInt64 ≠ 0 := fun q => by
  obtain ⟨m0, m1, m2⟩ := own_mulI h1 h2
  rw [← own_mulL h1 h2] at q
  have e := own_l (w := a * b)
  rw [q, m0] at e
  have k0 : (0 : Int64).toInt = 0 := rfl
  generalize a.toInt * b.toInt = y at *
  omega
theorem own_onew {w : Int32} : (1 : Int32) * w = w := Int32.one_mul w
theorem own_div1 (x : Int64) : x / (1 : Int32).toInt64 = x := by
  rw [show (1 : Int32).toInt64 = (1 : Int64) from by decide]
  exact Int64.div_one
/-- a quotient by a small positive number -/
theorem own_dv {x y : Int64} (hx : 0 ≤ x.toInt) (h1 : 1 ≤ y.toInt) : (x / y).toInt = x.toInt / y.toInt ∧ 0 ≤ x.toInt / y.toInt ∧ x.toInt / y.toInt * y.toInt ≤ x.toInt := by
  have hne : y ≠ -1 := fun q => by
    rw [q] at h1
    have : (-1 : Int64).toInt = -1 := rfl
    omega
  have e := (c_ldiv x y y.toInt rfl hne).1 hx
  exact ⟨e, Int.ediv_nonneg hx (by omega), Int.ediv_mul_le _ (by omega)⟩
theorem own_min_b {a b : Int64} (h1 : 0 ≤ a.toInt) (h2 : 0 ≤ b.toInt) : 0 ≤ (own_min a b).toInt ∧ (own_min a b).toInt ≤ a.toInt ∧ (own_min a b).toInt ≤ b.toInt := by
  unfold own_min
  split
  · rename_i h; rw [Int64.lt_iff_toInt_lt] at h; omega
  · rename_i h; rw [Int64.lt_iff_toInt_lt] at h; omega
theorem own_bd_z {q : Int64} (h : 0 ≤ q.toInt) (hn : ¬ q = 9223372036854775807) : q + 1 ≠ 0 ∧ (q + 1).toInt = q.toInt + 1 := by
  have a := c_ladd q 1
  have b := (q + 1).toInt_lt
  have c := (q + 1).le_toInt
  have d := q.toInt_lt
  have k1 : (1 : Int64).toInt = 1 := rfl
  have k0 : (0 : Int64).toInt = 0 := rfl
  have km : (9223372036854775807 : Int64).toInt = 9223372036854775807 := rfl
  have hn' : q.toInt ≠ 9223372036854775807 := fun e => hn (Int64.toInt_inj.mp (e.trans km.symm))
  have e : (q + 1).toInt = q.toInt + 1 := by omega
  exact ⟨fun z => by rw [z] at e; omega, e⟩
theorem own_bd_b {u q : Int64} (h : 0 ≤ q.toInt) : 0 ≤ (own_bd u q).toInt ∧ (own_bd u q).toInt ≤ q.toInt := by
  have hm := own_nnOf u
  unfold own_bd
  by_cases hq : q = 9223372036854775807
  · rw [if_pos hq]
    subst hq
    have := (u &&& 9223372036854775807).toInt_lt
    have km : (9223372036854775807 : Int64).toInt = 9223372036854775807 := rfl
    omega
  · rw [if_neg hq]
    have e := (own_bd_z h hq).2
    rw [Int64.toInt_mod, e, Int.tmod_eq_emod_of_nonneg hm]
    have b1 := Int.emod_nonneg (u &&& 9223372036854775807).toInt (by omega : q.toInt + 1 ≠ 0)
    have b2 := Int.emod_lt_of_pos (u &&& 9223372036854775807).toInt (by omega : 0 < q.toInt + 1)
    omega
/-- what is left of the outer budget isn't negative -/
theorem own_left {A v : Int64} {w1 w2 : Int32} (hA : 0 ≤ A.toInt) (h1 : own_pos w1) (h2 : own_pos w2) (hv : 0 ≤ v.toInt) (hle : v.toInt ≤ (A / (w1.toInt64 * w2.toInt64)).toInt) : 0 ≤ (A - v * w1.toInt64 * w2.toInt64).toInt := by
  obtain ⟨m0, m1, m2⟩ := own_mulI h1 h2
  have eL : (w1.toInt64 * w2.toInt64).toInt = w1.toInt * w2.toInt := by rw [← own_mulL h1 h2, own_l, m0]
  obtain ⟨d1, d2, d3⟩ := own_dv (y := w1.toInt64 * w2.toInt64) hA (by rw [eL]; exact m1)
  rw [d1] at hle
  rw [Int64.mul_assoc]
  have c1 := c_lmul v (w1.toInt64 * w2.toInt64)
  rw [eL] at c1 d3 hle
  have n1 : v.toInt * (w1.toInt * w2.toInt) ≤ A.toInt / (w1.toInt * w2.toInt) * (w1.toInt * w2.toInt) := Int.mul_le_mul_of_nonneg_right hle (by omega)
  have n2 : 0 ≤ v.toInt * (w1.toInt * w2.toInt) := Int.mul_nonneg hv (by omega)
  have a1 := A.toInt_lt
  have b1 := (v * (w1.toInt64 * w2.toInt64)).toInt_lt
  have b2 := (v * (w1.toInt64 * w2.toInt64)).le_toInt
  have c2 := c_lsub A (v * (w1.toInt64 * w2.toInt64))
  have b3 := (A - v * (w1.toInt64 * w2.toInt64)).toInt_lt
  have b4 := (A - v * (w1.toInt64 * w2.toInt64)).le_toInt
  generalize v.toInt * (w1.toInt * w2.toInt) = y at *
  generalize A.toInt / (w1.toInt * w2.toInt) * (w1.toInt * w2.toInt) = z at *
  omega
abbrev O_SharedBudget (f0 : Value) (f1 : Value) (f2 : Value) (f3 : Value) (f4 : Value) (f5 : Value) : Obj := .inl ("com/example/leadhorizon/leadhorizon/io/SharedBudget", [("com/example/leadhorizon/leadhorizon/io/SharedBudget", "budget", "J", f0), ("com/example/leadhorizon/leadhorizon/io/SharedBudget", "verb", "Ljava/lang/String;", f1), ("com/example/leadhorizon/leadhorizon/io/SharedBudget", "most", "Ljava/lang/String;", f2), ("com/example/leadhorizon/leadhorizon/io/SharedBudget", "within", "Lcom/example/leadhorizon/leadhorizon/io/SharedBudget;", f3), ("com/example/leadhorizon/leadhorizon/io/SharedBudget", "weight", "I", f4), ("com/example/leadhorizon/leadhorizon/io/SharedBudget", "left", "J", f5)])
theorem d4_0 : decode jdk_29_method_70_code 0 = .ok (.lload_n 0, 1) := by decide +kernel
theorem d4_1 : decode jdk_29_method_70_code 1 = .ok (.lload_n 2, 1) := by decide +kernel
theorem d4_2 : decode jdk_29_method_70_code 2 = .ok (.lcmp, 1) := by decide +kernel
theorem d4_3 : decode jdk_29_method_70_code 3 = .ok (.ifCond .gt 7, 3) := by decide +kernel
theorem d4_6 : decode jdk_29_method_70_code 6 = .ok (.lload_n 0, 1) := by decide +kernel
theorem d4_7 : decode jdk_29_method_70_code 7 = .ok (.goto 4, 3) := by decide +kernel
theorem d4_10 : decode jdk_29_method_70_code 10 = .ok (.lload_n 2, 1) := by decide +kernel
theorem d4_11 : decode jdk_29_method_70_code 11 = .ok (.lreturn, 1) := by decide +kernel
theorem pn_4 : plainFor (⟨"java/lang/Math", "min", "(JJ)J"⟩ : MethodName) = true := Jvm.Free.JP.mathPlain rfl (by decide +kernel)
set_option maxRecDepth 65536 in
set_option maxHeartbeats 40000000 in
theorem rm4 (l : Launch) (Z : State) (a0 : Array Value) (hw : ∀ d ∈ tables_1, d.before a0 Z = true) (n0 : Nat) (a b : Int64) (L : HL)  :
    Con l (⟨"java/lang/Math", "min", "(JJ)J"⟩ : MethodName) jdk_29_method_70_code 4 (some .long) ({ frames := 0, cells := 0, slots := 0, locals := 0 } : Room) Z n0 #[(.long a), (.long b)] L (fun v L' => v = some (.long (own_min a b)) ∧ L' = L) := by
  refine Con.of (ws := tables_1) (a0 := a0) pn_4 hw ?_
  intro p e s m below meth cde T kb w
  refine g_entry #[.val (.long a), .second, .val (.long b), .second] (by first | (simp [entryFrame, mkF, argsToLocals, Value.category]; done) | rfl) ?_
  refine g_lloadN w d4_0 rfl 1 rfl ?_
  refine g_lloadN w d4_1 rfl 2 rfl ?_
  refine g_lcmp w d4_2 3 rfl ?_
  refine g_lif_gt w d4_3 10 (by decide) (by decide) 6 rfl (fun hc3 => ?_) (fun hc3 => ?_)
  · -- pc 10 (taken: b < a)
    refine g_lloadN w d4_10 rfl 11 rfl ?_
    exact g_lret w d4_11 (by decide) (by decide) ⟨congrArg (fun z => some (Value.long z)) (by simp [own_min, *]), rfl⟩
  · -- pc 6 (on: not b < a)
    refine g_lloadN w d4_6 rfl 7 rfl ?_
    refine g_goto w d4_7 11 (by decide) (by decide) ?_
    exact g_lret w d4_11 (by decide) (by decide) ⟨congrArg (fun z => some (Value.long z)) (by simp [own_min, *]), rfl⟩
theorem d5_0 : decode method_2_code 0 = .ok (.lload_n 0, 1) := by decide +kernel
theorem d5_1 : decode method_2_code 1 = .ok (.ldc2_w 9, 3) := by decide +kernel
theorem d5_4 : decode method_2_code 4 = .ok (.land, 1) := by decide +kernel
theorem d5_5 : decode method_2_code 5 = .ok (.lstore 4, 2) := by decide +kernel
theorem d5_7 : decode method_2_code 7 = .ok (.lload_n 2, 1) := by decide +kernel
theorem d5_8 : decode method_2_code 8 = .ok (.ldc2_w 9, 3) := by decide +kernel
theorem d5_11 : decode method_2_code 11 = .ok (.lcmp, 1) := by decide +kernel
theorem d5_12 : decode method_2_code 12 = .ok (.ifCond .ne 8, 3) := by decide +kernel
theorem d5_15 : decode method_2_code 15 = .ok (.lload 4, 2) := by decide +kernel
theorem d5_17 : decode method_2_code 17 = .ok (.goto 9, 3) := by decide +kernel
theorem d5_20 : decode method_2_code 20 = .ok (.lload 4, 2) := by decide +kernel
theorem d5_22 : decode method_2_code 22 = .ok (.lload_n 2, 1) := by decide +kernel
theorem d5_23 : decode method_2_code 23 = .ok (.lconst 1, 1) := by decide +kernel
theorem d5_24 : decode method_2_code 24 = .ok (.ladd, 1) := by decide +kernel
theorem d5_25 : decode method_2_code 25 = .ok (.lrem, 1) := by decide +kernel
theorem d5_26 : decode method_2_code 26 = .ok (.lreturn, 1) := by decide +kernel
theorem pn_5 : plainFor (⟨"com/example/leadhorizon/leadhorizon/io/SharedBudgetTakePinLaw", "bounded", "(JJ)J"⟩ : MethodName) = true := plainFor_of_name (by first | (simp [plainName, overriddenIn]; done) | decide +kernel)
set_option maxRecDepth 65536 in
set_option maxHeartbeats 40000000 in
theorem rm5 (l : Launch) (Z : State) (a0 : Array Value) (hw : ∀ d ∈ tables_1, d.before a0 Z = true) (n0 : Nat) (u q : Int64) (L : HL) (hq : 0 ≤ q.toInt) :
    Con l (⟨"com/example/leadhorizon/leadhorizon/io/SharedBudgetTakePinLaw", "bounded", "(JJ)J"⟩ : MethodName) method_2_code 6 (some .long) ({ frames := 0, cells := 0, slots := 0, locals := 0 } : Room) Z n0 #[(.long u), (.long q)] L (fun v L' => v = some (.long (own_bd u q)) ∧ L' = L) := by
  refine Con.of (ws := tables_1) (a0 := a0) pn_5 hw ?_
  intro p e s m below meth cde T kb w
  refine g_entry #[.val (.long u), .second, .val (.long q), .second, .unset, .unset] (by first | (simp [entryFrame, mkF, argsToLocals, Value.category]; done) | rfl) ?_
  refine g_lloadN w d5_0 rfl 1 rfl ?_
  refine g_ldcl w d5_1 0 rfl 4 rfl ?_
  refine g_land w d5_4 5 rfl ?_
  refine g_lstore w d5_5 7 rfl rfl #[.val (.long u), .second, .val (.long q), .second, .val (.long (u &&& (9223372036854775807 : Int64))), .second] rfl ?_
  refine g_lloadN w d5_7 rfl 8 rfl ?_
  refine g_ldcl w d5_8 0 rfl 11 rfl ?_
  refine g_lcmp w d5_11 12 rfl ?_
  refine g_lif_ne w d5_12 20 (by decide) (by decide) 15 rfl (fun hc12 => ?_) (fun hc12 => ?_)
  · -- pc 20 (taken: not q = (9223372036854775807 : Int64))
    refine g_lload w d5_20 rfl 22 rfl ?_
    refine g_lloadN w d5_22 rfl 23 rfl ?_
    refine g_lconst w d5_23 (1 : Int64) rfl 24 rfl ?_
    refine g_ladd w d5_24 25 rfl ?_
    refine g_lrem w d5_25 (own_bd_z hq hc12).1 26 rfl ?_
    exact g_lret w d5_26 (by decide) (by decide) ⟨congrArg (fun z => some (Value.long z)) (by simp [own_bd, *]), rfl⟩
  · -- pc 15 (on: q = (9223372036854775807 : Int64))
    refine g_lload w d5_15 rfl 17 rfl ?_
    refine g_goto w d5_17 26 (by decide) (by decide) ?_
    exact g_lret w d5_26 (by decide) (by decide) ⟨congrArg (fun z => some (Value.long z)) (by simp [own_bd, *]), rfl⟩
theorem d2_0 : decode prog_30_method_2_code 0 = .ok (.aload_n 0, 1) := by decide +kernel
theorem d2_1 : decode prog_30_method_2_code 1 = .ok (.invokespecial 7, 3) := by decide +kernel
theorem d2_4 : decode prog_30_method_2_code 4 = .ok (.aload_n 0, 1) := by decide +kernel
theorem d2_5 : decode prog_30_method_2_code 5 = .ok (.lload_n 1, 1) := by decide +kernel
theorem d2_6 : decode prog_30_method_2_code 6 = .ok (.putfield 12, 3) := by decide +kernel
theorem d2_9 : decode prog_30_method_2_code 9 = .ok (.aload_n 0, 1) := by decide +kernel
theorem d2_10 : decode prog_30_method_2_code 10 = .ok (.aload_n 3, 1) := by decide +kernel
theorem d2_11 : decode prog_30_method_2_code 11 = .ok (.putfield 16, 3) := by decide +kernel
theorem d2_14 : decode prog_30_method_2_code 14 = .ok (.aload_n 0, 1) := by decide +kernel
theorem d2_15 : decode prog_30_method_2_code 15 = .ok (.aload 4, 2) := by decide +kernel
theorem d2_17 : decode prog_30_method_2_code 17 = .ok (.putfield 20, 3) := by decide +kernel
theorem d2_20 : decode prog_30_method_2_code 20 = .ok (.aload_n 0, 1) := by decide +kernel
theorem d2_21 : decode prog_30_method_2_code 21 = .ok (.aload 5, 2) := by decide +kernel
theorem d2_23 : decode prog_30_method_2_code 23 = .ok (.putfield 23, 3) := by decide +kernel
theorem d2_26 : decode prog_30_method_2_code 26 = .ok (.aload_n 0, 1) := by decide +kernel
theorem d2_27 : decode prog_30_method_2_code 27 = .ok (.iload 6, 2) := by decide +kernel
theorem d2_29 : decode prog_30_method_2_code 29 = .ok (.putfield 27, 3) := by decide +kernel
theorem d2_32 : decode prog_30_method_2_code 32 = .ok (.aload_n 0, 1) := by decide +kernel
theorem d2_33 : decode prog_30_method_2_code 33 = .ok (.lload_n 1, 1) := by decide +kernel
theorem d2_34 : decode prog_30_method_2_code 34 = .ok (.putfield 31, 3) := by decide +kernel
theorem d2_37 : decode prog_30_method_2_code 37 = .ok (.return_, 1) := by decide +kernel
theorem pn_2 : plainFor (⟨"com/example/leadhorizon/leadhorizon/io/SharedBudget", "<init>", "(JLjava/lang/String;Ljava/lang/String;Lcom/example/leadhorizon/leadhorizon/io/SharedBudget;I)V"⟩ : MethodName) = true := plainFor_of_name (by first | (simp [plainName, overriddenIn]; done) | decide +kernel)
set_option maxRecDepth 65536 in
set_option maxHeartbeats 40000000 in
theorem rmC2a (l : Launch) (Z : State) (a0 : Array Value) (hw : ∀ d ∈ tables_1, d.before a0 Z = true) (n0 : Nat) (o s1 s2 : Addr) (q : Int64)  :
    Con l (⟨"com/example/leadhorizon/leadhorizon/io/SharedBudget", "<init>", "(JLjava/lang/String;Ljava/lang/String;Lcom/example/leadhorizon/leadhorizon/io/SharedBudget;I)V"⟩ : MethodName) prog_30_method_2_code 7 none ({ frames := 1, cells := 0, slots := 0, locals := 12 } : Room) Z n0 #[(.ref o), (.long q), (.ref s1), (.ref s2), .null, (.int (1 : Int32))] ([(o, O_SharedBudget (.long (0 : Int64)) .null .null .null (.int (0 : Int32)) (.long (0 : Int64)))]) (fun v L' => v = none ∧ L' = [(o, O_SharedBudget (.long q) (.ref s1) (.ref s2) .null (.int (1 : Int32)) (.long q))]) := by
  refine Con.of (ws := tables_1) (a0 := a0) pn_2 hw ?_
  intro p e s m below meth cde T kb w
  refine g_entry #[.val (.ref o), .val (.long q), .second, .val (.ref s1), .val (.ref s2), .val .null, .val (.int (1 : Int32))] (by first | (simp [entryFrame, mkF, argsToLocals, Value.category]; done) | rfl) ?_
  refine g_aloadN w d2_0 rfl rfl 1 rfl ?_
  refine g_initO w d2_1 19 rfl 20 rfl 21 rfl rfl (by decide) 0 rfl (by decide) 4 rfl (fun T w => ?_)
  refine g_aloadN w d2_4 rfl rfl 5 rfl ?_
  refine g_lloadN w d2_5 rfl 6 rfl ?_
  refine g_putf w d2_6 0 rfl 0 rfl 22 rfl Via.refl 23 (Or.inr ⟨rfl, rfl, rfl⟩) 2 rfl (ty := .long) (by decide) rfl rfl 9 rfl (fun T w => ?_)
  replace w := w.to (L' := [(o, O_SharedBudget (.long q) .null .null .null (.int (0 : Int32)) (.long (0 : Int64)))]) rfl
  refine g_aloadN w d2_9 rfl rfl 10 rfl ?_
  refine g_aloadN w d2_10 rfl rfl 11 rfl ?_
  refine g_putf w d2_11 0 rfl 1 rfl 24 rfl Via.refl 25 (Or.inr ⟨rfl, rfl, rfl⟩) 2 rfl (ty := (.object "java/lang/String")) (by decide) rfl rfl 14 rfl (fun T w => ?_)
  replace w := w.to (L' := [(o, O_SharedBudget (.long q) (.ref s1) .null .null (.int (0 : Int32)) (.long (0 : Int64)))]) rfl
  refine g_aloadN w d2_14 rfl rfl 15 rfl ?_
  refine g_aload w d2_15 rfl rfl 17 rfl ?_
  refine g_putf w d2_17 0 rfl 2 rfl 26 rfl Via.refl 27 (Or.inr ⟨rfl, rfl, rfl⟩) 2 rfl (ty := (.object "java/lang/String")) (by decide) rfl rfl 20 rfl (fun T w => ?_)
  replace w := w.to (L' := [(o, O_SharedBudget (.long q) (.ref s1) (.ref s2) .null (.int (0 : Int32)) (.long (0 : Int64)))]) rfl
  refine g_aloadN w d2_20 rfl rfl 21 rfl ?_
  refine g_aload w d2_21 rfl rfl 23 rfl ?_
  refine g_putf w d2_23 0 rfl 3 rfl 28 rfl Via.refl 29 (Or.inr ⟨rfl, rfl, rfl⟩) 2 rfl (ty := (.object "com/example/leadhorizon/leadhorizon/io/SharedBudget")) (by decide) rfl rfl 26 rfl (fun T w => ?_)
  replace w := w.to (L' := [(o, O_SharedBudget (.long q) (.ref s1) (.ref s2) .null (.int (0 : Int32)) (.long (0 : Int64)))]) rfl
  refine g_aloadN w d2_26 rfl rfl 27 rfl ?_
  refine g_iload w d2_27 rfl 29 rfl ?_
  refine g_putf w d2_29 0 rfl 4 rfl 30 rfl Via.refl 31 (Or.inr ⟨rfl, rfl, rfl⟩) 2 rfl (ty := .int) (by decide) rfl rfl 32 rfl (fun T w => ?_)
  replace w := w.to (L' := [(o, O_SharedBudget (.long q) (.ref s1) (.ref s2) .null (.int (1 : Int32)) (.long (0 : Int64)))]) rfl
  refine g_aloadN w d2_32 rfl rfl 33 rfl ?_
  refine g_lloadN w d2_33 rfl 34 rfl ?_
  refine g_putf w d2_34 0 rfl 5 rfl 32 rfl Via.refl 33 (Or.inl rfl) 2 rfl (ty := .long) (by decide) rfl rfl 37 rfl (fun T w => ?_)
  replace w := w.to (L' := [(o, O_SharedBudget (.long q) (.ref s1) (.ref s2) .null (.int (1 : Int32)) (.long q))]) rfl
  exact g_ret w d2_37 (by decide) (by decide) ⟨rfl, rfl⟩
theorem pd_0 : parseMethodDescriptor "(JLjava/lang/String;Ljava/lang/String;Lcom/example/leadhorizon/leadhorizon/io/SharedBudget;I)V" = some ⟨[.long, (.object "java/lang/String"), (.object "java/lang/String"), (.object "com/example/leadhorizon/leadhorizon/io/SharedBudget"), .int], none⟩ := by decide +kernel
theorem d1_0 : decode prog_30_method_1_code 0 = .ok (.aload_n 0, 1) := by decide +kernel
theorem d1_1 : decode prog_30_method_1_code 1 = .ok (.lload_n 1, 1) := by decide +kernel
theorem d1_2 : decode prog_30_method_1_code 2 = .ok (.aload_n 3, 1) := by decide +kernel
theorem d1_3 : decode prog_30_method_1_code 3 = .ok (.aload 4, 2) := by decide +kernel
theorem d1_5 : decode prog_30_method_1_code 5 = .ok (.aconst_null, 1) := by decide +kernel
theorem d1_6 : decode prog_30_method_1_code 6 = .ok (.iconst 1, 1) := by decide +kernel
theorem d1_7 : decode prog_30_method_1_code 7 = .ok (.invokespecial 1, 3) := by decide +kernel
theorem d1_10 : decode prog_30_method_1_code 10 = .ok (.return_, 1) := by decide +kernel
theorem pn_1 : plainFor (⟨"com/example/leadhorizon/leadhorizon/io/SharedBudget", "<init>", "(JLjava/lang/String;Ljava/lang/String;)V"⟩ : MethodName) = true := plainFor_of_name (by first | (simp [plainName, overriddenIn]; done) | decide +kernel)
set_option maxRecDepth 65536 in
set_option maxHeartbeats 40000000 in
theorem rm1 (l : Launch) (Z : State) (a0 : Array Value) (hw : ∀ d ∈ tables_1, d.before a0 Z = true) (n0 : Nat) (o s1 s2 : Addr) (q : Int64)  :
    Con l (⟨"com/example/leadhorizon/leadhorizon/io/SharedBudget", "<init>", "(JLjava/lang/String;Ljava/lang/String;)V"⟩ : MethodName) prog_30_method_1_code 5 none ({ frames := 2, cells := 0, slots := 0, locals := 30 } : Room) Z n0 #[(.ref o), (.long q), (.ref s1), (.ref s2)] ([(o, O_SharedBudget (.long (0 : Int64)) .null .null .null (.int (0 : Int32)) (.long (0 : Int64)))]) (fun v L' => v = none ∧ L' = [(o, O_SharedBudget (.long q) (.ref s1) (.ref s2) .null (.int (1 : Int32)) (.long q))]) := by
  refine Con.of (ws := tables_1) (a0 := a0) pn_1 hw ?_
  intro p e s m below meth cde T kb w
  refine g_entry #[.val (.ref o), .val (.long q), .second, .val (.ref s1), .val (.ref s2)] (by first | (simp [entryFrame, mkF, argsToLocals, Value.category]; done) | rfl) ?_
  refine g_aloadN w d1_0 rfl rfl 1 rfl ?_
  refine g_lloadN w d1_1 rfl 2 rfl ?_
  refine g_aloadN w d1_2 rfl rfl 3 rfl ?_
  refine g_aload w d1_3 rfl rfl 5 rfl ?_
  refine g_anull w d1_5 6 rfl ?_
  refine g_iconst w d1_6 (1 : Int32) rfl 7 rfl ?_
  refine g_ctor w (argsL := [(.long q), (.ref s1), (.ref s2), .null, (.int (1 : Int32))]) (rest := []) (rmC2a l Z a0 hw n0 o s1 s2 q) d1_7 16 rfl 17 rfl 3 rfl 18 rfl rfl ⟨by decide, by decide⟩ pd_0 rfl rfl rfl 0 rfl (by decide) (by decide) (by decide) (by decide) 10 rfl (fun T v L w h => ?_)
  obtain ⟨rfl, rfl⟩ := h
  exact g_ret w d1_10 (by decide) (by decide) ⟨rfl, rfl⟩
set_option maxRecDepth 65536 in
set_option maxHeartbeats 40000000 in
theorem rmC2b (l : Launch) (Z : State) (a0 : Array Value) (hw : ∀ d ∈ tables_1, d.before a0 Z = true) (n0 : Nat) (o i s1 s2 s3 s4 : Addr) (a b : Int64) (w2 : Int32)  :
    Con l (⟨"com/example/leadhorizon/leadhorizon/io/SharedBudget", "<init>", "(JLjava/lang/String;Ljava/lang/String;Lcom/example/leadhorizon/leadhorizon/io/SharedBudget;I)V"⟩ : MethodName) prog_30_method_2_code 7 none ({ frames := 1, cells := 0, slots := 0, locals := 12 } : Room) Z n0 #[(.ref i), (.long b), (.ref s3), (.ref s4), (.ref o), (.int w2)] ([(o, O_SharedBudget (.long a) (.ref s1) (.ref s2) .null (.int (1 : Int32)) (.long a)), (i, O_SharedBudget (.long (0 : Int64)) .null .null .null (.int (0 : Int32)) (.long (0 : Int64)))]) (fun v L' => v = none ∧ L' = [(o, O_SharedBudget (.long a) (.ref s1) (.ref s2) .null (.int (1 : Int32)) (.long a)), (i, O_SharedBudget (.long b) (.ref s3) (.ref s4) (.ref o) (.int w2) (.long b))]) := by
  refine Con.of (ws := tables_1) (a0 := a0) pn_2 hw ?_
  intro p e s m below meth cde T kb w
  refine g_entry #[.val (.ref i), .val (.long b), .second, .val (.ref s3), .val (.ref s4), .val (.ref o), .val (.int w2)] (by first | (simp [entryFrame, mkF, argsToLocals, Value.category]; done) | rfl) ?_
  refine g_aloadN w d2_0 rfl rfl 1 rfl ?_
  refine g_initO w d2_1 19 rfl 20 rfl 21 rfl rfl (by decide) 0 rfl (by decide) 4 rfl (fun T w => ?_)
  refine g_aloadN w d2_4 rfl rfl 5 rfl ?_
  refine g_lloadN w d2_5 rfl 6 rfl ?_
  refine g_putf w d2_6 1 rfl 0 rfl 22 rfl Via.refl 23 (Or.inr ⟨rfl, rfl, rfl⟩) 2 rfl (ty := .long) (by decide) rfl rfl 9 rfl (fun T w => ?_)
  replace w := w.to (L' := [(o, O_SharedBudget (.long a) (.ref s1) (.ref s2) .null (.int (1 : Int32)) (.long a)), (i, O_SharedBudget (.long b) .null .null .null (.int (0 : Int32)) (.long (0 : Int64)))]) rfl
  refine g_aloadN w d2_9 rfl rfl 10 rfl ?_
  refine g_aloadN w d2_10 rfl rfl 11 rfl ?_
  refine g_putf w d2_11 1 rfl 1 rfl 24 rfl Via.refl 25 (Or.inr ⟨rfl, rfl, rfl⟩) 2 rfl (ty := (.object "java/lang/String")) (by decide) rfl rfl 14 rfl (fun T w => ?_)
  replace w := w.to (L' := [(o, O_SharedBudget (.long a) (.ref s1) (.ref s2) .null (.int (1 : Int32)) (.long a)), (i, O_SharedBudget (.long b) (.ref s3) .null .null (.int (0 : Int32)) (.long (0 : Int64)))]) rfl
  refine g_aloadN w d2_14 rfl rfl 15 rfl ?_
  refine g_aload w d2_15 rfl rfl 17 rfl ?_
  refine g_putf w d2_17 1 rfl 2 rfl 26 rfl Via.refl 27 (Or.inr ⟨rfl, rfl, rfl⟩) 2 rfl (ty := (.object "java/lang/String")) (by decide) rfl rfl 20 rfl (fun T w => ?_)
  replace w := w.to (L' := [(o, O_SharedBudget (.long a) (.ref s1) (.ref s2) .null (.int (1 : Int32)) (.long a)), (i, O_SharedBudget (.long b) (.ref s3) (.ref s4) .null (.int (0 : Int32)) (.long (0 : Int64)))]) rfl
  refine g_aloadN w d2_20 rfl rfl 21 rfl ?_
  refine g_aload w d2_21 rfl rfl 23 rfl ?_
  refine g_putf w d2_23 1 rfl 3 rfl 28 rfl Via.refl 29 (Or.inr ⟨rfl, rfl, rfl⟩) 2 rfl (ty := (.object "com/example/leadhorizon/leadhorizon/io/SharedBudget")) (by decide) rfl rfl 26 rfl (fun T w => ?_)
  replace w := w.to (L' := [(o, O_SharedBudget (.long a) (.ref s1) (.ref s2) .null (.int (1 : Int32)) (.long a)), (i, O_SharedBudget (.long b) (.ref s3) (.ref s4) (.ref o) (.int (0 : Int32)) (.long (0 : Int64)))]) rfl
  refine g_aloadN w d2_26 rfl rfl 27 rfl ?_
  refine g_iload w d2_27 rfl 29 rfl ?_
  refine g_putf w d2_29 1 rfl 4 rfl 30 rfl Via.refl 31 (Or.inr ⟨rfl, rfl, rfl⟩) 2 rfl (ty := .int) (by decide) rfl rfl 32 rfl (fun T w => ?_)
  replace w := w.to (L' := [(o, O_SharedBudget (.long a) (.ref s1) (.ref s2) .null (.int (1 : Int32)) (.long a)), (i, O_SharedBudget (.long b) (.ref s3) (.ref s4) (.ref o) (.int w2) (.long (0 : Int64)))]) rfl
  refine g_aloadN w d2_32 rfl rfl 33 rfl ?_
  refine g_lloadN w d2_33 rfl 34 rfl ?_
  refine g_putf w d2_34 1 rfl 5 rfl 32 rfl Via.refl 33 (Or.inl rfl) 2 rfl (ty := .long) (by decide) rfl rfl 37 rfl (fun T w => ?_)
  replace w := w.to (L' := [(o, O_SharedBudget (.long a) (.ref s1) (.ref s2) .null (.int (1 : Int32)) (.long a)), (i, O_SharedBudget (.long b) (.ref s3) (.ref s4) (.ref o) (.int w2) (.long b))]) rfl
  exact g_ret w d2_37 (by decide) (by decide) ⟨rfl, rfl⟩
theorem d6_0 : decode prog_30_method_4_code 0 = .ok (.aload_n 0, 1) := by decide +kernel
theorem d6_1 : decode prog_30_method_4_code 1 = .ok (.dup, 1) := by decide +kernel
theorem d6_2 : decode prog_30_method_4_code 2 = .ok (.getfield 31, 3) := by decide +kernel
theorem d6_5 : decode prog_30_method_4_code 5 = .ok (.lload_n 1, 1) := by decide +kernel
theorem d6_6 : decode prog_30_method_4_code 6 = .ok (.iload_n 3, 1) := by decide +kernel
theorem d6_7 : decode prog_30_method_4_code 7 = .ok (.i2l, 1) := by decide +kernel
theorem d6_8 : decode prog_30_method_4_code 8 = .ok (.lmul, 1) := by decide +kernel
theorem d6_9 : decode prog_30_method_4_code 9 = .ok (.lsub, 1) := by decide +kernel
theorem d6_10 : decode prog_30_method_4_code 10 = .ok (.putfield 31, 3) := by decide +kernel
theorem d6_13 : decode prog_30_method_4_code 13 = .ok (.aload_n 0, 1) := by decide +kernel
theorem d6_14 : decode prog_30_method_4_code 14 = .ok (.getfield 23, 3) := by decide +kernel
theorem d6_17 : decode prog_30_method_4_code 17 = .ok (.ifnull 17, 3) := by decide +kernel
theorem d6_20 : decode prog_30_method_4_code 20 = .ok (.aload_n 0, 1) := by decide +kernel
theorem d6_21 : decode prog_30_method_4_code 21 = .ok (.getfield 23, 3) := by decide +kernel
theorem d6_24 : decode prog_30_method_4_code 24 = .ok (.lload_n 1, 1) := by decide +kernel
theorem d6_25 : decode prog_30_method_4_code 25 = .ok (.iload_n 3, 1) := by decide +kernel
theorem d6_26 : decode prog_30_method_4_code 26 = .ok (.aload_n 0, 1) := by decide +kernel
theorem d6_27 : decode prog_30_method_4_code 27 = .ok (.getfield 27, 3) := by decide +kernel
theorem d6_30 : decode prog_30_method_4_code 30 = .ok (.imul, 1) := by decide +kernel
theorem d6_31 : decode prog_30_method_4_code 31 = .ok (.invokevirtual 43, 3) := by decide +kernel
theorem d6_34 : decode prog_30_method_4_code 34 = .ok (.return_, 1) := by decide +kernel
theorem pn_6 : plainFor (⟨"com/example/leadhorizon/leadhorizon/io/SharedBudget", "take", "(JI)V"⟩ : MethodName) = true := plainFor_of_name (by first | (simp [plainName, overriddenIn]; done) | decide +kernel)
theorem d7_0 : decode prog_30_method_3_code 0 = .ok (.aload_n 0, 1) := by decide +kernel
theorem d7_1 : decode prog_30_method_3_code 1 = .ok (.getfield 31, 3) := by decide +kernel
theorem d7_4 : decode prog_30_method_3_code 4 = .ok (.iload_n 1, 1) := by decide +kernel
theorem d7_5 : decode prog_30_method_3_code 5 = .ok (.i2l, 1) := by decide +kernel
theorem d7_6 : decode prog_30_method_3_code 6 = .ok (.ldiv, 1) := by decide +kernel
theorem d7_7 : decode prog_30_method_3_code 7 = .ok (.lstore_n 2, 1) := by decide +kernel
theorem d7_8 : decode prog_30_method_3_code 8 = .ok (.aload_n 0, 1) := by decide +kernel
theorem d7_9 : decode prog_30_method_3_code 9 = .ok (.getfield 23, 3) := by decide +kernel
theorem d7_12 : decode prog_30_method_3_code 12 = .ok (.ifnonnull 7, 3) := by decide +kernel
theorem d7_15 : decode prog_30_method_3_code 15 = .ok (.lload_n 2, 1) := by decide +kernel
theorem d7_16 : decode prog_30_method_3_code 16 = .ok (.goto 20, 3) := by decide +kernel
theorem d7_19 : decode prog_30_method_3_code 19 = .ok (.lload_n 2, 1) := by decide +kernel
theorem d7_20 : decode prog_30_method_3_code 20 = .ok (.aload_n 0, 1) := by decide +kernel
theorem d7_21 : decode prog_30_method_3_code 21 = .ok (.getfield 23, 3) := by decide +kernel
theorem d7_24 : decode prog_30_method_3_code 24 = .ok (.iload_n 1, 1) := by decide +kernel
theorem d7_25 : decode prog_30_method_3_code 25 = .ok (.aload_n 0, 1) := by decide +kernel
theorem d7_26 : decode prog_30_method_3_code 26 = .ok (.getfield 27, 3) := by decide +kernel
theorem d7_29 : decode prog_30_method_3_code 29 = .ok (.imul, 1) := by decide +kernel
theorem d7_30 : decode prog_30_method_3_code 30 = .ok (.invokevirtual 34, 3) := by decide +kernel
theorem d7_33 : decode prog_30_method_3_code 33 = .ok (.invokestatic 37, 3) := by decide +kernel
theorem d7_36 : decode prog_30_method_3_code 36 = .ok (.lreturn, 1) := by decide +kernel
theorem pn_7 : plainFor (⟨"com/example/leadhorizon/leadhorizon/io/SharedBudget", "left", "(I)J"⟩ : MethodName) = true := plainFor_of_name (by first | (simp [plainName, overriddenIn]; done) | decide +kernel)
set_option maxRecDepth 65536 in
set_option maxHeartbeats 40000000 in
theorem rmTo (l : Launch) (Z : State) (a0 : Array Value) (hw : ∀ d ∈ tables_1, d.before a0 Z = true) (n0 : Nat) (o i s1 s2 s3 s4 : Addr) (a b x z : Int64) (w2 : Int32) (q : Int64) (k : Int32)  :
    Con l (⟨"com/example/leadhorizon/leadhorizon/io/SharedBudget", "take", "(JI)V"⟩ : MethodName) prog_30_method_4_code 4 none ({ frames := 0, cells := 0, slots := 0, locals := 0 } : Room) Z n0 #[(.ref o), (.long q), (.int k)] ([(o, O_SharedBudget (.long a) (.ref s1) (.ref s2) .null (.int (1 : Int32)) (.long x)), (i, O_SharedBudget (.long b) (.ref s3) (.ref s4) (.ref o) (.int w2) (.long z))]) (fun v L' => v = none ∧ L' = [(o, O_SharedBudget (.long a) (.ref s1) (.ref s2) .null (.int (1 : Int32)) (.long (x - q * k.toInt64))), (i, O_SharedBudget (.long b) (.ref s3) (.ref s4) (.ref o) (.int w2) (.long z))]) := by
  refine Con.of (ws := tables_1) (a0 := a0) pn_6 hw ?_
  intro p e s m below meth cde T kb w
  refine g_entry #[.val (.ref o), .val (.long q), .second, .val (.int k)] (by first | (simp [entryFrame, mkF, argsToLocals, Value.category]; done) | rfl) ?_
  refine g_aloadN w d6_0 rfl rfl 1 rfl ?_
  refine g_dup w d6_1 rfl 2 rfl ?_
  refine g_getf w d6_2 0 rfl 5 rfl 32 rfl Via.refl 5 rfl (fun T w => ?_)
  refine g_lloadN w d6_5 rfl 6 rfl ?_
  refine g_iloadN w d6_6 rfl 7 rfl ?_
  refine g_i2l w d6_7 8 rfl ?_
  refine g_lmul w d6_8 9 rfl ?_
  refine g_lsub w d6_9 10 rfl ?_
  refine g_putf w d6_10 0 rfl 5 rfl 32 rfl Via.refl 33 (Or.inl rfl) 2 rfl (ty := .long) (by decide) rfl rfl 13 rfl (fun T w => ?_)
  replace w := w.to (L' := [(o, O_SharedBudget (.long a) (.ref s1) (.ref s2) .null (.int (1 : Int32)) (.long (x - (q * (k.toInt64))))), (i, O_SharedBudget (.long b) (.ref s3) (.ref s4) (.ref o) (.int w2) (.long z))]) rfl
  refine g_aloadN w d6_13 rfl rfl 14 rfl ?_
  refine g_getf w d6_14 0 rfl 3 rfl 28 rfl Via.refl 17 rfl (fun T w => ?_)
  refine g_ifnullT w d6_17 34 (by decide) (by decide) ?_
  exact g_ret w d6_34 (by decide) (by decide) ⟨rfl, rfl⟩
theorem pd_1 : parseMethodDescriptor "(JI)V" = some ⟨[.long, .int], none⟩ := by decide +kernel
set_option maxRecDepth 65536 in
set_option maxHeartbeats 40000000 in
theorem rmTi (l : Launch) (Z : State) (a0 : Array Value) (hw : ∀ d ∈ tables_1, d.before a0 Z = true) (n0 : Nat) (o i s1 s2 s3 s4 : Addr) (a b x z : Int64) (w2 : Int32) (q : Int64) (k : Int32)  :
    Con l (⟨"com/example/leadhorizon/leadhorizon/io/SharedBudget", "take", "(JI)V"⟩ : MethodName) prog_30_method_4_code 4 none ({ frames := 1, cells := 0, slots := 0, locals := 15 } : Room) Z n0 #[(.ref i), (.long q), (.int k)] ([(o, O_SharedBudget (.long a) (.ref s1) (.ref s2) .null (.int (1 : Int32)) (.long x)), (i, O_SharedBudget (.long b) (.ref s3) (.ref s4) (.ref o) (.int w2) (.long z))]) (fun v L' => v = none ∧ L' = [(o, O_SharedBudget (.long a) (.ref s1) (.ref s2) .null (.int (1 : Int32)) (.long (x - q * (k * w2).toInt64))), (i, O_SharedBudget (.long b) (.ref s3) (.ref s4) (.ref o) (.int w2) (.long (z - q * k.toInt64)))]) := by
  refine Con.of (ws := tables_1) (a0 := a0) pn_6 hw ?_
  intro p e s m below meth cde T kb w
  refine g_entry #[.val (.ref i), .val (.long q), .second, .val (.int k)] (by first | (simp [entryFrame, mkF, argsToLocals, Value.category]; done) | rfl) ?_
  refine g_aloadN w d6_0 rfl rfl 1 rfl ?_
  refine g_dup w d6_1 rfl 2 rfl ?_
  refine g_getf w d6_2 1 rfl 5 rfl 32 rfl Via.refl 5 rfl (fun T w => ?_)
  refine g_lloadN w d6_5 rfl 6 rfl ?_
  refine g_iloadN w d6_6 rfl 7 rfl ?_
  refine g_i2l w d6_7 8 rfl ?_
  refine g_lmul w d6_8 9 rfl ?_
  refine g_lsub w d6_9 10 rfl ?_
  refine g_putf w d6_10 1 rfl 5 rfl 32 rfl Via.refl 33 (Or.inl rfl) 2 rfl (ty := .long) (by decide) rfl rfl 13 rfl (fun T w => ?_)
  replace w := w.to (L' := [(o, O_SharedBudget (.long a) (.ref s1) (.ref s2) .null (.int (1 : Int32)) (.long x)), (i, O_SharedBudget (.long b) (.ref s3) (.ref s4) (.ref o) (.int w2) (.long (z - (q * (k.toInt64)))))]) rfl
  refine g_aloadN w d6_13 rfl rfl 14 rfl ?_
  refine g_getf w d6_14 1 rfl 3 rfl 28 rfl Via.refl 17 rfl (fun T w => ?_)
  refine g_ifnullF w d6_17 20 rfl ?_
  refine g_aloadN w d6_20 rfl rfl 21 rfl ?_
  refine g_getf w d6_21 1 rfl 3 rfl 28 rfl Via.refl 24 rfl (fun T w => ?_)
  refine g_lloadN w d6_24 rfl 25 rfl ?_
  refine g_iloadN w d6_25 rfl 26 rfl ?_
  refine g_aloadN w d6_26 rfl rfl 27 rfl ?_
  refine g_getf w d6_27 1 rfl 4 rfl 30 rfl Via.refl 30 rfl (fun T w => ?_)
  refine g_imul w d6_30 31 rfl ?_
  refine g_virt w (argsL := [(.long q), (.int (k * w2))]) (rest := []) (rmTo l Z a0 hw n0 o i s1 s2 s3 s4 a b x (z - q * k.toInt64) w2 q (k * w2)) d6_31 0 rfl 50 rfl 46 rfl 3 rfl 49 rfl 48 rfl 47 rfl ⟨by decide, by decide⟩ pd_1 rfl rfl rfl 0 rfl (by decide) (by decide) (by decide) (by decide) 34 rfl (fun T v L w h => ?_)
  obtain ⟨rfl, rfl⟩ := h
  exact g_ret w d6_34 (by decide) (by decide) ⟨rfl, rfl⟩
set_option maxRecDepth 65536 in
set_option maxHeartbeats 40000000 in
theorem rmLo (l : Launch) (Z : State) (a0 : Array Value) (hw : ∀ d ∈ tables_1, d.before a0 Z = true) (n0 : Nat) (o i s1 s2 s3 s4 : Addr) (a b x z : Int64) (w2 : Int32) (k : Int32) (hk : k.toInt64 ≠ 0) :
    Con l (⟨"com/example/leadhorizon/leadhorizon/io/SharedBudget", "left", "(I)J"⟩ : MethodName) prog_30_method_3_code 4 (some .long) ({ frames := 0, cells := 0, slots := 0, locals := 0 } : Room) Z n0 #[(.ref o), (.int k)] ([(o, O_SharedBudget (.long a) (.ref s1) (.ref s2) .null (.int (1 : Int32)) (.long x)), (i, O_SharedBudget (.long b) (.ref s3) (.ref s4) (.ref o) (.int w2) (.long z))]) (fun v L' => v = some (.long (x / k.toInt64)) ∧ L' = [(o, O_SharedBudget (.long a) (.ref s1) (.ref s2) .null (.int (1 : Int32)) (.long x)), (i, O_SharedBudget (.long b) (.ref s3) (.ref s4) (.ref o) (.int w2) (.long z))]) := by
  refine Con.of (ws := tables_1) (a0 := a0) pn_7 hw ?_
  intro p e s m below meth cde T kb w
  refine g_entry #[.val (.ref o), .val (.int k), .unset, .unset] (by first | (simp [entryFrame, mkF, argsToLocals, Value.category]; done) | rfl) ?_
  refine g_aloadN w d7_0 rfl rfl 1 rfl ?_
  refine g_getf w d7_1 0 rfl 5 rfl 32 rfl Via.refl 4 rfl (fun T w => ?_)
  refine g_iloadN w d7_4 rfl 5 rfl ?_
  refine g_i2l w d7_5 6 rfl ?_
  refine g_ldiv w d7_6 hk 7 rfl ?_
  refine g_lstoreN w d7_7 8 rfl rfl #[.val (.ref o), .val (.int k), .val (.long (x / (k.toInt64))), .second] rfl ?_
  refine g_aloadN w d7_8 rfl rfl 9 rfl ?_
  refine g_getf w d7_9 0 rfl 3 rfl 28 rfl Via.refl 12 rfl (fun T w => ?_)
  refine g_ifnonnullF w d7_12 15 rfl ?_
  refine g_lloadN w d7_15 rfl 16 rfl ?_
  refine g_goto w d7_16 36 (by decide) (by decide) ?_
  exact g_lret w d7_36 (by decide) (by decide) ⟨rfl, rfl⟩
theorem pd_2 : parseMethodDescriptor "(I)J" = some ⟨[.int], some .long⟩ := by decide +kernel
theorem pd_3 : parseMethodDescriptor "(JJ)J" = some ⟨[.long, .long], some .long⟩ := by decide +kernel
set_option maxRecDepth 65536 in
set_option maxHeartbeats 40000000 in
theorem rmLi (l : Launch) (Z : State) (a0 : Array Value) (hw : ∀ d ∈ tables_1, d.before a0 Z = true) (n0 : Nat) (o i s1 s2 s3 s4 : Addr) (a b x z : Int64) (w2 : Int32) (k : Int32) (hk : k.toInt64 ≠ 0) (hk2 : (k * w2).toInt64 ≠ 0) :
    Con l (⟨"com/example/leadhorizon/leadhorizon/io/SharedBudget", "left", "(I)J"⟩ : MethodName) prog_30_method_3_code 4 (some .long) ({ frames := 1, cells := 0, slots := 0, locals := 17 } : Room) Z n0 #[(.ref i), (.int k)] ([(o, O_SharedBudget (.long a) (.ref s1) (.ref s2) .null (.int (1 : Int32)) (.long x)), (i, O_SharedBudget (.long b) (.ref s3) (.ref s4) (.ref o) (.int w2) (.long z))]) (fun v L' => v = some (.long (own_min (z / k.toInt64) (x / (k * w2).toInt64))) ∧ L' = [(o, O_SharedBudget (.long a) (.ref s1) (.ref s2) .null (.int (1 : Int32)) (.long x)), (i, O_SharedBudget (.long b) (.ref s3) (.ref s4) (.ref o) (.int w2) (.long z))]) := by
  refine Con.of (ws := tables_1) (a0 := a0) pn_7 hw ?_
  intro p e s m below meth cde T kb w
  refine g_entry #[.val (.ref i), .val (.int k), .unset, .unset] (by first | (simp [entryFrame, mkF, argsToLocals, Value.category]; done) | rfl) ?_
  refine g_aloadN w d7_0 rfl rfl 1 rfl ?_
  refine g_getf w d7_1 1 rfl 5 rfl 32 rfl Via.refl 4 rfl (fun T w => ?_)
  refine g_iloadN w d7_4 rfl 5 rfl ?_
  refine g_i2l w d7_5 6 rfl ?_
  refine g_ldiv w d7_6 hk 7 rfl ?_
  refine g_lstoreN w d7_7 8 rfl rfl #[.val (.ref i), .val (.int k), .val (.long (z / (k.toInt64))), .second] rfl ?_
  refine g_aloadN w d7_8 rfl rfl 9 rfl ?_
  refine g_getf w d7_9 1 rfl 3 rfl 28 rfl Via.refl 12 rfl (fun T w => ?_)
  refine g_ifnonnullT w d7_12 19 (by decide) (by decide) ?_
  refine g_lloadN w d7_19 rfl 20 rfl ?_
  refine g_aloadN w d7_20 rfl rfl 21 rfl ?_
  refine g_getf w d7_21 1 rfl 3 rfl 28 rfl Via.refl 24 rfl (fun T w => ?_)
  refine g_iloadN w d7_24 rfl 25 rfl ?_
  refine g_aloadN w d7_25 rfl rfl 26 rfl ?_
  refine g_getf w d7_26 1 rfl 4 rfl 30 rfl Via.refl 29 rfl (fun T w => ?_)
  refine g_imul w d7_29 30 rfl ?_
  refine g_virt w (argsL := [(.int (k * w2))]) (rest := [(.long (z / (k.toInt64)))]) (rmLo l Z a0 hw n0 o i s1 s2 s3 s4 a b x z w2 (k * w2) hk2) d7_30 0 rfl 56 rfl 52 rfl 3 rfl 55 rfl 54 rfl 53 rfl ⟨by decide, by decide⟩ pd_2 rfl rfl rfl 2 rfl (by decide) (by decide) (by decide) (by decide) 33 rfl (fun T v L w h => ?_)
  obtain ⟨rfl, rfl⟩ := h
  refine g_static w (argsL := [(.long (z / (k.toInt64))), (.long (x / (k * w2).toInt64))]) (rest := []) (rm4 l Z a0 hw n0 (z / (k.toInt64)) (x / (k * w2).toInt64) ([(o, O_SharedBudget (.long a) (.ref s1) (.ref s2) .null (.int (1 : Int32)) (.long x)), (i, O_SharedBudget (.long b) (.ref s3) (.ref s4) (.ref o) (.int w2) (.long z))])) d7_33 57 rfl 38 rfl 39 rfl 40 rfl ⟨by decide, by decide⟩ pd_3 rfl rfl rfl 0 rfl (by decide) (by decide) (by decide) (by decide) 36 rfl (fun T v L w h => ?_)
  obtain ⟨rfl, rfl⟩ := h
  exact g_lret w d7_36 (by decide) (by decide) ⟨rfl, rfl⟩
theorem own_atoms : ∀ d ∈ Bundle.stringAtoms, d ∈ tables_1 := by
  intro d hd
  simp only [Bundle.stringAtoms, List.mem_cons, List.not_mem_nil, or_false] at hd
  rcases hd with rfl | rfl | rfl | rfl | rfl | rfl | rfl
  · exact List.mem_of_getElem? (i := 5) rfl
  · exact List.mem_of_getElem? (i := 6) rfl
  · exact List.mem_of_getElem? (i := 7) rfl
  · exact List.mem_of_getElem? (i := 8) rfl
  · exact List.mem_of_getElem? (i := 9) rfl
  · exact List.mem_of_getElem? (i := 10) rfl
  · exact List.mem_of_getElem? (i := 11) rfl
theorem pd_4 : parseMethodDescriptor "(JLjava/lang/String;Ljava/lang/String;)V" = some ⟨[.long, (.object "java/lang/String"), (.object "java/lang/String")], none⟩ := by decide +kernel
theorem pn_0 : plainFor x = true := plainFor_of_name (by first | (simp [plainName, overriddenIn, x]; done) | decide +kernel)
set_option maxRecDepth 65536 in
set_option maxHeartbeats 40000000 in
theorem rm0 (l : Launch) (Z : State) (a0 : Array Value) (hw : ∀ d ∈ tables_1, d.before a0 Z = true) (n0 : Nat) (u0 u1 u2 u3 : Int64) (ws : Int32)  :
    ConW l x code maxLocals ret room_1 Z n0 #[(.long u0), (.long u1), (.long u2), (.long u3), (.int ws)] ([]) (fun v _ => v = some (.int 1)) := by
  refine ConW.of (ws := tables_1) (a0 := a0) pn_0 hw ?_
  intro p e s m below meth cde T kb vm0 hS w
  refine g_entry #[.val (.long u0), .second, .val (.long u1), .second, .val (.long u2), .second, .val (.long u3), .second, .val (.int ws), .unset, .unset, .unset, .unset, .unset, .unset, .unset, .unset, .unset, .unset, .unset, .unset, .unset, .unset, .unset, .unset, .unset, .unset, .unset, .unset, .unset, .unset, .unset, .unset, .unset] (by first | (simp [entryFrame, mkF, argsToLocals, Value.category, maxLocals]; done) | rfl) ?_
  refine g_lloadN w at_0 rfl 1 rfl ?_
  refine g_ldcl w at_1 0 rfl 4 rfl ?_
  refine g_land w at_4 5 rfl ?_
  obtain ⟨a, ha⟩ : ∃ z, z = ((u0 &&& (9223372036854775807 : Int64)) : Int64) := ⟨_, rfl⟩
  refine g_lstore w at_5 7 rfl ha.symm #[.val (.long u0), .second, .val (.long u1), .second, .val (.long u2), .second, .val (.long u3), .second, .val (.int ws), .val (.long a), .second, .unset, .unset, .unset, .unset, .unset, .unset, .unset, .unset, .unset, .unset, .unset, .unset, .unset, .unset, .unset, .unset, .unset, .unset, .unset, .unset, .unset, .unset, .unset] rfl ?_
  have hA : 0 ≤ a.toInt := by rw [ha]; exact own_nnOf u0
  refine g_lloadN w at_7 rfl 8 rfl ?_
  refine g_ldcl w at_8 0 rfl 11 rfl ?_
  refine g_land w at_11 12 rfl ?_
  obtain ⟨b, hb⟩ : ∃ z, z = ((u1 &&& (9223372036854775807 : Int64)) : Int64) := ⟨_, rfl⟩
  refine g_lstore w at_12 14 rfl hb.symm #[.val (.long u0), .second, .val (.long u1), .second, .val (.long u2), .second, .val (.long u3), .second, .val (.int ws), .val (.long a), .second, .val (.long b), .second, .unset, .unset, .unset, .unset, .unset, .unset, .unset, .unset, .unset, .unset, .unset, .unset, .unset, .unset, .unset, .unset, .unset, .unset, .unset, .unset, .unset] rfl ?_
  have hB : 0 ≤ b.toInt := by rw [hb]; exact own_nnOf u1
  refine g_iload w at_14 rfl 16 rfl ?_
  refine g_bipush w at_16 (7 : Int32) rfl 18 rfl ?_
  refine g_iand w at_18 19 rfl ?_
  refine g_iconst w at_19 (1 : Int32) rfl 20 rfl ?_
  refine g_iadd w at_20 21 rfl ?_
  obtain ⟨w1, hw1⟩ : ∃ z, z = (((ws &&& (7 : Int32)) + (1 : Int32)) : Int32) := ⟨_, rfl⟩
  refine g_istore w at_21 23 rfl hw1.symm #[.val (.long u0), .second, .val (.long u1), .second, .val (.long u2), .second, .val (.long u3), .second, .val (.int ws), .val (.long a), .second, .val (.long b), .second, .val (.int w1), .unset, .unset, .unset, .unset, .unset, .unset, .unset, .unset, .unset, .unset, .unset, .unset, .unset, .unset, .unset, .unset, .unset, .unset, .unset, .unset] rfl ?_
  have hp1 : own_pos w1 := by rw [hw1]; exact own_posOf _
  refine g_iload w at_23 rfl 25 rfl ?_
  refine g_iconst w at_25 (3 : Int32) rfl 26 rfl ?_
  refine g_iushr w at_26 27 rfl ?_
  refine g_bipush w at_27 (7 : Int32) rfl 29 rfl ?_
  refine g_iand w at_29 30 rfl ?_
  refine g_iconst w at_30 (1 : Int32) rfl 31 rfl ?_
  refine g_iadd w at_31 32 rfl ?_
  obtain ⟨w2, hw2⟩ : ∃ z, z = ((((ushrI ws (3 : Int32)) &&& (7 : Int32)) + (1 : Int32)) : Int32) := ⟨_, rfl⟩
  refine g_istore w at_32 34 rfl hw2.symm #[.val (.long u0), .second, .val (.long u1), .second, .val (.long u2), .second, .val (.long u3), .second, .val (.int ws), .val (.long a), .second, .val (.long b), .second, .val (.int w1), .val (.int w2), .unset, .unset, .unset, .unset, .unset, .unset, .unset, .unset, .unset, .unset, .unset, .unset, .unset, .unset, .unset, .unset, .unset, .unset, .unset] rfl ?_
  have hw2' : own_pos w2 := by rw [hw2]; exact own_posOf _
  replace hw2 := hw2'
  refine g_iload w at_34 rfl 36 rfl ?_
  refine g_bipush w at_36 (6 : Int32) rfl 38 rfl ?_
  refine g_iushr w at_38 39 rfl ?_
  refine g_bipush w at_39 (7 : Int32) rfl 41 rfl ?_
  refine g_iand w at_41 42 rfl ?_
  refine g_iconst w at_42 (1 : Int32) rfl 43 rfl ?_
  refine g_iadd w at_43 44 rfl ?_
  obtain ⟨w3, hw3⟩ : ∃ z, z = ((((ushrI ws (6 : Int32)) &&& (7 : Int32)) + (1 : Int32)) : Int32) := ⟨_, rfl⟩
  refine g_istore w at_44 46 rfl hw3.symm #[.val (.long u0), .second, .val (.long u1), .second, .val (.long u2), .second, .val (.long u3), .second, .val (.int ws), .val (.long a), .second, .val (.long b), .second, .val (.int w1), .val (.int w2), .val (.int w3), .unset, .unset, .unset, .unset, .unset, .unset, .unset, .unset, .unset, .unset, .unset, .unset, .unset, .unset, .unset, .unset, .unset, .unset] rfl ?_
  have hp3 : own_pos w3 := by rw [hw3]; exact own_posOf _
  refine g_new w [("com/example/leadhorizon/leadhorizon/io/SharedBudget", "budget", "J", (.long (0 : Int64))), ("com/example/leadhorizon/leadhorizon/io/SharedBudget", "verb", "Ljava/lang/String;", .null), ("com/example/leadhorizon/leadhorizon/io/SharedBudget", "most", "Ljava/lang/String;", .null), ("com/example/leadhorizon/leadhorizon/io/SharedBudget", "within", "Lcom/example/leadhorizon/leadhorizon/io/SharedBudget;", .null), ("com/example/leadhorizon/leadhorizon/io/SharedBudget", "weight", "I", (.int (0 : Int32))), ("com/example/leadhorizon/leadhorizon/io/SharedBudget", "left", "J", (.long (0 : Int64)))] at_46 1 rfl 2 rfl 3 rfl (FOk.cons (Or.inr (w.hw (k := 23) rfl)) (ty := .long) (by decide) rfl (FOk.cons (Or.inr (w.hw (k := 25) rfl)) (ty := (.object "java/lang/String")) (by decide) rfl (FOk.cons (Or.inr (w.hw (k := 27) rfl)) (ty := (.object "java/lang/String")) (by decide) rfl (FOk.cons (Or.inr (w.hw (k := 29) rfl)) (ty := (.object "com/example/leadhorizon/leadhorizon/io/SharedBudget")) (by decide) rfl (FOk.cons (Or.inr (w.hw (k := 31) rfl)) (ty := .int) (by decide) rfl (FOk.cons (Or.inl (w.hw (k := 33) rfl)) (ty := .long) (by decide) rfl trivial)))))) (by decide) (by decide) (by decide) 49 rfl (fun T b1 w => ?_)
  replace w := w.to (L' := [(b1, O_SharedBudget (.long (0 : Int64)) .null .null .null (.int (0 : Int32)) (.long (0 : Int64)))]) rfl
  refine g_dup w at_49 rfl 50 rfl ?_
  refine g_lload w at_50 rfl 52 rfl ?_
  refine g_ldcS w hS at_52 4 rfl own_atoms 16 (by decide) (by decide) (by decide) (by decide) 54 rfl (fun T vm0 kb sa2 hS w => ?_)
  refine g_ldcS w hS at_54 12 rfl own_atoms 32 (by decide) (by decide) (by decide) (by decide) 56 rfl (fun T vm0 kb sa3 hS w => ?_)
  refine g_ctor w (argsL := [(.long a), (.ref sa2), (.ref sa3)]) (rest := [(.ref b1)]) (rm1 l Z a0 hw n0 b1 sa2 sa3 a) at_56 13 rfl 14 rfl 3 rfl 15 rfl rfl ⟨by decide, by decide⟩ pd_4 rfl rfl rfl 1 rfl (by decide) (by decide) (by decide) (by decide) 59 rfl (fun T v L w h => ?_)
  obtain ⟨rfl, rfl⟩ := h
  refine g_astore w at_59 61 rfl rfl #[.val (.long u0), .second, .val (.long u1), .second, .val (.long u2), .second, .val (.long u3), .second, .val (.int ws), .val (.long a), .second, .val (.long b), .second, .val (.int w1), .val (.int w2), .val (.int w3), .val (.ref b1), .unset, .unset, .unset, .unset, .unset, .unset, .unset, .unset, .unset, .unset, .unset, .unset, .unset, .unset, .unset, .unset, .unset] rfl ?_
  refine g_new w [("com/example/leadhorizon/leadhorizon/io/SharedBudget", "budget", "J", (.long (0 : Int64))), ("com/example/leadhorizon/leadhorizon/io/SharedBudget", "verb", "Ljava/lang/String;", .null), ("com/example/leadhorizon/leadhorizon/io/SharedBudget", "most", "Ljava/lang/String;", .null), ("com/example/leadhorizon/leadhorizon/io/SharedBudget", "within", "Lcom/example/leadhorizon/leadhorizon/io/SharedBudget;", .null), ("com/example/leadhorizon/leadhorizon/io/SharedBudget", "weight", "I", (.int (0 : Int32))), ("com/example/leadhorizon/leadhorizon/io/SharedBudget", "left", "J", (.long (0 : Int64)))] at_61 1 rfl 2 rfl 3 rfl (FOk.cons (Or.inr (w.hw (k := 23) rfl)) (ty := .long) (by decide) rfl (FOk.cons (Or.inr (w.hw (k := 25) rfl)) (ty := (.object "java/lang/String")) (by decide) rfl (FOk.cons (Or.inr (w.hw (k := 27) rfl)) (ty := (.object "java/lang/String")) (by decide) rfl (FOk.cons (Or.inr (w.hw (k := 29) rfl)) (ty := (.object "com/example/leadhorizon/leadhorizon/io/SharedBudget")) (by decide) rfl (FOk.cons (Or.inr (w.hw (k := 31) rfl)) (ty := .int) (by decide) rfl (FOk.cons (Or.inl (w.hw (k := 33) rfl)) (ty := .long) (by decide) rfl trivial)))))) (by decide) (by decide) (by decide) 64 rfl (fun T b4 w => ?_)
  replace w := w.to (L' := [(b1, O_SharedBudget (.long a) (.ref sa2) (.ref sa3) .null (.int (1 : Int32)) (.long a)), (b4, O_SharedBudget (.long (0 : Int64)) .null .null .null (.int (0 : Int32)) (.long (0 : Int64)))]) rfl
  refine g_dup w at_64 rfl 65 rfl ?_
  refine g_lload w at_65 rfl 67 rfl ?_
  refine g_ldcS w hS at_67 34 rfl own_atoms 16 (by decide) (by decide) (by decide) (by decide) 69 rfl (fun T vm0 kb sa5 hS w => ?_)
  refine g_ldcS w hS at_69 35 rfl own_atoms 56 (by decide) (by decide) (by decide) (by decide) 71 rfl (fun T vm0 kb sa6 hS w => ?_)
  refine g_aload w at_71 rfl rfl 73 rfl ?_
  refine g_iload w at_73 rfl 75 rfl ?_
  refine g_ctor w (argsL := [(.long b), (.ref sa5), (.ref sa6), (.ref b1), (.int w2)]) (rest := [(.ref b4)]) (rmC2b l Z a0 hw n0 b1 b4 sa2 sa3 sa5 sa6 a b w2) at_75 36 rfl 17 rfl 3 rfl 18 rfl rfl ⟨by decide, by decide⟩ pd_0 rfl rfl rfl 1 rfl (by decide) (by decide) (by decide) (by decide) 78 rfl (fun T v L w h => ?_)
  obtain ⟨rfl, rfl⟩ := h
  refine g_astore w at_78 80 rfl rfl #[.val (.long u0), .second, .val (.long u1), .second, .val (.long u2), .second, .val (.long u3), .second, .val (.int ws), .val (.long a), .second, .val (.long b), .second, .val (.int w1), .val (.int w2), .val (.int w3), .val (.ref b1), .val (.ref b4), .unset, .unset, .unset, .unset, .unset, .unset, .unset, .unset, .unset, .unset, .unset, .unset, .unset, .unset, .unset, .unset] rfl ?_
  refine g_lload w at_80 rfl 82 rfl ?_
  refine g_iload w at_82 rfl 84 rfl ?_
  refine g_i2l w at_84 85 rfl ?_
  refine g_ldiv w at_85 (own_wz hp1) 86 rfl ?_
  refine g_lload w at_86 rfl 88 rfl ?_
  refine g_iload w at_88 rfl 90 rfl ?_
  refine g_i2l w at_90 91 rfl ?_
  refine g_iload w at_91 rfl 93 rfl ?_
  refine g_i2l w at_93 94 rfl ?_
  refine g_lmul w at_94 95 rfl ?_
  refine g_ldiv w at_95 (own_mulz hp1 hw2) 96 rfl ?_
  refine g_static w (argsL := [(.long (b / (w1.toInt64))), (.long (a / ((w1.toInt64) * (w2.toInt64))))]) (rest := []) (rm4 l Z a0 hw n0 (b / (w1.toInt64)) (a / ((w1.toInt64) * (w2.toInt64))) ([(b1, O_SharedBudget (.long a) (.ref sa2) (.ref sa3) .null (.int (1 : Int32)) (.long a)), (b4, O_SharedBudget (.long b) (.ref sa5) (.ref sa6) (.ref b1) (.int w2) (.long b))])) at_96 37 rfl 38 rfl 39 rfl 40 rfl ⟨by decide, by decide⟩ pd_3 rfl rfl rfl 0 rfl (by decide) (by decide) (by decide) (by decide) 99 rfl (fun T v L w h => ?_)
  obtain ⟨rfl, rfl⟩ := h
  obtain ⟨cap1, hcap1⟩ : ∃ z, z = ((own_min (b / (w1.toInt64)) (a / ((w1.toInt64) * (w2.toInt64)))) : Int64) := ⟨_, rfl⟩
  refine g_lstore w at_99 101 rfl hcap1.symm #[.val (.long u0), .second, .val (.long u1), .second, .val (.long u2), .second, .val (.long u3), .second, .val (.int ws), .val (.long a), .second, .val (.long b), .second, .val (.int w1), .val (.int w2), .val (.int w3), .val (.ref b1), .val (.ref b4), .val (.long cap1), .second, .unset, .unset, .unset, .unset, .unset, .unset, .unset, .unset, .unset, .unset, .unset, .unset, .unset, .unset] rfl ?_
  have hm := own_min_b (a := b / w1.toInt64) (b := a / (w1.toInt64 * w2.toInt64)) (by have := own_dv (y := w1.toInt64) hB (by rw [own_l]; exact hp1.1); omega) (by have h := own_mulI hp1 hw2; have := own_dv (y := w1.toInt64 * w2.toInt64) hA (by rw [← own_mulL hp1 hw2, own_l, h.1]; exact h.2.1); omega)
  rw [← hcap1] at hm
  have hcapE := hcap1
  replace hcap1 := hm.1
  refine g_lload w at_101 rfl 103 rfl ?_
  refine g_lload w at_103 rfl 105 rfl ?_
  refine g_static w (argsL := [(.long u2), (.long cap1)]) (rest := []) (rm5 l Z a0 hw n0 u2 cap1 ([(b1, O_SharedBudget (.long a) (.ref sa2) (.ref sa3) .null (.int (1 : Int32)) (.long a)), (b4, O_SharedBudget (.long b) (.ref sa5) (.ref sa6) (.ref b1) (.int w2) (.long b))]) hcap1) at_105 41 rfl 42 rfl 43 rfl 44 rfl ⟨by decide, by decide⟩ pd_3 rfl rfl rfl 0 rfl (by decide) (by decide) (by decide) (by decide) 108 rfl (fun T v L w h => ?_)
  obtain ⟨rfl, rfl⟩ := h
  obtain ⟨v1, hv1⟩ : ∃ z, z = ((own_bd u2 cap1) : Int64) := ⟨_, rfl⟩
  refine g_lstore w at_108 110 rfl hv1.symm #[.val (.long u0), .second, .val (.long u1), .second, .val (.long u2), .second, .val (.long u3), .second, .val (.int ws), .val (.long a), .second, .val (.long b), .second, .val (.int w1), .val (.int w2), .val (.int w3), .val (.ref b1), .val (.ref b4), .val (.long cap1), .second, .val (.long v1), .second, .unset, .unset, .unset, .unset, .unset, .unset, .unset, .unset, .unset, .unset, .unset, .unset] rfl ?_
  have hv := own_bd_b (u := u2) hcap1
  rw [← hv1] at hv
  refine g_aload w at_110 rfl rfl 112 rfl ?_
  refine g_lload w at_112 rfl 114 rfl ?_
  refine g_iload w at_114 rfl 116 rfl ?_
  refine g_virt w (argsL := [(.long v1), (.int w1)]) (rest := []) (rmTi l Z a0 hw n0 b1 b4 sa2 sa3 sa5 sa6 a b a b w2 v1 w1) at_116 1 rfl 45 rfl 46 rfl 3 rfl 49 rfl 48 rfl 47 rfl ⟨by decide, by decide⟩ pd_1 rfl rfl rfl 0 rfl (by decide) (by decide) (by decide) (by decide) 119 rfl (fun T v L w h => ?_)
  obtain ⟨rfl, rfl⟩ := h
  have eo : a - v1 * (w1 * w2).toInt64 = a - v1 * w1.toInt64 * w2.toInt64 := by rw [own_mulL hp1 hw2, Int64.mul_assoc]
  replace w := w.to (L' := [(b1, O_SharedBudget (.long a) (.ref sa2) (.ref sa3) .null (.int (1 : Int32)) (.long (a - v1 * w1.toInt64 * w2.toInt64))), (b4, O_SharedBudget (.long b) (.ref sa5) (.ref sa6) (.ref b1) (.int w2) (.long (b - v1 * w1.toInt64)))]) (by rw [eo])
  refine g_lload w at_119 rfl 121 rfl ?_
  refine g_lload w at_121 rfl 123 rfl ?_
  refine g_iload w at_123 rfl 125 rfl ?_
  refine g_i2l w at_125 126 rfl ?_
  refine g_lmul w at_126 127 rfl ?_
  refine g_iload w at_127 rfl 129 rfl ?_
  refine g_i2l w at_129 130 rfl ?_
  refine g_lmul w at_130 131 rfl ?_
  refine g_lsub w at_131 132 rfl ?_
  obtain ⟨a1, ha1⟩ : ∃ z, z = ((a - ((v1 * (w1.toInt64)) * (w2.toInt64))) : Int64) := ⟨_, rfl⟩
  refine g_lstore w at_132 134 rfl ha1.symm #[.val (.long u0), .second, .val (.long u1), .second, .val (.long u2), .second, .val (.long u3), .second, .val (.int ws), .val (.long a), .second, .val (.long b), .second, .val (.int w1), .val (.int w2), .val (.int w3), .val (.ref b1), .val (.ref b4), .val (.long cap1), .second, .val (.long v1), .second, .val (.long a1), .second, .unset, .unset, .unset, .unset, .unset, .unset, .unset, .unset, .unset, .unset] rfl ?_
  have h1n : 0 ≤ a1.toInt := by rw [ha1]; exact own_left hA hp1 hw2 hv.1 (Int.le_trans hv.2 hm.2.2)
  replace w := w.to (L' := [(b1, O_SharedBudget (.long a) (.ref sa2) (.ref sa3) .null (.int (1 : Int32)) (.long a1)), (b4, O_SharedBudget (.long b) (.ref sa5) (.ref sa6) (.ref b1) (.int w2) (.long (b - v1 * w1.toInt64)))]) (by rw [ha1])
  refine g_lload w at_134 rfl 136 rfl ?_
  refine g_lload w at_136 rfl 138 rfl ?_
  refine g_iload w at_138 rfl 140 rfl ?_
  refine g_i2l w at_140 141 rfl ?_
  refine g_lmul w at_141 142 rfl ?_
  refine g_lsub w at_142 143 rfl ?_
  obtain ⟨i1, hi1⟩ : ∃ z, z = ((b - (v1 * (w1.toInt64))) : Int64) := ⟨_, rfl⟩
  refine g_lstore w at_143 145 rfl hi1.symm #[.val (.long u0), .second, .val (.long u1), .second, .val (.long u2), .second, .val (.long u3), .second, .val (.int ws), .val (.long a), .second, .val (.long b), .second, .val (.int w1), .val (.int w2), .val (.int w3), .val (.ref b1), .val (.ref b4), .val (.long cap1), .second, .val (.long v1), .second, .val (.long a1), .second, .val (.long i1), .second, .unset, .unset, .unset, .unset, .unset, .unset, .unset, .unset] rfl ?_
  replace w := w.to (L' := [(b1, O_SharedBudget (.long a) (.ref sa2) (.ref sa3) .null (.int (1 : Int32)) (.long a1)), (b4, O_SharedBudget (.long b) (.ref sa5) (.ref sa6) (.ref b1) (.int w2) (.long i1))]) (by rw [hi1])
  refine g_aload w at_145 rfl rfl 147 rfl ?_
  refine g_iconst w at_147 (1 : Int32) rfl 148 rfl ?_
  refine g_virt w (argsL := [(.int (1 : Int32))]) (rest := []) (rmLo l Z a0 hw n0 b1 b4 sa2 sa3 sa5 sa6 a b a1 i1 w2 (1 : Int32) (by decide)) at_148 0 rfl 51 rfl 52 rfl 3 rfl 55 rfl 54 rfl 53 rfl ⟨by decide, by decide⟩ pd_2 rfl rfl rfl 0 rfl (by decide) (by decide) (by decide) (by decide) 151 rfl (fun T v L w h => ?_)
  obtain ⟨rfl, rfl⟩ := h
  refine g_lload w at_151 rfl 153 rfl ?_
  refine g_lcmp w at_153 154 rfl ?_
  refine g_lif_ne w at_154 182 (by decide) (by decide) 157 rfl (fun h => absurd (own_div1 _) h) (fun hc154 => ?_)
  refine g_aload w at_157 rfl rfl 159 rfl ?_
  refine g_iconst w at_159 (1 : Int32) rfl 160 rfl ?_
  refine g_virt w (argsL := [(.int (1 : Int32))]) (rest := []) (rmLi l Z a0 hw n0 b1 b4 sa2 sa3 sa5 sa6 a b a1 i1 w2 (1 : Int32) (by decide) (by rw [own_onew]; exact own_wz hw2)) at_160 1 rfl 51 rfl 52 rfl 3 rfl 55 rfl 54 rfl 53 rfl ⟨by decide, by decide⟩ pd_2 rfl rfl rfl 0 rfl (by decide) (by decide) (by decide) (by decide) 163 rfl (fun T v L w h => ?_)
  obtain ⟨rfl, rfl⟩ := h
  refine g_lload w at_163 rfl 165 rfl ?_
  refine g_lload w at_165 rfl 167 rfl ?_
  refine g_iload w at_167 rfl 169 rfl ?_
  refine g_i2l w at_169 170 rfl ?_
  refine g_ldiv w at_170 (own_wz hw2) 171 rfl ?_
  refine g_static w (argsL := [(.long i1), (.long (a1 / (w2.toInt64)))]) (rest := [(.long (own_min (i1 / (1 : Int32).toInt64) (a1 / ((1 : Int32) * w2).toInt64)))]) (rm4 l Z a0 hw n0 i1 (a1 / (w2.toInt64)) ([(b1, O_SharedBudget (.long a) (.ref sa2) (.ref sa3) .null (.int (1 : Int32)) (.long a1)), (b4, O_SharedBudget (.long b) (.ref sa5) (.ref sa6) (.ref b1) (.int w2) (.long i1))])) at_171 37 rfl 38 rfl 39 rfl 40 rfl ⟨by decide, by decide⟩ pd_3 rfl rfl rfl 2 rfl (by decide) (by decide) (by decide) (by decide) 174 rfl (fun T v L w h => ?_)
  obtain ⟨rfl, rfl⟩ := h
  refine g_lcmp w at_174 175 rfl ?_
  refine g_lif_ne w at_175 182 (by decide) (by decide) 178 rfl (fun h => absurd (by rw [own_div1, own_onew]) h) (fun hc175 => ?_)
  refine g_iconst w at_178 (1 : Int32) rfl 179 rfl ?_
  refine g_goto w at_179 183 (by decide) (by decide) ?_
  refine g_istore w at_183 185 rfl rfl #[.val (.long u0), .second, .val (.long u1), .second, .val (.long u2), .second, .val (.long u3), .second, .val (.int ws), .val (.long a), .second, .val (.long b), .second, .val (.int w1), .val (.int w2), .val (.int w3), .val (.ref b1), .val (.ref b4), .val (.long cap1), .second, .val (.long v1), .second, .val (.long a1), .second, .val (.long i1), .second, .val (.int (1 : Int32)), .unset, .unset, .unset, .unset, .unset, .unset, .unset] rfl ?_
  refine g_lload w at_185 rfl 187 rfl ?_
  refine g_iload w at_187 rfl 189 rfl ?_
  refine g_i2l w at_189 190 rfl ?_
  refine g_ldiv w at_190 (own_wz hp3) 191 rfl ?_
  obtain ⟨cap2, hcap2⟩ : ∃ z, z = ((a1 / (w3.toInt64)) : Int64) := ⟨_, rfl⟩
  refine g_lstore w at_191 193 rfl hcap2.symm #[.val (.long u0), .second, .val (.long u1), .second, .val (.long u2), .second, .val (.long u3), .second, .val (.int ws), .val (.long a), .second, .val (.long b), .second, .val (.int w1), .val (.int w2), .val (.int w3), .val (.ref b1), .val (.ref b4), .val (.long cap1), .second, .val (.long v1), .second, .val (.long a1), .second, .val (.long i1), .second, .val (.int (1 : Int32)), .val (.long cap2), .second, .unset, .unset, .unset, .unset, .unset] rfl ?_
  have hcap2E := hcap2
  replace hcap2 : 0 ≤ cap2.toInt := by rw [hcap2E]; have := own_dv (y := w3.toInt64) h1n (by rw [own_l]; exact hp3.1); omega
  refine g_lload w at_193 rfl 195 rfl ?_
  refine g_lload w at_195 rfl 197 rfl ?_
  refine g_static w (argsL := [(.long u3), (.long cap2)]) (rest := []) (rm5 l Z a0 hw n0 u3 cap2 ([(b1, O_SharedBudget (.long a) (.ref sa2) (.ref sa3) .null (.int (1 : Int32)) (.long a1)), (b4, O_SharedBudget (.long b) (.ref sa5) (.ref sa6) (.ref b1) (.int w2) (.long i1))]) hcap2) at_197 41 rfl 42 rfl 43 rfl 44 rfl ⟨by decide, by decide⟩ pd_3 rfl rfl rfl 0 rfl (by decide) (by decide) (by decide) (by decide) 200 rfl (fun T v L w h => ?_)
  obtain ⟨rfl, rfl⟩ := h
  obtain ⟨v2, hv2⟩ : ∃ z, z = ((own_bd u3 cap2) : Int64) := ⟨_, rfl⟩
  refine g_lstore w at_200 202 rfl hv2.symm #[.val (.long u0), .second, .val (.long u1), .second, .val (.long u2), .second, .val (.long u3), .second, .val (.int ws), .val (.long a), .second, .val (.long b), .second, .val (.int w1), .val (.int w2), .val (.int w3), .val (.ref b1), .val (.ref b4), .val (.long cap1), .second, .val (.long v1), .second, .val (.long a1), .second, .val (.long i1), .second, .val (.int (1 : Int32)), .val (.long cap2), .second, .val (.long v2), .second, .unset, .unset, .unset] rfl ?_
  refine g_aload w at_202 rfl rfl 204 rfl ?_
  refine g_lload w at_204 rfl 206 rfl ?_
  refine g_iload w at_206 rfl 208 rfl ?_
  refine g_virt w (argsL := [(.long v2), (.int w3)]) (rest := []) (rmTo l Z a0 hw n0 b1 b4 sa2 sa3 sa5 sa6 a b a1 i1 w2 v2 w3) at_208 0 rfl 45 rfl 46 rfl 3 rfl 49 rfl 48 rfl 47 rfl ⟨by decide, by decide⟩ pd_1 rfl rfl rfl 0 rfl (by decide) (by decide) (by decide) (by decide) 211 rfl (fun T v L w h => ?_)
  obtain ⟨rfl, rfl⟩ := h
  refine g_lload w at_211 rfl 213 rfl ?_
  refine g_lload w at_213 rfl 215 rfl ?_
  refine g_iload w at_215 rfl 217 rfl ?_
  refine g_i2l w at_217 218 rfl ?_
  refine g_lmul w at_218 219 rfl ?_
  refine g_lsub w at_219 220 rfl ?_
  obtain ⟨a2, ha2⟩ : ∃ z, z = ((a1 - (v2 * (w3.toInt64))) : Int64) := ⟨_, rfl⟩
  refine g_lstore w at_220 222 rfl ha2.symm #[.val (.long u0), .second, .val (.long u1), .second, .val (.long u2), .second, .val (.long u3), .second, .val (.int ws), .val (.long a), .second, .val (.long b), .second, .val (.int w1), .val (.int w2), .val (.int w3), .val (.ref b1), .val (.ref b4), .val (.long cap1), .second, .val (.long v1), .second, .val (.long a1), .second, .val (.long i1), .second, .val (.int (1 : Int32)), .val (.long cap2), .second, .val (.long v2), .second, .val (.long a2), .second, .unset] rfl ?_
  replace w := w.to (L' := [(b1, O_SharedBudget (.long a) (.ref sa2) (.ref sa3) .null (.int (1 : Int32)) (.long a2)), (b4, O_SharedBudget (.long b) (.ref sa5) (.ref sa6) (.ref b1) (.int w2) (.long i1))]) (by rw [ha2])
  refine g_aload w at_222 rfl rfl 224 rfl ?_
  refine g_iconst w at_224 (1 : Int32) rfl 225 rfl ?_
  refine g_virt w (argsL := [(.int (1 : Int32))]) (rest := []) (rmLo l Z a0 hw n0 b1 b4 sa2 sa3 sa5 sa6 a b a2 i1 w2 (1 : Int32) (by decide)) at_225 0 rfl 51 rfl 52 rfl 3 rfl 55 rfl 54 rfl 53 rfl ⟨by decide, by decide⟩ pd_2 rfl rfl rfl 0 rfl (by decide) (by decide) (by decide) (by decide) 228 rfl (fun T v L w h => ?_)
  obtain ⟨rfl, rfl⟩ := h
  refine g_lload w at_228 rfl 230 rfl ?_
  refine g_lcmp w at_230 231 rfl ?_
  refine g_lif_ne w at_231 259 (by decide) (by decide) 234 rfl (fun h => absurd (own_div1 _) h) (fun hc231 => ?_)
  refine g_aload w at_234 rfl rfl 236 rfl ?_
  refine g_iconst w at_236 (1 : Int32) rfl 237 rfl ?_
  refine g_virt w (argsL := [(.int (1 : Int32))]) (rest := []) (rmLi l Z a0 hw n0 b1 b4 sa2 sa3 sa5 sa6 a b a2 i1 w2 (1 : Int32) (by decide) (by rw [own_onew]; exact own_wz hw2)) at_237 1 rfl 51 rfl 52 rfl 3 rfl 55 rfl 54 rfl 53 rfl ⟨by decide, by decide⟩ pd_2 rfl rfl rfl 0 rfl (by decide) (by decide) (by decide) (by decide) 240 rfl (fun T v L w h => ?_)
  obtain ⟨rfl, rfl⟩ := h
  refine g_lload w at_240 rfl 242 rfl ?_
  refine g_lload w at_242 rfl 244 rfl ?_
  refine g_iload w at_244 rfl 246 rfl ?_
  refine g_i2l w at_246 247 rfl ?_
  refine g_ldiv w at_247 (own_wz hw2) 248 rfl ?_
  refine g_static w (argsL := [(.long i1), (.long (a2 / (w2.toInt64)))]) (rest := [(.long (own_min (i1 / (1 : Int32).toInt64) (a2 / ((1 : Int32) * w2).toInt64)))]) (rm4 l Z a0 hw n0 i1 (a2 / (w2.toInt64)) ([(b1, O_SharedBudget (.long a) (.ref sa2) (.ref sa3) .null (.int (1 : Int32)) (.long a2)), (b4, O_SharedBudget (.long b) (.ref sa5) (.ref sa6) (.ref b1) (.int w2) (.long i1))])) at_248 37 rfl 38 rfl 39 rfl 40 rfl ⟨by decide, by decide⟩ pd_3 rfl rfl rfl 2 rfl (by decide) (by decide) (by decide) (by decide) 251 rfl (fun T v L w h => ?_)
  obtain ⟨rfl, rfl⟩ := h
  refine g_lcmp w at_251 252 rfl ?_
  refine g_lif_ne w at_252 259 (by decide) (by decide) 255 rfl (fun h => absurd (by rw [own_div1, own_onew]) h) (fun hc252 => ?_)
  refine g_iconst w at_255 (1 : Int32) rfl 256 rfl ?_
  refine g_goto w at_256 260 (by decide) (by decide) ?_
  refine g_istore w at_260 262 rfl rfl #[.val (.long u0), .second, .val (.long u1), .second, .val (.long u2), .second, .val (.long u3), .second, .val (.int ws), .val (.long a), .second, .val (.long b), .second, .val (.int w1), .val (.int w2), .val (.int w3), .val (.ref b1), .val (.ref b4), .val (.long cap1), .second, .val (.long v1), .second, .val (.long a1), .second, .val (.long i1), .second, .val (.int (1 : Int32)), .val (.long cap2), .second, .val (.long v2), .second, .val (.long a2), .second, .val (.int (1 : Int32))] rfl ?_
  refine g_iload w at_262 rfl 264 rfl ?_
  refine g_if_eq w at_264 276 (by decide) (by decide) 267 rfl (fun h => absurd h (by decide)) (fun hc264 => ?_)
  refine g_iload w at_267 rfl 269 rfl ?_
  refine g_if_eq w at_269 276 (by decide) (by decide) 272 rfl (fun h => absurd h (by decide)) (fun hc269 => ?_)
  refine g_iconst w at_272 (1 : Int32) rfl 273 rfl ?_
  refine g_goto w at_273 277 (by decide) (by decide) ?_
  exact g_iretnW w hS (by simp) at_277 (by decide) (by decide) rfl
set_option maxRecDepth 65536 in
set_option maxHeartbeats 40000000 in
theorem comes_1 {Post : Tables → Env → Array Value → State → Outcome → State → Prop} (hpost : ∀ tb e args s v u, (limb_1_1.after args s (.returned v) u = true ∧ limb_1_2.after args s (.returned v) u = true ∧ True) → ReturnedEndW s (.returned v) u (Jvm.fieldLocs frame_1_writes args s ++ Jvm.arrayLocs frame_1_arrays args s ++ Jvm.staticLocs frame_1_statics s) 24 4224 → Post tb e args s (.returned v) u) :
    ArmFor flags0 classFile x code maxLocals ret World_1 tables_1 room_1 Calls_1 rest_1 Pre_1 Post := by
  intro l hfl _ _ p e ha hc hk s m args below hf hA hF happ hP
  obtain ⟨hcalls, hrest, hpre⟩ := hP
  obtain ⟨-, -, -, hnamed, -, -, -, hat⟩ := (Spec.applies_iff hf).mp happ
  obtain ⟨hg, hn⟩ := and_e (Cond.before_iff.mp (show (Jvm.Cond.and given_1 narrow_1).before args s = true from hpre))
  obtain ⟨hcnt, g0⟩ := and_e hg
  obtain ⟨k0, g1⟩ := and_e g0
  obtain ⟨k1, g2⟩ := and_e g1
  obtain ⟨k2, g3⟩ := and_e g2
  obtain ⟨k3, g4⟩ := and_e g3
  have k4 := g4
  obtain ⟨w0, w1, w2, w3, w4, rfl⟩ : ∃ w0 w1 w2 w3 w4 : Value, args = #[w0, w1, w2, w3, w4] := by
    have hs : args.size = 5 := by simpa [Cond.value, given_1] using hcnt
    obtain ⟨L⟩ := args
    match L, hs with
    | [w0, w1, w2, w3, w4], _ => exact ⟨w0, w1, w2, w3, w4, rfl⟩
  have hw := fun d (hd : d ∈ tables_1) => atoms_spec (ws := Jvm.Cond.code x code maxLocals ret :: tables_1) hat d (List.mem_cons_of_mem _ hd)
  obtain ⟨i0, e0⟩ := isL_v k0
  obtain rfl : w0 = (.long i0) := Option.some.inj e0
  obtain ⟨i1, e1⟩ := isL_v k1
  obtain rfl : w1 = (.long i1) := Option.some.inj e1
  obtain ⟨i2, e2⟩ := isL_v k2
  obtain rfl : w2 = (.long i2) := Option.some.inj e2
  obtain ⟨i3, e3⟩ := isL_v k3
  obtain rfl : w3 = (.long i3) := Option.some.inj e3
  obtain ⟨i4, e4⟩ := is_v k4
  obtain rfl : w4 = (.int i4) := Option.some.inj e4
  obtain ⟨n, o, h1, h2, h3, _, Lc, rfl, ⟨N, LL, hH, rfl⟩, hq⟩ := rm0 l s _ hw s.heap.size i0 i1 i2 i3 i4 tables_1 0 s.heap (Hp.nil (Old.start s) (Nat.zero_le _)) p e ha hc hk s m _ below hf ((Spec.applies_iff_loose hf).mp happ).1 ⟨rfl, State.Warmed39.refl s, rfl⟩ trivial
  exact ⟨n, _, h1, h2, h3, hpost _ _ _ _ _ _ ⟨Cond.after_iff.mpr rfl, Cond.after_iff.mpr (eq_i res_at (Term.int_eval (1)) rfl), trivial⟩ (fr_endW N hq _ (by decide) (by decide))⟩
theorem main_1_1 : Claimed_1_1 := comes_1 fun _ _ _ _ _ _ h hF => ⟨h.1, hF⟩
theorem main_1_2 : Claimed_1_2 := comes_1 fun _ _ _ _ _ _ h hF => ⟨h.2.1, hF⟩
end Jvm.Pilot.@@N@@
namespace Jvm.Pilot.@@N@@
open Jvm Jvm.ClassFile Sem Op Lib Jvm.Free Jvm.Stand Jvm.Pilot.@@N@@.Jvm.D
/-! MADE BY PROGRAM (witnessworld.py) out of the Statement's table words and the real class files: 15 classes; the members and pool entries that the words name. The judged class is class 1, her method 2. -/
namespace start1
open Jvm.ClassFile
def u (s : String) : CpInfo := .utf8 (stringToUtf16 s)
/-- a pool by its gaps: so many unusable entries, then the entry; so many at the end -/
def gap : Nat → List CpInfo → List CpInfo
  | 0, r => r
  | n + 1, r => .unusable :: gap n r
def poolList (es : List (Nat × CpInfo)) (last : Nat) : List CpInfo := es.foldr (fun e r => gap e.1 (e.2 :: r)) (gap last [])
def pool (es : List (Nat × CpInfo)) (last : Nat) : Array CpInfo := ⟨poolList es last⟩
def fileOf (pool : Array CpInfo) (this : Nat) (attrs : Array Attribute := #[]) (ms : Array MethodInfo := #[]) (fl : Nat := 33) (sup : Nat := 0) (ifs : Array Nat := #[]) (fds : Array FieldInfo := #[]) : ClassFile where
  minorVersion := 0
  majorVersion := 65
  constantPool := pool
  accessFlags := fl
  thisClass := this
  superClass := sup
  interfaces := ifs
  fields := fds
  methods := ms
  attributes := attrs
def plain (name : String) (sup : Option ClassId) : Class where
  name := name
  kind := .ordinary
  loader := none
  accessFlags := 33
  super := sup
  interfaces := #[]
  cf := none
  fields := #[]
  methods := #[]
  instanceTypes := #[]
  staticTypes := #[]
  resolved := #[]
  callSites := []
  init := .initialized
  statics := none
  mirror := none

def pool0 : Array CpInfo := pool [(5, u "<init>"), (0, u "()V"), (1, .class_ 10), (1, u "java/lang/Object")] 113

def k0c0 : Code := { maxStack := 0, maxLocals := 1, code := object_method_1_code, exceptionTable := #[], attributes := #[] }
def k0m0 : Method := { name := "<init>", desc := "()V", sig := { parameters := [], returnType := none }, accessFlags := 1, code := some k0c0 }
/-- java/lang/Object -/
def k0 : Class := { plain "java/lang/Object" none with
  accessFlags := 33
  interfaces := #[]
  cf := some (fileOf pool0 8 #[] #[{ accessFlags := 1, nameIndex := 5, descriptorIndex := 6, attributes := #[] }] 33 0 #[] #[])
  fields := #[]
  methods := #[k0m0]
  instanceTypes := #[]
  staticTypes := #[]
  resolved := Array.replicate 124 none
  statics := none }

def pool1 : Array CpInfo := pool [(2, .class_ 4), (1, u "java/lang/Object"), (0, u "<init>"), (0, u "()V"), (2, .long 9223372036854775807), (1, .class_ 12), (0, u "com/example/leadhorizon/leadhorizon/io/SharedBudget"), (0, .string 14), (0, u "hold"), (0, .string 16), (0, u "the most"), (0, .methodref 11 18), (0, .nameAndType 5 19), (0, u "(JLjava/lang/String;Ljava/lang/String;)V"), (0, .string 21), (0, u "read"), (0, .string 23), (0, u "the inner most"), (0, .methodref 11 25), (0, .nameAndType 5 26), (0, u "(JLjava/lang/String;Ljava/lang/String;Lcom/example/leadhorizon/leadhorizon/io/SharedBudget;I)V"), (0, .methodref 28 29), (0, .class_ 30), (0, .nameAndType 31 32), (0, u "java/lang/Math"), (0, u "min"), (0, u "(JJ)J"), (0, .methodref 34 35), (0, .class_ 36), (0, .nameAndType 37 32), (0, u "com/example/leadhorizon/leadhorizon/io/SharedBudgetTakePinLaw"), (0, u "bounded"), (0, .methodref 11 39), (0, .nameAndType 40 41), (0, u "take"), (0, u "(JI)V"), (0, .methodref 11 43), (0, .nameAndType 44 45), (0, u "left"), (0, u "(I)J"), (3, u "law"), (0, u "(JJJJI)Z")] 2

def k1m0 : Method := { name := "<init>", desc := "()V", sig := { parameters := [], returnType := none }, accessFlags := 1, code := none }
def k1c1 : Code := { maxStack := 6, maxLocals := 6, code := method_2_code, exceptionTable := #[], attributes := #[] }
def k1m1 : Method := { name := "bounded", desc := "(JJ)J", sig := { parameters := [.long, .long], returnType := some .long }, accessFlags := 10, code := some k1c1 }
def k1c2 : Code := { maxStack := 8, maxLocals := 34, code := code, exceptionTable := #[], attributes := #[] }
def k1m2 : Method := { name := "law", desc := "(JJJJI)Z", sig := { parameters := [.long, .long, .long, .long, .int], returnType := some .boolean }, accessFlags := 9, code := some k1c2 }
/-- com/example/leadhorizon/leadhorizon/io/SharedBudgetTakePinLaw -/
def k1 : Class := { plain "com/example/leadhorizon/leadhorizon/io/SharedBudgetTakePinLaw" (some 0) with
  accessFlags := 49
  interfaces := #[]
  cf := some (fileOf pool1 34 #[] #[{ accessFlags := 1, nameIndex := 5, descriptorIndex := 6, attributes := #[] }, { accessFlags := 10, nameIndex := 37, descriptorIndex := 32, attributes := #[] }, { accessFlags := 9, nameIndex := 49, descriptorIndex := 50, attributes := #[] }] 49 2 #[] #[])
  fields := #[]
  methods := #[k1m0, k1m1, k1m2]
  instanceTypes := #[]
  staticTypes := #[]
  resolved := Array.replicate 53 none
  statics := none }

def pool2 : Array CpInfo := pool [(1, .methodref 2 3), (0, .class_ 4), (0, .nameAndType 5 6), (0, u "com/example/leadhorizon/leadhorizon/io/SharedBudget"), (0, u "<init>"), (0, u "(JLjava/lang/String;Ljava/lang/String;Lcom/example/leadhorizon/leadhorizon/io/SharedBudget;I)V"), (0, .methodref 8 9), (0, .class_ 10), (0, .nameAndType 5 11), (0, u "java/lang/Object"), (0, u "()V"), (0, .fieldref 2 13), (0, .nameAndType 14 15), (0, u "budget"), (0, u "J"), (0, .fieldref 2 17), (0, .nameAndType 18 19), (0, u "verb"), (0, u "Ljava/lang/String;"), (0, .fieldref 2 21), (0, .nameAndType 22 19), (0, u "most"), (0, .fieldref 2 24), (0, .nameAndType 25 26), (0, u "within"), (0, u "Lcom/example/leadhorizon/leadhorizon/io/SharedBudget;"), (0, .fieldref 2 28), (0, .nameAndType 29 30), (0, u "weight"), (0, u "I"), (0, .fieldref 2 32), (0, .nameAndType 33 15), (0, u "left"), (0, .methodref 2 35), (0, .nameAndType 33 36), (0, u "(I)J"), (0, .methodref 38 39), (0, .class_ 40), (0, .nameAndType 41 42), (0, u "java/lang/Math"), (0, u "min"), (0, u "(JJ)J"), (0, .methodref 2 44), (0, .nameAndType 45 46), (0, u "take"), (0, u "(JI)V"), (8, u "(JLjava/lang/String;Ljava/lang/String;)V")] 22

def k2c0 : Code := { maxStack := 7, maxLocals := 5, code := prog_30_method_1_code, exceptionTable := #[], attributes := #[] }
def k2m0 : Method := { name := "<init>", desc := "(JLjava/lang/String;Ljava/lang/String;)V", sig := { parameters := [.long, (.object "java/lang/String"), (.object "java/lang/String")], returnType := none }, accessFlags := 0, code := some k2c0 }
def k2c1 : Code := { maxStack := 3, maxLocals := 7, code := prog_30_method_2_code, exceptionTable := #[], attributes := #[] }
def k2m1 : Method := { name := "<init>", desc := "(JLjava/lang/String;Ljava/lang/String;Lcom/example/leadhorizon/leadhorizon/io/SharedBudget;I)V", sig := { parameters := [.long, (.object "java/lang/String"), (.object "java/lang/String"), (.object "com/example/leadhorizon/leadhorizon/io/SharedBudget"), .int], returnType := none }, accessFlags := 0, code := some k2c1 }
def k2c2 : Code := { maxStack := 5, maxLocals := 4, code := prog_30_method_3_code, exceptionTable := #[], attributes := #[] }
def k2m2 : Method := { name := "left", desc := "(I)J", sig := { parameters := [.int], returnType := some .long }, accessFlags := 0, code := some k2c2 }
def k2c3 : Code := { maxStack := 7, maxLocals := 4, code := prog_30_method_4_code, exceptionTable := #[], attributes := #[] }
def k2m3 : Method := { name := "take", desc := "(JI)V", sig := { parameters := [.long, .int], returnType := none }, accessFlags := 0, code := some k2c3 }
/-- com/example/leadhorizon/leadhorizon/io/SharedBudget -/
def k2 : Class := { plain "com/example/leadhorizon/leadhorizon/io/SharedBudget" (some 0) with
  accessFlags := 48
  interfaces := #[]
  cf := some (fileOf pool2 2 #[] #[{ accessFlags := 0, nameIndex := 5, descriptorIndex := 55, attributes := #[] }, { accessFlags := 0, nameIndex := 5, descriptorIndex := 6, attributes := #[] }, { accessFlags := 0, nameIndex := 33, descriptorIndex := 36, attributes := #[] }, { accessFlags := 0, nameIndex := 45, descriptorIndex := 46, attributes := #[] }] 48 8 #[] #[{ accessFlags := 18, nameIndex := 14, descriptorIndex := 15, attributes := #[] }, { accessFlags := 18, nameIndex := 18, descriptorIndex := 19, attributes := #[] }, { accessFlags := 18, nameIndex := 22, descriptorIndex := 19, attributes := #[] }, { accessFlags := 18, nameIndex := 25, descriptorIndex := 26, attributes := #[] }, { accessFlags := 18, nameIndex := 29, descriptorIndex := 30, attributes := #[] }, { accessFlags := 2, nameIndex := 33, descriptorIndex := 15, attributes := #[] }])
  fields := #[{ name := "budget", type := .long, accessFlags := 18, slot := 0, constantValue := 0 }, { name := "verb", type := (.object "java/lang/String"), accessFlags := 18, slot := 1, constantValue := 0 }, { name := "most", type := (.object "java/lang/String"), accessFlags := 18, slot := 2, constantValue := 0 }, { name := "within", type := (.object "com/example/leadhorizon/leadhorizon/io/SharedBudget"), accessFlags := 18, slot := 3, constantValue := 0 }, { name := "weight", type := .int, accessFlags := 18, slot := 4, constantValue := 0 }, { name := "left", type := .long, accessFlags := 2, slot := 5, constantValue := 0 }]
  methods := #[k2m0, k2m1, k2m2, k2m3]
  instanceTypes := #[.long, (.object "java/lang/String"), (.object "java/lang/String"), (.object "com/example/leadhorizon/leadhorizon/io/SharedBudget"), .int, .long]
  staticTypes := #[]
  resolved := Array.replicate 78 none
  statics := none }

def pool3 : Array CpInfo := pool [(1, .class_ 2), (0, u "java/io/Serializable"), (0, .class_ 4), (0, u "java/lang/Object")] 2

/-- java/io/Serializable -/
def k3 : Class := { plain "java/io/Serializable" (some 0) with
  accessFlags := 1537
  interfaces := #[]
  cf := some (fileOf pool3 1 #[] #[] 1537 3 #[] #[])
  fields := #[]
  methods := #[]
  instanceTypes := #[]
  staticTypes := #[]
  resolved := Array.replicate 7 none
  statics := none }

def pool4 : Array CpInfo := pool [(1, .class_ 2), (0, u "java/lang/Comparable"), (0, .class_ 4), (0, u "java/lang/Object")] 7

/-- java/lang/Comparable -/
def k4 : Class := { plain "java/lang/Comparable" (some 0) with
  accessFlags := 1537
  interfaces := #[]
  cf := some (fileOf pool4 1 #[] #[] 1537 3 #[] #[])
  fields := #[]
  methods := #[]
  instanceTypes := #[]
  staticTypes := #[]
  resolved := Array.replicate 12 none
  statics := none }

def pool5 : Array CpInfo := pool [(2, .class_ 4), (1, u "java/lang/CharSequence"), (42, .class_ 48), (0, u "java/lang/CharSequence$1CodePointIterator"), (10, .class_ 60), (0, u "java/lang/CharSequence$1CharIterator"), (5, .class_ 67), (0, u "java/lang/Object")] 63

/-- java/lang/CharSequence -/
def k5 : Class := { plain "java/lang/CharSequence" (some 0) with
  accessFlags := 1537
  interfaces := #[]
  cf := some (fileOf pool5 2 #[.nestMembers #[47, 59]] #[] 1537 66 #[] #[])
  fields := #[]
  methods := #[]
  instanceTypes := #[]
  staticTypes := #[]
  resolved := Array.replicate 131 none
  statics := none }

def pool6 : Array CpInfo := pool [(1, .class_ 2), (0, u "java/lang/constant/Constable"), (0, .class_ 4), (0, u "java/lang/Object")] 6

/-- java/lang/constant/Constable -/
def k6 : Class := { plain "java/lang/constant/Constable" (some 0) with
  accessFlags := 1537
  interfaces := #[]
  cf := some (fileOf pool6 1 #[] #[] 1537 3 #[] #[])
  fields := #[]
  methods := #[]
  instanceTypes := #[]
  staticTypes := #[]
  resolved := Array.replicate 11 none
  statics := none }

def pool7 : Array CpInfo := pool [(1, .class_ 2), (0, u "java/lang/constant/ConstantDesc"), (0, .class_ 4), (0, u "java/lang/Object")] 32

/-- java/lang/constant/ConstantDesc -/
def k7 : Class := { plain "java/lang/constant/ConstantDesc" (some 0) with
  accessFlags := 1537
  interfaces := #[]
  cf := some (fileOf pool7 1 #[] #[] 1537 3 #[] #[])
  fields := #[]
  methods := #[]
  instanceTypes := #[]
  staticTypes := #[]
  resolved := Array.replicate 37 none
  statics := none }

def pool8 : Array CpInfo := pool [(2, .class_ 4), (1, u "java/lang/Object"), (0, u "<init>"), (0, u "()V"), (3, .class_ 12), (1, u "java/lang/String"), (0, u "value"), (0, u "[B"), (2, u "coder"), (0, u "B"), (2, u "hash"), (0, u "I"), (2, u "hashIsZero"), (0, u "Z"), (13, u "COMPACT_STRINGS"), (534, .class_ 576), (0, u "java/lang/CharSequence"), (22, u "CASE_INSENSITIVE_ORDER"), (0, u "Ljava/util/Comparator;"), (500, u "serialPersistentFields"), (0, u "[Ljava/io/ObjectStreamField;"), (0, .class_ 1104), (0, u "java/lang/String$CaseInsensitiveComparator"), (1, .class_ 1107), (0, u "java/io/Serializable"), (0, .class_ 1109), (0, u "java/lang/Comparable"), (0, .class_ 1111), (0, u "java/lang/constant/Constable"), (0, .class_ 1113), (0, u "java/lang/constant/ConstantDesc"), (2, u "serialVersionUID"), (0, u "J"), (3, u "REPL"), (0, u "C"), (2, u "LATIN1"), (1, u "UTF16")] 323

def k8m0 : Method := { name := "<init>", desc := "()V", sig := { parameters := [], returnType := none }, accessFlags := 1, code := none }
/-- java/lang/String -/
def k8 : Class := { plain "java/lang/String" (some 0) with
  accessFlags := 49
  interfaces := #[3, 4, 5, 6, 7]
  cf := some (fileOf pool8 10 #[.nestMembers #[1103]] #[{ accessFlags := 1, nameIndex := 5, descriptorIndex := 6, attributes := #[] }] 49 2 #[1106, 1108, 575, 1110, 1112] #[{ accessFlags := 18, nameIndex := 13, descriptorIndex := 14, attributes := #[] }, { accessFlags := 18, nameIndex := 17, descriptorIndex := 18, attributes := #[] }, { accessFlags := 2, nameIndex := 21, descriptorIndex := 22, attributes := #[] }, { accessFlags := 2, nameIndex := 25, descriptorIndex := 26, attributes := #[] }, { accessFlags := 26, nameIndex := 1116, descriptorIndex := 1117, attributes := #[] }, { accessFlags := 24, nameIndex := 40, descriptorIndex := 26, attributes := #[] }, { accessFlags := 26, nameIndex := 1101, descriptorIndex := 1102, attributes := #[] }, { accessFlags := 26, nameIndex := 1121, descriptorIndex := 1122, attributes := #[] }, { accessFlags := 25, nameIndex := 599, descriptorIndex := 600, attributes := #[] }, { accessFlags := 24, nameIndex := 1125, descriptorIndex := 18, attributes := #[] }, { accessFlags := 24, nameIndex := 1127, descriptorIndex := 18, attributes := #[] }])
  fields := #[{ name := "value", type := (.array .byte), accessFlags := 18, slot := 0, constantValue := 0 }, { name := "coder", type := .byte, accessFlags := 18, slot := 1, constantValue := 0 }, { name := "hash", type := .int, accessFlags := 2, slot := 2, constantValue := 0 }, { name := "hashIsZero", type := .boolean, accessFlags := 2, slot := 3, constantValue := 0 }, { name := "serialVersionUID", type := .long, accessFlags := 26, slot := 0, constantValue := 0 }, { name := "COMPACT_STRINGS", type := .boolean, accessFlags := 24, slot := 1, constantValue := 0 }, { name := "serialPersistentFields", type := (.array (.object "java/io/ObjectStreamField")), accessFlags := 26, slot := 2, constantValue := 0 }, { name := "REPL", type := .char, accessFlags := 26, slot := 3, constantValue := 0 }, { name := "CASE_INSENSITIVE_ORDER", type := (.object "java/util/Comparator"), accessFlags := 25, slot := 4, constantValue := 0 }, { name := "LATIN1", type := .byte, accessFlags := 24, slot := 5, constantValue := 0 }, { name := "UTF16", type := .byte, accessFlags := 24, slot := 6, constantValue := 0 }]
  methods := #[k8m0]
  instanceTypes := #[(.array .byte), .byte, .int, .boolean]
  staticTypes := #[.long, .boolean, (.array (.object "java/io/ObjectStreamField")), .char, (.object "java/util/Comparator"), .byte, .byte]
  resolved := Array.replicate 1451 none
  statics := none }

def pool9 : Array CpInfo := pool [(1, .class_ 2), (0, u "java/lang/Math"), (1, .class_ 6), (1, u "java/lang/Object"), (0, u "<init>"), (0, u "()V"), (89, .class_ 100), (1, u "java/lang/Math$RandomNumberGeneratorHolder"), (20, u "(JJ)J"), (50, u "negativeZeroFloatBits"), (0, u "J"), (2, u "negativeZeroDoubleBits"), (24, u "min"), (43, u "$assertionsDisabled"), (0, u "Z"), (91, u "twoToTheDoubleScaleDown"), (0, u "D"), (4, u "twoToTheDoubleScaleUp"), (9, u "E"), (3, u "PI"), (2, u "TAU"), (2, u "DEGREES_TO_RADIANS"), (0, u "RADIANS_TO_DEGREES")] 94

def k9m0 : Method := { name := "<init>", desc := "()V", sig := { parameters := [], returnType := none }, accessFlags := 2, code := none }
def k9c1 : Code := { maxStack := 4, maxLocals := 4, code := jdk_29_method_70_code, exceptionTable := #[], attributes := #[] }
def k9m1 : Method := { name := "min", desc := "(JJ)J", sig := { parameters := [.long, .long], returnType := some .long }, accessFlags := 9, code := some k9c1 }
/-- java/lang/Math -/
def k9 : Class := { plain "java/lang/Math" (some 0) with
  accessFlags := 49
  interfaces := #[]
  cf := some (fileOf pool9 1 #[.nestMembers #[98]] #[{ accessFlags := 2, nameIndex := 7, descriptorIndex := 8, attributes := #[] }, { accessFlags := 9, nameIndex := 201, descriptorIndex := 121, attributes := #[] }] 49 4 #[] #[{ accessFlags := 25, nameIndex := 354, descriptorIndex := 339, attributes := #[] }, { accessFlags := 25, nameIndex := 358, descriptorIndex := 339, attributes := #[] }, { accessFlags := 25, nameIndex := 361, descriptorIndex := 339, attributes := #[] }, { accessFlags := 26, nameIndex := 364, descriptorIndex := 339, attributes := #[] }, { accessFlags := 26, nameIndex := 365, descriptorIndex := 339, attributes := #[] }, { accessFlags := 26, nameIndex := 172, descriptorIndex := 173, attributes := #[] }, { accessFlags := 26, nameIndex := 176, descriptorIndex := 173, attributes := #[] }, { accessFlags := 8, nameIndex := 344, descriptorIndex := 339, attributes := #[] }, { accessFlags := 8, nameIndex := 338, descriptorIndex := 339, attributes := #[] }, { accessFlags := 4120, nameIndex := 245, descriptorIndex := 246, attributes := #[] }])
  fields := #[{ name := "E", type := .double, accessFlags := 25, slot := 0, constantValue := 0 }, { name := "PI", type := .double, accessFlags := 25, slot := 1, constantValue := 0 }, { name := "TAU", type := .double, accessFlags := 25, slot := 2, constantValue := 0 }, { name := "DEGREES_TO_RADIANS", type := .double, accessFlags := 26, slot := 3, constantValue := 0 }, { name := "RADIANS_TO_DEGREES", type := .double, accessFlags := 26, slot := 4, constantValue := 0 }, { name := "negativeZeroFloatBits", type := .long, accessFlags := 26, slot := 5, constantValue := 0 }, { name := "negativeZeroDoubleBits", type := .long, accessFlags := 26, slot := 6, constantValue := 0 }, { name := "twoToTheDoubleScaleUp", type := .double, accessFlags := 8, slot := 7, constantValue := 0 }, { name := "twoToTheDoubleScaleDown", type := .double, accessFlags := 8, slot := 8, constantValue := 0 }, { name := "$assertionsDisabled", type := .boolean, accessFlags := 4120, slot := 9, constantValue := 0 }]
  methods := #[k9m0, k9m1]
  instanceTypes := #[]
  staticTypes := #[.double, .double, .double, .double, .double, .long, .long, .double, .double, .boolean]
  resolved := Array.replicate 460 none
  statics := none }

def pool10 : Array CpInfo := pool [(1, u "java/lang/Cloneable"), (0, .class_ 1), (0, u "java/lang/Object"), (0, .class_ 3)] 3

/-- java/lang/Cloneable -/
def k10 : Class := { plain "java/lang/Cloneable" (some 0) with
  accessFlags := 1537
  interfaces := #[]
  cf := some (fileOf pool10 2 #[] #[] 1537 4 #[] #[])
  fields := #[]
  methods := #[]
  instanceTypes := #[]
  staticTypes := #[]
  resolved := Array.replicate 8 none
  statics := none }

/-- the primitive byte -/
def k11 : Class := { plain "byte" none with kind := .primitive 'B', accessFlags := 0x411 }
/-- [B -/
def k12 : Class := { plain "[B" (some 0) with kind := .array 11 .byte, interfaces := #[10, 3], accessFlags := 1041 }

/-- the primitive int -/
def k13 : Class := { plain "int" none with kind := .primitive 'I', accessFlags := 0x411 }
/-- [I -/
def k14 : Class := { plain "[I" (some 0) with kind := .array 13 .int, interfaces := #[10, 3], accessFlags := 1041 }

def heap : Heap := #[]
def classes : Array Class := #[k0, k1, k2, k3, k4, k5, k6, k7, k8, k9, k10, k11, k12, k13, k14]
def interned : List (Array UInt16 × Addr) := []
def slotsUsed : Nat := 0
def theMethod : MethodId := ⟨1, 2⟩
def args0 : Array Value := #[.long 53, .long 5, .long 9, .long 1, .int 70]
def aboutOver (below : List Frame) : State where
  vm := { classes := classes, interned := interned.toArray }
  heap := heap
  slotsUsed := slotsUsed
  threads := #[{ frames := .invoking theMethod args0 :: below }]
def below0 : List Frame := [.native { method := ⟨0, 0⟩, args := #[] }]
def about1 : State := aboutOver below0
def p0 : Program := .bare "" "" ""
def e0 : Env := launch0.env 0 0 0
theorem w_frames : about1.frames = Frame.invoking theMethod args0 :: below0 := rfl
set_option maxRecDepth 65536 in
theorem w_args : argsFit about1.vm theMethod args0 = true := by decide +kernel
set_option maxRecDepth 65536 in
theorem w_heap : heapFits about1 = true := by decide +kernel
set_option maxRecDepth 65536 in
theorem w_runnable : about1.curStatus? = some .runnable := by decide +kernel
set_option maxRecDepth 65536 in
theorem w_alone : about1.alone = true := by decide +kernel
set_option maxRecDepth 65536 in
theorem w_named : about1.methodNamed? x = some theMethod := by decide +kernel
set_option maxRecDepth 65536 in
theorem w_hears : about1.hears theMethod below0 = true := by decide +kernel
set_option maxRecDepth 65536 in
theorem w_ripe : about1.ripe theMethod args0 below0 = true := by decide +kernel
theorem w_running : about1.status = .running := rfl
set_option maxRecDepth 65536 in
theorem w_room : about1.hasRoom e0.platform room_1 = true :=
  launch0.hasRoom_least _ room_1 (by decide +kernel) (by decide +kernel) (by decide +kernel) (by decide +kernel) (by decide +kernel) (by decide +kernel)
theorem allAtoms_all (ts : List Jvm.Cond) (a : Array Jvm.Value) (st : Jvm.State) : (allAtoms ts).before a st = ts.all (fun c => c.before a st) := by
  induction ts with
  | nil => rfl
  | cons c t ih =>
    show (Jvm.Cond.and c (allAtoms t)).before a st = _
    rw [Jvm.Cond.before_and, ih, List.all_cons]
def words1 : List Jvm.Cond := Jvm.Cond.code x code maxLocals ret :: tables_1
/-- a 'code' word, met by the world's own term for the bytes: nothing is compared byte by byte -/
theorem code_word {y : MethodName} {bytes : ByteArray} {mx : Nat} {rt : Option FieldType} {a : Array Value} {s : State} {m : MethodId} {meth : Method} {c : Code} (h1 : s.methodNamed? y = some m) (h2 : s.vm.method? m = some meth) (h3 : meth.code = some c) (h4 : c.code = bytes)
    (h5 : (c.maxLocals == mx && c.exceptionTable.isEmpty && decide (c.maxStack ≤ mostOperands) && decide (meth.sig.returnType = rt) && !meth.locks && decide (parseMethodDescriptor y.desc = some meth.sig)) = true) : (Jvm.Cond.code y bytes mx rt).before a s = true := by
  simp only [Bool.and_eq_true, beq_iff_eq, Bool.not_eq_true', decide_eq_true_eq] at h5
  obtain ⟨⟨⟨⟨⟨g1, g2⟩, g3⟩, g4⟩, g5⟩, g6⟩ := h5
  simp [Cond.before, Cond.holds, Cond.value, h1, h2, h3, h4, g1, g2, g3, g4, g5, g6]
def isCode : Jvm.Cond → Bool
  | .code _ _ _ _ => true
  | _ => false
theorem all_split {L : List Jvm.Cond} {P : Jvm.Cond → Bool} (h1 : L.all (fun c => isCode c || P c) = true) (h2 : ∀ c ∈ L.filter isCode, P c = true) : L.all P = true := by
  refine List.all_eq_true.mpr fun c hc => ?_
  have h := List.all_eq_true.mp h1 c hc
  rcases Bool.eq_false_or_eq_true (isCode c) with hi | hi
  · exact h2 c (List.mem_filter.mpr ⟨hc, hi⟩)
  · simpa [hi] using h
set_option maxRecDepth 65536 in
theorem w_c0 : (Jvm.Cond.code x code maxLocals ret).before args0 about1 = true := code_word (m := ⟨1, 2⟩) (meth := k1m2) (c := k1c2) (by decide +kernel) rfl rfl rfl (by decide +kernel)
set_option maxRecDepth 65536 in
theorem w_c1 : (Jvm.Cond.code ({ cls := "com/example/leadhorizon/leadhorizon/io/SharedBudget", name := "<init>", desc := "(JLjava/lang/String;Ljava/lang/String;)V" } : Jvm.MethodName) prog_30_method_1_code (5 : Nat) (Option.none : Option Jvm.ClassFile.FieldType)).before args0 about1 = true := code_word (m := ⟨2, 0⟩) (meth := k2m0) (c := k2c0) (by decide +kernel) rfl rfl rfl (by decide +kernel)
set_option maxRecDepth 65536 in
theorem w_c2 : (Jvm.Cond.code ({ cls := "com/example/leadhorizon/leadhorizon/io/SharedBudget", name := "<init>", desc := "(JLjava/lang/String;Ljava/lang/String;Lcom/example/leadhorizon/leadhorizon/io/SharedBudget;I)V" } : Jvm.MethodName) prog_30_method_2_code (7 : Nat) (Option.none : Option Jvm.ClassFile.FieldType)).before args0 about1 = true := code_word (m := ⟨2, 1⟩) (meth := k2m1) (c := k2c1) (by decide +kernel) rfl rfl rfl (by decide +kernel)
set_option maxRecDepth 65536 in
theorem w_c3 : (Jvm.Cond.code ({ cls := "java/lang/Object", name := "<init>", desc := "()V" } : Jvm.MethodName) object_method_1_code (1 : Nat) (Option.none : Option Jvm.ClassFile.FieldType)).before args0 about1 = true := code_word (m := ⟨0, 0⟩) (meth := k0m0) (c := k0c0) (by decide +kernel) rfl rfl rfl (by decide +kernel)
set_option maxRecDepth 65536 in
theorem w_c4 : (Jvm.Cond.code ({ cls := "java/lang/Math", name := "min", desc := "(JJ)J" } : Jvm.MethodName) jdk_29_method_70_code (4 : Nat) (Option.some Jvm.ClassFile.FieldType.long)).before args0 about1 = true := code_word (m := ⟨9, 1⟩) (meth := k9m1) (c := k9c1) (by decide +kernel) rfl rfl rfl (by decide +kernel)
set_option maxRecDepth 65536 in
theorem w_c5 : (Jvm.Cond.code ({ cls := "com/example/leadhorizon/leadhorizon/io/SharedBudgetTakePinLaw", name := "bounded", desc := "(JJ)J" } : Jvm.MethodName) method_2_code (6 : Nat) (Option.some Jvm.ClassFile.FieldType.long)).before args0 about1 = true := code_word (m := ⟨1, 1⟩) (meth := k1m1) (c := k1c1) (by decide +kernel) rfl rfl rfl (by decide +kernel)
set_option maxRecDepth 65536 in
theorem w_c6 : (Jvm.Cond.code ({ cls := "com/example/leadhorizon/leadhorizon/io/SharedBudget", name := "take", desc := "(JI)V" } : Jvm.MethodName) prog_30_method_4_code (4 : Nat) (Option.none : Option Jvm.ClassFile.FieldType)).before args0 about1 = true := code_word (m := ⟨2, 3⟩) (meth := k2m3) (c := k2c3) (by decide +kernel) rfl rfl rfl (by decide +kernel)
set_option maxRecDepth 65536 in
theorem w_c7 : (Jvm.Cond.code ({ cls := "com/example/leadhorizon/leadhorizon/io/SharedBudget", name := "left", desc := "(I)J" } : Jvm.MethodName) prog_30_method_3_code (4 : Nat) (Option.some Jvm.ClassFile.FieldType.long)).before args0 about1 = true := code_word (m := ⟨2, 2⟩) (meth := k2m2) (c := k2c2) (by decide +kernel) rfl rfl rfl (by decide +kernel)
def codes1 : List Jvm.Cond := [Jvm.Cond.code x code maxLocals ret, Jvm.Cond.code ({ cls := "com/example/leadhorizon/leadhorizon/io/SharedBudget", name := "<init>", desc := "(JLjava/lang/String;Ljava/lang/String;)V" } : Jvm.MethodName) prog_30_method_1_code (5 : Nat) (Option.none : Option Jvm.ClassFile.FieldType), Jvm.Cond.code ({ cls := "com/example/leadhorizon/leadhorizon/io/SharedBudget", name := "<init>", desc := "(JLjava/lang/String;Ljava/lang/String;Lcom/example/leadhorizon/leadhorizon/io/SharedBudget;I)V" } : Jvm.MethodName) prog_30_method_2_code (7 : Nat) (Option.none : Option Jvm.ClassFile.FieldType), Jvm.Cond.code ({ cls := "java/lang/Object", name := "<init>", desc := "()V" } : Jvm.MethodName) object_method_1_code (1 : Nat) (Option.none : Option Jvm.ClassFile.FieldType), Jvm.Cond.code ({ cls := "java/lang/Math", name := "min", desc := "(JJ)J" } : Jvm.MethodName) jdk_29_method_70_code (4 : Nat) (Option.some Jvm.ClassFile.FieldType.long), Jvm.Cond.code ({ cls := "com/example/leadhorizon/leadhorizon/io/SharedBudgetTakePinLaw", name := "bounded", desc := "(JJ)J" } : Jvm.MethodName) method_2_code (6 : Nat) (Option.some Jvm.ClassFile.FieldType.long), Jvm.Cond.code ({ cls := "com/example/leadhorizon/leadhorizon/io/SharedBudget", name := "take", desc := "(JI)V" } : Jvm.MethodName) prog_30_method_4_code (4 : Nat) (Option.none : Option Jvm.ClassFile.FieldType), Jvm.Cond.code ({ cls := "com/example/leadhorizon/leadhorizon/io/SharedBudget", name := "left", desc := "(I)J" } : Jvm.MethodName) prog_30_method_3_code (4 : Nat) (Option.some Jvm.ClassFile.FieldType.long)]
set_option maxRecDepth 65536 in
theorem codes_eq : words1.filter isCode = codes1 := rfl
theorem w_codes : ∀ c ∈ words1.filter isCode, c.before args0 about1 = true := by
  rw [codes_eq]
  intro c hc
  simp only [codes1, List.mem_cons, List.not_mem_nil, or_false] at hc
  rcases hc with rfl | rfl | rfl | rfl | rfl | rfl | rfl | rfl
  · exact w_c0
  · exact w_c1
  · exact w_c2
  · exact w_c3
  · exact w_c4
  · exact w_c5
  · exact w_c6
  · exact w_c7
set_option maxRecDepth 65536 in
theorem w_t1 : (words1.take 24).all (fun c => isCode c || c.before args0 about1) = true := by decide +kernel
set_option maxRecDepth 65536 in
theorem w_t2 : ((words1.drop 24).take 24).all (fun c => isCode c || c.before args0 about1) = true := by decide +kernel
set_option maxRecDepth 65536 in
theorem w_t3 : ((words1.drop 24).drop 24).all (fun c => isCode c || c.before args0 about1) = true := by decide +kernel
theorem w_tables : (allAtoms (Jvm.Cond.code x code maxLocals ret :: tables_1)).before args0 about1 = true := by
  rw [allAtoms_all]
  show words1.all (fun c => c.before args0 about1) = true
  refine all_split ?_ w_codes
  rw [← List.take_append_drop 24 words1, List.all_append, w_t1, ← List.take_append_drop 24 (words1.drop 24), List.all_append, w_t2, w_t3]
  rfl
set_option maxRecDepth 65536 in
theorem w_case : (Jvm.Cond.and given_1 narrow_1).before args0 about1 = true := by decide +kernel
theorem w_applies : (headSpec (Jvm.Cond.code x code maxLocals ret :: tables_1) room_1).applies x e0.platform about1 = true :=
  (Spec.applies_iff w_frames).mpr ⟨w_running, w_runnable, w_alone, w_named, w_hears, w_ripe, w_room, w_tables⟩
theorem atStart : AtStart classFile x code maxLocals ret World_1 tables_1 room_1 Calls_1 rest_1 Pre_1 launch0 p0 e0 about1 theMethod args0 below0 :=
  ⟨lists_1, trivial, launch0.admits_env _ _ _, launch0.least_env, fairChoices_fair.cas, fairChoices_fair.clock, w_frames, w_args, w_heap, w_applies, trivial, trivial, w_case⟩
end start1
theorem witness_1 : WitnessClaimed_1 := ⟨start1.p0, start1.e0, start1.about1, start1.theMethod, start1.args0, start1.below0, start1.atStart⟩
end Jvm.Pilot.@@N@@
