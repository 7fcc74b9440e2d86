import JvmDerived
import JvmDerived.Pilot.@@N@@Statement
import JvmDerived.Pilot.@@N@@Code
set_option linter.unusedVariables false
set_option linter.unusedSimpArgs false
namespace Jvm.OwnW
open Jvm Jvm.ClassFile Sem Op Lib Jvm.Free Jvm.Stand Jvm.LawKit Jvm.RoadKit
/-! ## shifts -/
def ushrI (x y : Int32) : Int32 := (x.toUInt32 >>> (y &&& 31).toUInt32).toInt32
def shlL (x : Int64) (y : Int32) : Int64 := x <<< (y &&& 0x3f).toInt64
def shrL (x : Int64) (y : Int32) : Int64 := x >>> (y &&& 0x3f).toInt64
def ushrL (x : Int64) (y : Int32) : Int64 := (x.toUInt64 >>> (y &&& 0x3f).toInt64.toUInt64).toInt64
theorem ushrI_c (x q : Int32) (k : Nat) (hk : q.toBitVec.toNat % 32 = k) (h0 : 0 < k) : (ushrI x q).toInt = (x.toInt % 4294967296) / (2 ^ k : Nat) := c_iushr x q k hk h0
theorem shlL_c (x : Int64) (q : Int32) (k : Nat) (hk : q.toBitVec.toNat % 64 = k) : ((shlL x q).toInt - x.toInt * (2 ^ k : Nat)) % 18446744073709551616 = 0 := c_lshl x q k hk
theorem shrL_c (x : Int64) (q : Int32) (k : Nat) (hk : q.toBitVec.toNat % 64 = k) : (shrL x q).toInt = x.toInt / (2 ^ k : Nat) := c_lshr x q k hk
theorem ushrL_c (x : Int64) (q : Int32) (k : Nat) (hk : q.toBitVec.toNat % 64 = k) (h0 : 0 < k) : (ushrL x q).toInt = (x.toInt % 18446744073709551616) / (2 ^ k : Nat) := c_lushr x q k hk h0
theorem ushrL_0 (x : Int64) : ushrL x 0 = x := by
  show (x.toUInt64 >>> (0 : UInt64)).toInt64 = x
  simp
/-! ## what the walk's own cells hold -/
/-- a field: the class that declares it, its name, its descriptor, its value -/
abbrev FldE := String × String × String × Value
/-- an object (its class, its fields) or an array (its component's kind, its values) -/
abbrev Obj := (String × List FldE) ⊕ (FieldType × List Value)
abbrev HL := List (Addr × Obj)
def Is (Z : State) (h : Heap) (a : Addr) : Obj → Prop
  | .inl (C, fs) => Exa Z h a C ∧ (∀ f ∈ fs, Fld Z h a f.1 f.2.1 f.2.2.1 f.2.2.2) ∧ fs.Pairwise fun f g => RoadKit.slotOf Z f.1 f.2.1 f.2.2.1 ≠ RoadKit.slotOf Z g.1 g.2.1 g.2.2.1
  | .inr (ty, vs) => ∃ c : Cell, Arr Z h a c ty ∧ Exa Z h a ("[" ++ ty.toString) ∧ c.slots.toList = vs ∧ vs.length < 2 ^ 31
def Hp (Z : State) (n0 kb : Nat) (h : Heap) (L : HL) : Prop :=
  (Old Z n0 h ∧ kb ≤ h.size) ∧ (∀ (i : Nat) (a : Addr) (o : Obj), L[i]? = some (a, o) → n0 ≤ a ∧ Is Z h a o) ∧ ∀ (i j : Nat) (a : Addr) (o o' : Obj), L[i]? = some (a, o) → L[j]? = some (a, o') → i = j
section Heaps
variable {Z : State} {a0 : Array Value} {n0 kb : Nat} {h h' : Heap} {a b : Addr} {o : Obj} {L : HL}
theorem Is.lt (F : Is Z h a o) : a < h.size := by
  rcases o with ⟨C, fs⟩ | ⟨ty, vs⟩
  · exact F.1.lt
  · obtain ⟨c, A, -⟩ := F; exact A.lt
theorem Is.ext (F : Is Z h a o) (E : Ext h h') : Is Z h' a o := by
  rcases o with ⟨C, fs⟩ | ⟨ty, vs⟩
  · exact ⟨F.1.ext E, fun f hf => (F.2.1 f hf).ext E, F.2.2⟩
  · obtain ⟨c, A, X, r⟩ := F; exact ⟨c, A.ext E, X.ext E, r⟩
theorem Is.other {sl : Nat} {v : Value} (F : Is Z h b o) (W : Wr h h' a sl v) (q : b ≠ a) : Is Z h' b o := by
  rcases o with ⟨C, fs⟩ | ⟨ty, vs⟩
  · exact ⟨F.1.wr W, fun f hf => (F.2.1 f hf).other W (Or.inl q), F.2.2⟩
  · obtain ⟨c, A, X, r⟩ := F; exact ⟨c, A.other W q, X.wr W, r⟩
theorem Hp.nil (O : Old Z n0 h) (hk : kb ≤ h.size) : Hp Z n0 kb h [] := ⟨⟨O, hk⟩, fun i a o q => by simp at q, fun i j a o o' q => by simp at q⟩
theorem Hp.at (H : Hp Z n0 kb h L) {i : Nat} (q : L[i]? = some (a, o)) : Is Z h a o := (H.2.1 i a o q).2
theorem Hp.obj {C : String} {fs : List FldE} (H : Hp Z n0 kb h L) {i : Nat} (q : L[i]? = some (a, .inl (C, fs))) : Exa Z h a C ∧ (∀ f ∈ fs, Fld Z h a f.1 f.2.1 f.2.2.1 f.2.2.2) ∧ fs.Pairwise fun f g => RoadKit.slotOf Z f.1 f.2.1 f.2.2.1 ≠ RoadKit.slotOf Z g.1 g.2.1 g.2.2.1 := (H.2.1 i a _ q).2
theorem Hp.arr {ty : FieldType} {vs : List Value} (H : Hp Z n0 kb h L) {i : Nat} (q : L[i]? = some (a, .inr (ty, vs))) : ∃ c : Cell, Arr Z h a c ty ∧ Exa Z h a ("[" ++ ty.toString) ∧ c.slots.toList = vs ∧ vs.length < 2 ^ 31 := (H.2.1 i a _ q).2
theorem Hp.ge (H : Hp Z n0 kb h L) {i : Nat} (q : L[i]? = some (a, o)) : n0 ≤ a := (H.2.1 i a o q).1
theorem Hp.push (H : Hp Z n0 kb h L) (E : Ext h h') (hn : n0 ≤ h.size) (F : Is Z h' h.size o) : Hp Z n0 kb h' (L ++ [(h.size, o)]) := by
  have lt : ∀ {i : Nat} {b : Addr} {o' : Obj}, (L ++ [(h.size, o)])[i]? = some (b, o') → (i < L.length ∧ L[i]? = some (b, o') ∧ b < h.size) ∨ (i = L.length ∧ b = h.size ∧ o' = o) := by
    intro i b o' q
    by_cases hi : i < L.length
    · rw [List.getElem?_append_left hi] at q
      exact Or.inl ⟨hi, q, (H.at q).lt⟩
    · rw [List.getElem?_append_right (Nat.le_of_not_lt hi)] at q
      have : i - L.length = 0 := by
        cases hk : i - L.length with
        | zero => rfl
        | succ k => rw [hk] at q; simp at q
      rw [this] at q
      simp at q
      exact Or.inr ⟨by omega, q.1.symm, q.2.symm⟩
  refine ⟨⟨H.1.1.ext E, Nat.le_trans H.1.2 E.1⟩, fun i b o' q => ?_, fun i j b o1 o2 q1 q2 => ?_⟩
  · rcases lt q with ⟨-, q', -⟩ | ⟨-, rfl, rfl⟩
    · exact ⟨H.ge q', (H.at q').ext E⟩
    · exact ⟨hn, F⟩
  · rcases lt q1 with ⟨-, q1', r1⟩ | ⟨e1, r1, -⟩ <;> rcases lt q2 with ⟨-, q2', r2⟩ | ⟨e2, r2, -⟩
    · exact H.2.2 i j b o1 o2 q1' q2'
    · exact absurd r2 (Nat.ne_of_lt r1)
    · exact absurd r1 (Nat.ne_of_lt r2)
    · exact e1.trans e2.symm
theorem Hp.size (H : Hp Z n0 kb h L) : n0 ≤ h.size := H.1.1.1 ▸ H.1.1.2.1
theorem Hp.lower {kb' : Nat} (H : Hp Z n0 kb h L) (q : kb' ≤ h.size) : Hp Z n0 kb' h L := ⟨⟨H.1.1, q⟩, H.2⟩
theorem Hp.put {sl : Nat} {v : Value} {o' : Obj} (H : Hp Z n0 kb h L) {i : Nat} (q : L[i]? = some (a, o)) (W : Wr h h' a sl v) (F : Is Z h' a o') : Hp Z n0 kb h' (L.set i (a, o')) := by
  have at' : ∀ {j : Nat} {b : Addr} {o2 : Obj}, (L.set i (a, o'))[j]? = some (b, o2) → (j = i ∧ b = a ∧ o2 = o') ∨ (j ≠ i ∧ L[j]? = some (b, o2)) := by
    intro j b o2 r
    by_cases hj : j = i
    · subst hj
      rw [List.getElem?_set_self (List.getElem?_eq_some_iff.mp q).1] at r
      simp at r
      exact Or.inl ⟨rfl, r.1.symm, r.2.symm⟩
    · rw [List.getElem?_set_ne (Ne.symm hj)] at r
      exact Or.inr ⟨hj, r⟩
  refine ⟨⟨H.1.1.wr W (H.ge q), by rw [W.size]; exact H.1.2⟩, fun j b o2 r => ?_, fun j j' b o1 o2 r1 r2 => ?_⟩
  · rcases at' r with ⟨rfl, rfl, rfl⟩ | ⟨hj, r'⟩
    · exact ⟨H.ge q, F⟩
    · exact ⟨H.ge r', (H.at r').other W fun e => hj (by subst e; exact H.2.2 _ _ _ _ _ r' q)⟩
  · rcases at' r1 with ⟨rfl, rfl, rfl⟩ | ⟨n1, r1'⟩ <;> rcases at' r2 with ⟨rfl, e2, -⟩ | ⟨n2, r2'⟩
    · rfl
    · exact absurd (H.2.2 _ _ _ _ _ r2' q) n2
    · subst e2; exact absurd (H.2.2 _ _ _ _ _ r1' q) n1
    · exact H.2.2 _ _ _ _ _ r1' r2'
theorem Is.field {C : String} {fs : List FldE} {j : Nat} {O n d : String} {v w : Value} (F : Is Z h a (.inl (C, fs))) (q : fs[j]? = some (O, n, d, w)) (W : Wr h h' a (RoadKit.slotOf Z O n d) v) : Is Z h' a (.inl (C, fs.set j (O, n, d, v))) := by
  obtain ⟨E, A, D⟩ := F
  obtain ⟨hj, e⟩ := List.getElem?_eq_some_iff.mp q
  have nth : ∀ k g, k ≠ j → fs[k]? = some g → RoadKit.slotOf Z g.1 g.2.1 g.2.2.1 ≠ RoadKit.slotOf Z O n d := by
    intro k g hk r
    obtain ⟨hk', e'⟩ := List.getElem?_eq_some_iff.mp r
    rw [List.pairwise_iff_getElem] at D
    rcases Nat.lt_or_gt_of_ne hk with u | u
    · have := D k j hk' hj u; rw [e, e'] at this; exact this
    · have := D j k hj hk' u; rw [e, e'] at this; exact Ne.symm this
  refine ⟨E.wr W, fun f hf => ?_, ?_⟩
  · obtain ⟨k, hk, ek⟩ := List.mem_iff_getElem.mp hf
    by_cases hkj : k = j
    · subst hkj
      have : f = (O, n, d, v) := by rw [← ek]; simp
      subst this
      exact (A (O, n, d, w) (List.mem_of_getElem? q)).same W
    · have r : fs[k]? = some f := by
        have : (fs.set j (O, n, d, v))[k]? = some f := List.getElem?_eq_some_iff.mpr ⟨hk, ek⟩
        rwa [List.getElem?_set_ne (Ne.symm hkj)] at this
      exact (A f (List.mem_of_getElem? r)).other W (Or.inr (nth k f hkj r))
  · have em : (fs.set j (O, n, d, v)).map (fun f => RoadKit.slotOf Z f.1 f.2.1 f.2.2.1) = fs.map (fun f => RoadKit.slotOf Z f.1 f.2.1 f.2.2.1) := by
      rw [List.map_set]
      refine List.ext_getElem? fun k => ?_
      by_cases hkj : j = k
      · subst hkj
        rw [List.getElem?_set_self (by simpa using hj)]
        simp [q]
      · rw [List.getElem?_set_ne hkj]
    have D' : (fs.map (fun f => RoadKit.slotOf Z f.1 f.2.1 f.2.2.1)).Pairwise (· ≠ ·) := List.pairwise_map.mpr D
    rw [← em] at D'
    exact List.pairwise_map.mp D'
theorem Is.elem {ty : FieldType} {vs : List Value} {v : Value} {c : Cell} (A : Arr Z h a c ty) (X : Exa Z h a ("[" ++ ty.toString)) (e : c.slots.toList = vs) (hl : vs.length < 2 ^ 31) {j : Nat} (W : Wr h h' a j v) : Is Z h' a (.inr (ty, vs.set j v)) :=
  ⟨c.setSlot j v, A.same W, X.wr W, by subst e; simp [Cell.setSlot], by simpa using hl⟩
/-- the fields of a fresh object -/
def FOk (Z : State) (a0 : Array Value) (C : String) : List FldE → Prop
  | [] => True
  | (O, n, d, v) :: r => Laid Z a0 C O n d ∧ (∃ ty, parseFieldDescriptor d = some ty ∧ v = defaultValue ty) ∧ FOk Z a0 C r
theorem FOk.cons {C O n d : String} {v : Value} {ty : FieldType} {r : List FldE} (l : Laid Z a0 C O n d) (p : parseFieldDescriptor d = some ty) (e : v = defaultValue ty) (k : FOk Z a0 C r) : FOk Z a0 C ((O, n, d, v) :: r) := ⟨l, ⟨ty, p, e⟩, k⟩
theorem FOk.mem {C : String} : ∀ {fs : List FldE}, FOk Z a0 C fs → ∀ f ∈ fs, Laid Z a0 C f.1 f.2.1 f.2.2.1 ∧ ∃ ty, parseFieldDescriptor f.2.2.1 = some ty ∧ f.2.2.2 = defaultValue ty
  | [], _, _, hf => by simp at hf
  | (O, n, d, v) :: r, k, f, hf => by
    rcases List.mem_cons.mp hf with rfl | hf
    · exact ⟨k.1, k.2.1⟩
    · exact FOk.mem k.2.2 f hf
theorem FOk.pw {C : String} {fs : List FldE} (k : FOk Z a0 C fs) (hn : (fs.map fun f => f.2.1).Nodup) : fs.Pairwise fun f g => RoadKit.slotOf Z f.1 f.2.1 f.2.2.1 ≠ RoadKit.slotOf Z g.1 g.2.1 g.2.2.1 := by
  have hn' : fs.Pairwise fun f g => f.2.1 ≠ g.2.1 := List.pairwise_map.mp hn
  refine List.Pairwise.imp_of_mem ?_ hn'
  intro f g hf hg q
  obtain ⟨l1, t1, p1, -⟩ := k.mem f hf
  obtain ⟨l2, t2, p2, -⟩ := k.mem g hg
  exact slot_ne l1 l2 q p1 p2
theorem set_at {L : HL} {i : Nat} {q r : Addr × Obj} (h : L[i]? = some q) : (L.set i r)[i]? = some r := List.getElem?_set_self (List.getElem?_eq_some_iff.mp h).1
theorem set_ne {L : HL} {i j : Nat} {q r : Addr × Obj} (n : i ≠ j) (h : L[j]? = some q) : (L.set i r)[j]? = some q := (List.getElem?_set_ne n).trans h
end Heaps
/-! ## the walk: where it stands, and that it comes to its end -/
def Wd (p : Program) (l : Launch) (e : Env) (R : Room) (s : State) (m : MethodId) (args : Array Value) (below : List Frame) (meth : Method) (c : Code) (Z : State) (a0 : Array Value) (n0 kb : Nat) (ws : List Cond)
    (y : MethodName) (bytes : ByteArray) (ml : Nat) (ret : Option FieldType) (T : State) (L : HL) (cells slots : Nat) : Prop :=
  (∃ locs, Stand p l e R s m args below meth c T locs cells slots ∧ Fr n0 locs) ∧ Hp Z n0 kb T.heap L ∧ p.tables.exec = Jvm.exec ∧ Z.Warmed39 s.vm ∧ s.vm.findClass y.cls = some m.cls ∧ c.code = bytes ∧ c.maxLocals = ml ∧
    meth.sig.returnType = ret ∧ meth.locks = false ∧ meth.name = y.name ∧ ∀ d ∈ ws, d.before a0 Z = true
/-- how a narrow walk ends: nothing of the tables has changed but what has been resolved -/
def EndN (s : State) (kc ks : Nat) (v : Option Value) (t : State) (Lc : List Loc) : Prop := FrameEnd s (.returned v) t Lc kc ks
def Go (p : Program) (e : Env) (below : List Frame) (Z : State) (n0 kg : Nat) (E : Option Value → State → List Loc → Prop) (P : Option Value → HL → Prop) (T : State) (g : JFrame) : Prop :=
  ∃ s₂ o, Steps p.tables e below (T.setTop g) s₂ ∧ s₂.status = .running ∧ Ended s₂ below o ∧ ∃ v Lc, o = .returned v ∧ (Fr n0 Lc ∧ ∃ L', Hp Z n0 kg s₂.heap L' ∧ P v L') ∧ E v s₂ Lc
/-- a method's contract: at these arguments and these cells it returns, with P of what it returns and of the cells -/
def Con (l : Launch) (y : MethodName) (bytes : ByteArray) (ml : Nat) (ret : Option FieldType) (rm : Room) (Z : State) (n0 : Nat) (as' : Array Value) (L : HL) (P : Option Value → HL → Prop) : Prop :=
  ∀ (wx : List Cond) (kb : Nat) (h : Heap), Hp Z n0 kb h L → MetFree l y (head1 (Cond.code y bytes ml ret :: wx) rm) (fun a U => a = as' ∧ Z.Warmed39 U.vm ∧ U.heap = h) (fun _ _ _ _ _ => True)
    (fun _ U o U' => ∃ v Lc, o = .returned v ∧ (Fr n0 Lc ∧ ∃ L', Hp Z n0 kb U'.heap L' ∧ P v L') ∧ FrameEnd U o U' Lc rm.cells rm.slots)
/-- what a call leaves on the stack -/
def pushV : Option Value → List Value → List Value
  | some v, r => v :: r
  | none, r => r
theorem pushV_eq (v : Option Value) (r : List Value) : v.toList ++ r = pushV v r := by cases v <;> rfl
section Walk
variable {p : Program} {l : Launch} {e : Env} {R : Room} {s : State} {m : MethodId} {args : Array Value} {below : List Frame} {meth : Method} {c : Code} {Z : State} {a0 : Array Value} {n0 kb kg : Nat} {ws : List Cond} {y : MethodName} {bytes : ByteArray} {ml : Nat} {ret : Option FieldType} {T T' : State} {L : HL} {cells slots : Nat} {P : Option Value → HL → Prop} {E : Option Value → State → List Loc → Prop} {kc ks : Nat}
theorem Go.pre {g g' : JFrame} (k : Go p e below Z n0 kg E P T' g') (f : ∀ t, Steps p.tables e below (T'.setTop g') t → Steps p.tables e below (T.setTop g) t) : Go p e below Z n0 kg E P T g := by
  obtain ⟨s₂, o, h1, r⟩ := k
  exact ⟨s₂, o, f _ h1, r⟩
theorem Go.mono {g : JFrame} {P' : Option Value → HL → Prop} (k : Go p e below Z n0 kg E P' T g) (f : ∀ v L, P' v L → P v L) : Go p e below Z n0 kg E P T g := by
  obtain ⟨s₂, o, h1, h2, h3, v, Lc, h4, ⟨h5, L', h6, h7⟩, h8⟩ := k
  exact ⟨s₂, o, h1, h2, h3, v, Lc, h4, ⟨h5, L', h6, f _ _ h7⟩, h8⟩
section Wds
variable (w : Wd p l e R s m args below meth c Z a0 n0 kb ws y bytes ml ret T L cells slots)
theorem Wd.here (w : Wd p l e R s m args below meth c Z a0 n0 kb ws y bytes ml ret T L cells slots) : At T m c below := by obtain ⟨⟨_, X, -⟩, -⟩ := w; exact X.here
theorem Wd.hx (w : Wd p l e R s m args below meth c Z a0 n0 kb ws y bytes ml ret T L cells slots) : p.tables.exec = Jvm.exec := w.2.2.1
theorem Wd.hby (w : Wd p l e R s m args below meth c Z a0 n0 kb ws y bytes ml ret T L cells slots) : c.code = bytes := w.2.2.2.2.2.1
theorem Wd.hp (w : Wd p l e R s m args below meth c Z a0 n0 kb ws y bytes ml ret T L cells slots) : Hp Z n0 kb T.heap L := w.2.1
theorem Wd.hw (w : Wd p l e R s m args below meth c Z a0 n0 kb ws y bytes ml ret T L cells slots) {k : Nat} {d : Cond} (h : ws[k]? = some d) : d.before a0 Z = true := w.2.2.2.2.2.2.2.2.2.2 _ (List.mem_of_getElem? h)
theorem Wd.to {L' : HL} (w : Wd p l e R s m args below meth c Z a0 n0 kb ws y bytes ml ret T L cells slots) (q : L = L') : Wd p l e R s m args below meth c Z a0 n0 kb ws y bytes ml ret T L' cells slots := q ▸ w
end Wds
theorem Con.of {rm : Room} {as' : Array Value} (hpl : plainFor y = true) (hws : ∀ d ∈ ws, d.before a0 Z = true)
    (body : ∀ {p : Program} {e : Env} {s : State} {m : MethodId} {below : List Frame} {meth : Method} {c : Code} {T : State} {kb : Nat}, Wd p l e rm s m as' below meth c Z a0 n0 kb ws y bytes ml ret T L 0 0 → Go p e below Z n0 kb (EndN s rm.cells rm.slots) P T (entryFrame m as' ml)) :
    Con l y bytes ml ret rm Z n0 as' L P := by
  intro wx kb h hH
  refine MetFree.of_bodySF hpl hisR ?_
  intro p e s m args below meth c s₁ Bd hml hP hK
  obtain ⟨rfl, hZ, hh⟩ := hP
  have X0 : Stand p l e rm s m args below meth c s₁ [] 0 0 := Stand.of_body Bd
  have e0 : s₁.heap = h := by rw [← hh, Bd.state]; rfl
  obtain ⟨s₂, o, h1, h2, h3, v, Lc, rfl, h5, h6⟩ := body ⟨⟨[], X0, Fr.nil n0⟩, by rw [e0]; exact hH, Bd.exec, hZ, findClass_of_methodNamed Bd.named, Bd.bytes, hml, Bd.returns, Bd.notSynchronized, (name_of_methodNamed Bd.named Bd.method).1, hws⟩
  obtain ⟨h5a, L', h5b, h5c⟩ := h5
  exact ⟨s₂, _, h1, h2, h3, v, Lc, rfl, ⟨h5a, L', h5b, h5c⟩, h6⟩
theorem g_entry {as' : Array Value} (Ls : Array Slot) (q : entryFrame m as' ml = mkF m 0 Ls []) (k : Go p e below Z n0 kg E P T (mkF m 0 Ls [])) : Go p e below Z n0 kg E P T (entryFrame m as' ml) := by rw [q]; exact k
theorem g_int {pc : Nat} {Ls : Array Slot} {x x' : Int32} {st : List Value} (q : x = x') (k : Go p e below Z n0 kg E P T (mkF m pc Ls (.int x' :: st))) : Go p e below Z n0 kg E P T (mkF m pc Ls (.int x :: st)) := by rw [q]; exact k
theorem g_long {pc : Nat} {Ls : Array Slot} {x x' : Int64} {st : List Value} (q : x = x') (k : Go p e below Z n0 kg E P T (mkF m pc Ls (.long x' :: st))) : Go p e below Z n0 kg E P T (mkF m pc Ls (.long x :: st)) := by rw [q]; exact k
theorem g_end {f : State → State} {fs : List Frame} {v : Option Value} {g : JFrame} {locs : List Loc} (X : Stand p l e R s m args below meth c T locs cells slots) (N : Fr n0 locs) (H : Hp Z n0 kb T.heap L) (hc : cells ≤ kc) (hs : slots ≤ ks) (hP : P v L)
    (st : Steps p.tables e below (T.setTop g) (T.setFrames fs)) (h1 : (T.setFrames fs).status = .running) (h2 : Ended (T.setFrames fs) below (.returned v)) (h3 : s.WarmedH (T.setFrames fs).vm) (h4 : s.sameButNew ({ T.setFrames fs with vm := s.vm } : State) locs cells slots) :
    Go p e below Z n0 kb (EndN s kc ks) P T g :=
  ⟨_, _, st, h1, h2, v, locs, rfl, ⟨N, L, H, hP⟩, ⟨_, rfl⟩, h3, h4.mono hc hs⟩
theorem g_ret (w : Wd p l e R s m args below meth c Z a0 n0 kb ws y bytes ml none T L cells slots) {pc : Nat} {Ls : Array Slot} (hd : decode bytes pc = .ok (.return_, 1)) (hc : cells ≤ kc) (hs : slots ≤ ks) (hP : P none L) :
    Go p e below Z n0 kb (EndN s kc ks) P T (mkF m pc Ls []) := by
  obtain ⟨⟨locs, X, N⟩, H, hx, hZ, hown, hby, hml, hret, hlk, hnm, hws⟩ := w
  obtain ⟨fs, hr, h1, h2, h3, h4⟩ := X.leave (v := none) (fun _ => rfl) hlk
  exact g_end (f := id) X N H hc hs hP (X.returnOut hx hret (hb hby hd) hr) h1 h2 h3 h4
theorem g_retW {t : FieldType} {i : Instr} (w : Wd p l e R s m args below meth c Z a0 n0 kb ws y bytes ml (some t) T L cells slots) {pc : Nat} {Ls : Array Slot} {v : Value} {st : List Value} (hd : decode bytes pc = .ok (i, 1)) (hn : narrow t v = v)
    (hi : (i = .ireturn ∧ (t = .int ∨ t = .boolean ∨ t = .byte ∨ t = .char ∨ t = .short) ∧ ∃ z, v = .int z) ∨ (i = .lreturn ∧ t = .long ∧ ∃ z, v = .long z) ∨ (i = .dreturn ∧ t = .double ∧ ∃ z, v = .double z) ∨ (i = .freturn ∧ t = .float ∧ ∃ z, v = .float z) ∨ (i = .areturn ∧ t.isReference = true ∧ v.isRef = true))
    (hc : cells ≤ kc) (hs : slots ≤ ks) (hP : P (some v) L) : Go p e below Z n0 kb (EndN s kc ks) P T (mkF m pc Ls (v :: st)) := by
  obtain ⟨⟨locs, X, N⟩, H, hx, hZ, hown, hby, hml, hret, hlk, hnm, hws⟩ := w
  obtain ⟨fs, hr, h1, h2, h3, h4⟩ := X.leave (v := some v) (fun q => by rw [hret] at q; cases q) hlk
  exact g_end (f := id) X N H hc hs hP (retOut X hx hret hn hi (hb hby hd) hr) h1 h2 h3 h4
theorem g_ireti (w : Wd p l e R s m args below meth c Z a0 n0 kb ws y bytes ml (some .int) T L cells slots) {pc : Nat} {Ls : Array Slot} {z : Int32} {st : List Value} (hd : decode bytes pc = .ok (.ireturn, 1)) (hc : cells ≤ kc) (hs : slots ≤ ks) (hP : P (some (.int z)) L) :
    Go p e below Z n0 kb (EndN s kc ks) P T (mkF m pc Ls (.int z :: st)) := g_retW w hd rfl (Or.inl ⟨rfl, Or.inl rfl, z, rfl⟩) hc hs hP
theorem g_lret (w : Wd p l e R s m args below meth c Z a0 n0 kb ws y bytes ml (some .long) T L cells slots) {pc : Nat} {Ls : Array Slot} {z : Int64} {st : List Value} (hd : decode bytes pc = .ok (.lreturn, 1)) (hc : cells ≤ kc) (hs : slots ≤ ks) (hP : P (some (.long z)) L) :
    Go p e below Z n0 kb (EndN s kc ks) P T (mkF m pc Ls (.long z :: st)) := g_retW w hd rfl (Or.inr (Or.inl ⟨rfl, rfl, z, rfl⟩)) hc hs hP
theorem g_aret {t : FieldType} (w : Wd p l e R s m args below meth c Z a0 n0 kb ws y bytes ml (some t) T L cells slots) {pc : Nat} {Ls : Array Slot} {v : Value} {st : List Value} (hd : decode bytes pc = .ok (.areturn, 1)) (ht : t.isReference = true) (hv : v.isRef = true) (hn : narrow t v = v) (hc : cells ≤ kc) (hs : slots ≤ ks) (hP : P (some v) L) :
    Go p e below Z n0 kb (EndN s kc ks) P T (mkF m pc Ls (v :: st)) := g_retW w hd hn (Or.inr (Or.inr (Or.inr (Or.inr ⟨rfl, ht, hv⟩)))) hc hs hP
/-- a boolean, byte, char or short: narrowed -/
theorem g_iretn {t : FieldType} (w : Wd p l e R s m args below meth c Z a0 n0 kb ws y bytes ml (some t) T L cells slots) (ht : t = .boolean ∨ t = .byte ∨ t = .char ∨ t = .short) {pc : Nat} {Ls : Array Slot} {z : Int32} {st : List Value} (hd : decode bytes pc = .ok (.ireturn, 1)) (hc : cells ≤ kc) (hs : slots ≤ ks) (hP : P (some (.int (nar t z))) L) :
    Go p e below Z n0 kb (EndN s kc ks) P T (mkF m pc Ls (.int z :: st)) := by
  obtain ⟨⟨locs, X, N⟩, H, hx, hZ, hown, hby, hml, hret, hlk, hnm, hws⟩ := w
  obtain ⟨fs, hr, h1, h2, h3, h4⟩ := X.leave (v := some (.int (nar t z))) (fun q => by rw [hret] at q; cases q) hlk
  exact g_end (f := id) X N H hc hs hP (retN X hx hret ht (hb hby hd) hr) h1 h2 h3 h4
/-! ## constants of the pool -/
theorem g_ldci (w : Wd p l e R s m args below meth c Z a0 n0 kb ws y bytes ml ret T L cells slots) {pc : Nat} {Ls : Array Slot} {st : List Value} {idx : Nat} (hd : decode bytes pc = .ok (.ldc idx, 2)) (k : Nat) {v : Int32} (hk : ws[k]? = some (.constant y.cls idx v)) (pc' : Nat) (hp : pc + 2 = pc')
    (kt : Go p e below Z n0 kg E P T (mkF m pc' Ls (.int v :: st))) : Go p e below Z n0 kg E P T (mkF m pc Ls st) := by
  subst hp
  have hk' := w.hw hk
  obtain ⟨⟨locs, X, N⟩, H, hx, hZ, hown, hby, hml, hret, hlk, hnm, hws⟩ := w
  exact kt.pre fun t q => X.ldcInt hx hown (mvT hZ hk') (g := mkF m pc Ls st) rfl (hb hby hd) t q
theorem g_ldcl (w : Wd p l e R s m args below meth c Z a0 n0 kb ws y bytes ml ret T L cells slots) {pc : Nat} {Ls : Array Slot} {st : List Value} {idx : Nat} (hd : decode bytes pc = .ok (.ldc2_w idx, 3)) (k : Nat) {v : Int64} (hk : ws[k]? = some (.constantLong y.cls idx v)) (pc' : Nat) (hp : pc + 3 = pc')
    (kt : Go p e below Z n0 kg E P T (mkF m pc' Ls (.long v :: st))) : Go p e below Z n0 kg E P T (mkF m pc Ls st) := by
  subst hp
  have hk' := w.hw hk
  obtain ⟨⟨locs, X, N⟩, H, hx, hZ, hown, hby, hml, hret, hlk, hnm, hws⟩ := w
  exact kt.pre fun t q => X.ldc2Long hx hown (mvT hZ hk') (g := mkF m pc Ls st) rfl (hb hby hd) t q
/-! ## fields -/
theorem g_getf (w : Wd p l e R s m args below meth c Z a0 n0 kb ws y bytes ml ret T L cells slots) {pc : Nat} {Ls : Array Slot} {st : List Value} {idx : Nat} {a : Addr} {C R0 O n d : String} {fs : List FldE} {v : Value} (hd : decode bytes pc = .ok (.getfield idx, 3)) (i : Nat) (hi : L[i]? = some (a, .inl (C, fs))) (j : Nat) (hj : fs[j]? = some (O, n, d, v))
    (k : Nat) (hk : ws[k]? = some (.fieldLink y.cls idx R0 n d)) (via : Via Z R0 O n d) (pc' : Nat) (hp : pc + 3 = pc')
    (kt : ∀ T', Wd p l e R s m args below meth c Z a0 n0 kb ws y bytes ml ret T' L cells slots → Go p e below Z n0 kg E P T' (mkF m pc' Ls (v :: st))) : Go p e below Z n0 kg E P T (mkF m pc Ls (.ref a :: st)) := by
  subst hp
  have hk' := w.hw hk
  obtain ⟨⟨locs, X, N⟩, H, hx, hZ, hown, hby, hml, hret, hlk, hnm, hws⟩ := w
  have F := (H.obj hi).2.1 _ (List.mem_of_getElem? hj)
  obtain ⟨T', X', e', st'⟩ := getF X hx hZ hown (host := "") (Or.inl hk') via rfl F (g := mkF m pc Ls (.ref a :: st)) rfl rfl (hb hby hd)
  exact (kt T' ⟨⟨locs, X', N⟩, by rw [e']; exact H, hx, hZ, hown, hby, hml, hret, hlk, hnm, hws⟩).pre st'
theorem g_putf (w : Wd p l e R s m args below meth c Z a0 n0 kb ws y bytes ml ret T L cells slots) {pc : Nat} {Ls : Array Slot} {st : List Value} {idx kk : Nat} {a : Addr} {C R0 O n d : String} {fs : List FldE} {u v : Value} {ty : FieldType} (hd : decode bytes pc = .ok (.putfield idx, 3)) (i : Nat) (hi : L[i]? = some (a, .inl (C, fs))) (j : Nat) (hj : fs[j]? = some (O, n, d, u))
    (k : Nat) (hk : ws[k]? = some (.fieldLink y.cls idx R0 n d)) (via : Via Z R0 O n d) (k2 : Nat) (hk2 : ws[k2]? = some (.lays C O n d) ∨ (ws[k2]? = some (.laysFinal C O n d) ∧ y.cls = O ∧ y.name = "<init>")) (k3 : Nat) (hk3 : ws[k3]? = some (.instantiable C kk)) (hty : parseFieldDescriptor d = some ty) (hn : narrow ty v = v) (hf : fits ty v = true) (pc' : Nat) (hp : pc + 3 = pc')
    (kt : ∀ T', Wd p l e R s m args below meth c Z a0 n0 kb ws y bytes ml ret T' (L.set i (a, .inl (C, fs.set j (O, n, d, v)))) cells slots → Go p e below Z n0 kg E P T' (mkF m pc' Ls st)) : Go p e below Z n0 kg E P T (mkF m pc Ls (v :: .ref a :: st)) := by
  subst hp
  have hk' := w.hw hk
  have hk3' := w.hw hk3
  have hk2' : (Cond.lays C O n d).before a0 Z = true ∨ ((Cond.laysFinal C O n d).before a0 Z = true ∧ y.cls = O ∧ y.name = "<init>") := hk2.imp (fun q => w.hw q) fun q => ⟨w.hw q.1, q.2⟩
  obtain ⟨⟨locs, X, N⟩, H, hx, hZ, hown, hby, hml, hret, hlk, hnm, hws⟩ := w
  have I := H.obj hi
  have F := I.2.1 _ (List.mem_of_getElem? hj)
  obtain ⟨T', h', X', e', W, st'⟩ := putF X hx hZ hown (host := "") (Or.inl hk') via rfl F I.1 (hk2'.imp id fun q => ⟨q.1, q.2.1, hnm.trans q.2.2⟩) hk3' hty hn hf (g := mkF m pc Ls (v :: .ref a :: st)) rfl rfl (hb hby hd)
  refine (kt T' ⟨⟨_, X', Fr.snoc X' N (H.ge hi)⟩, ?_, hx, hZ, hown, hby, hml, hret, hlk, hnm, hws⟩).pre st'
  rw [e']
  exact H.put hi W (Is.field (H.at hi) hj W)
/-! ## new objects and arrays -/
theorem g_new (w : Wd p l e R s m args below meth c Z a0 n0 kb ws y bytes ml ret T L cells slots) {pc : Nat} {Ls : Array Slot} {st : List Value} {idx n : Nat} {C : String} (fs : List FldE) (hd : decode bytes pc = .ok (.new idx, 3)) (k1 : Nat) (hk1 : ws[k1]? = some (.classLink y.cls idx C)) (k2 : Nat) (hk2 : ws[k2]? = some (.instantiable C n)) (k3 : Nat) (hk3 : ws[k3]? = some (.initialized C))
    (hfs : FOk Z a0 C fs) (hnd : (fs.map fun f => f.2.1).Nodup) (hc : cells + 1 ≤ R.cells) (hs : slots + n ≤ R.slots) (pc' : Nat) (hp : pc + 3 = pc')
    (kt : ∀ T' a, Wd p l e R s m args below meth c Z a0 n0 kb ws y bytes ml ret T' (L ++ [(a, .inl (C, fs))]) (cells + 1) (slots + n) → Go p e below Z n0 kg E P T' (mkF m pc' Ls (.ref a :: st))) : Go p e below Z n0 kg E P T (mkF m pc Ls st) := by
  subst hp
  have hk1' := w.hw hk1
  have hk2' := w.hw hk2
  have hk3' := w.hw hk3
  obtain ⟨⟨locs, X, N⟩, H, hx, hZ, hown, hby, hml, hret, hlk, hnm, hws⟩ := w
  obtain ⟨T', h', X', e', E, A, D, -, st'⟩ := newO X hx hZ hown hk1' hk2' hk3' rfl (g := mkF m pc Ls st) rfl (hb hby hd) hc hs
  refine (kt T' T.heap.size ⟨⟨_, X', N⟩, ?_, hx, hZ, hown, hby, hml, hret, hlk, hnm, hws⟩).pre st'
  rw [e']
  refine H.push E H.size (show Exa _ _ _ _ ∧ _ ∧ _ from ⟨A, fun f hf => ?_, hfs.pw hnd⟩)
  obtain ⟨l1, t1, p1, v1⟩ := hfs.mem f hf
  rw [v1]
  exact D l1 p1
theorem g_newarr (w : Wd p l e R s m args below meth c Z a0 n0 kb ws y bytes ml ret T L cells slots) {pc : Nat} {Ls : Array Slot} {st : List Value} {aty : ArrayType} {n : Int32} (hd : decode bytes pc = .ok (.newarray aty, 2)) (k1 : Nat) (hk1 : ws[k1]? = some (.arrayClass (newarray.typeOf aty))) (nn cap : Nat) (hn : n.toInt = (nn : Int)) (hcap : nn ≤ cap) (hb8 : cap * 8 ≤ 536870912)
    (vs : List Value) (hvs : vs = List.replicate nn (defaultValue (newarray.typeOf aty))) (hc : cells + 1 ≤ R.cells) (hs : slots + cap ≤ R.slots) (pc' : Nat) (hp : pc + 2 = pc')
    (kt : ∀ T' a, Wd p l e R s m args below meth c Z a0 n0 kb ws y bytes ml ret T' (L ++ [(a, .inr (newarray.typeOf aty, vs))]) (cells + 1) (slots + cap) → Go p e below Z n0 kg E P T' (mkF m pc' Ls (.ref a :: st))) : Go p e below Z n0 kg E P T (mkF m pc Ls (.int n :: st)) := by
  subst hp hvs
  have hk1' := w.hw hk1
  obtain ⟨⟨locs, X, N⟩, H, hx, hZ, hown, hby, hml, hret, hlk, hnm, hws⟩ := w
  have q0 : ¬ n < 0 := by rw [Int32.lt_iff_toInt_lt, hn]; show ¬ ((nn : Int) < 0); omega
  have q1 : n.toNatClampNeg = nn := by have := nat_of q0; rw [hn] at this; exact (Int.ofNat.inj this).symm
  obtain ⟨T', h', cA, X', e', E, A, XA, st'⟩ := newPE X hx hZ hk1' rfl (g := mkF m pc Ls (.int n :: st)) rfl (hb hby hd) rfl q0 (cap := cap) (by rw [q1]; exact hcap) hb8 hc hs (ad := "[" ++ (newarray.typeOf aty).toString) rfl
  refine (kt T' T.heap.size ⟨⟨_, X', N⟩, ?_, hx, hZ, hown, hby, hml, hret, hlk, hnm, hws⟩).pre st'
  rw [e']
  refine H.push E H.size (show ∃ c : Cell, _ from ⟨_, A, XA, by simp [newA, q1], ?_⟩)
  have := Int32.toInt_lt n
  rw [hn] at this
  simp only [List.length_replicate]
  omega
theorem inb {j : Int32} {jn : Nat} {cl : Cell} {vs : List Value} (hj : j.toInt = (jn : Int)) (e : cl.slots.toList = vs) (hl : jn < vs.length) : ¬ (j < 0 ∨ cl.slots.size ≤ j.toNatClampNeg) ∧ j.toNatClampNeg = jn := by
  have q0 : ¬ j < 0 := by rw [Int32.lt_iff_toInt_lt, hj]; show ¬ ((jn : Int) < 0); omega
  have q1 : j.toNatClampNeg = jn := by have := nat_of q0; rw [hj] at this; exact (Int.ofNat.inj this).symm
  refine ⟨fun q => q.elim q0 fun r => ?_, q1⟩
  rw [q1] at r
  have : cl.slots.size = vs.length := by rw [← e]; simp
  omega
theorem g_alen (w : Wd p l e R s m args below meth c Z a0 n0 kb ws y bytes ml ret T L cells slots) {pc : Nat} {Ls : Array Slot} {st : List Value} {a : Addr} {ty : FieldType} {vs : List Value} (hd : decode bytes pc = .ok (.arraylength, 1)) (i : Nat) (hi : L[i]? = some (a, .inr (ty, vs))) (z : Int32) (hz : z.toInt = (vs.length : Int)) (pc' : Nat) (hp : pc + 1 = pc')
    (kt : Go p e below Z n0 kg E P T (mkF m pc' Ls (.int z :: st))) : Go p e below Z n0 kg E P T (mkF m pc Ls (.ref a :: st)) := by
  subst hp
  obtain ⟨⟨locs, X, N⟩, H, hx, hZ, hown, hby, hml, hret, hlk, hnm, hws⟩ := w
  obtain ⟨cl, A, -, ev, hl⟩ := H.arr hi
  refine kt.pre fun t q => X.arraylength hx A.1 (State.isArrayOf_alike hZ.alike A.2.1) (g := mkF m pc Ls (.ref a :: st)) rfl rfl (hb hby hd) t ?_
  have : cl.slots.size.toInt32 = z := by
    apply Int32.toInt_inj.mp
    have e1 : cl.slots.size = vs.length := by rw [← ev]; simp
    rw [hz, e1]
    exact len_toInt hl
  rw [this]
  exact q
theorem g_castA (w : Wd p l e R s m args below meth c Z a0 n0 kb ws y bytes ml ret T L cells slots) {pc : Nat} {Ls : Array Slot} {st : List Value} {a : Addr} {ty : FieldType} {vs : List Value} {idx : Nat} {K : String} (hd : decode bytes pc = .ok (.checkcast idx, 3)) (i : Nat) (hi : L[i]? = some (a, .inr (ty, vs))) (k : Nat) (hk : ws[k]? = some (.classLink y.cls idx K)) (hK : "[" ++ ty.toString = K) (pc' : Nat) (hp : pc + 3 = pc')
    (kt : ∀ T', Wd p l e R s m args below meth c Z a0 n0 kb ws y bytes ml ret T' L cells slots → Go p e below Z n0 kg E P T' (mkF m pc' Ls (.ref a :: st))) : Go p e below Z n0 kg E P T (mkF m pc Ls (.ref a :: st)) := by
  subst hp hK
  have hk' := w.hw hk
  obtain ⟨⟨locs, X, N⟩, H, hx, hZ, hown, hby, hml, hret, hlk, hnm, hws⟩ := w
  obtain ⟨cl, A, XA, ev, hl⟩ := H.arr hi
  obtain ⟨T', X', e', st'⟩ := castY X hx hZ hown hk' rfl (Ins.self XA) (g := mkF m pc Ls (.ref a :: st)) rfl rfl (hb hby hd)
  exact (kt T' ⟨⟨locs, X', N⟩, by rw [e']; exact H, hx, hZ, hown, hby, hml, hret, hlk, hnm, hws⟩).pre st'
theorem g_cloneA (w : Wd p l e R s m args below meth c Z a0 n0 kb ws y bytes ml ret T L cells slots) {pc : Nat} {Ls : Array Slot} {st : List Value} {a : Addr} {ty : FieldType} {vs : List Value} {idx : Nat} {ad : String} (hd : decode bytes pc = .ok (.invokevirtual idx, 3)) (i : Nat) (hi : L[i]? = some (a, .inr (ty, vs))) (had : "[" ++ ty.toString = ad)
    (k1 : Nat) (hk1 : ws[k1]? = some (.methodLink y.cls idx ⟨ad, "clone", "()Ljava/lang/Object;"⟩)) (k2 : Nat) (hk2 : ws[k2]? = some (.sameMethod ad "java/lang/Object" "clone" "()Ljava/lang/Object;")) (k3 : Nat) (hk3 : ws[k3]? = some (.native ⟨"java/lang/Object", "clone", "()Ljava/lang/Object;"⟩)) (k4 : Nat) (hk4 : ws[k4]? = some (.instanceMethod ⟨"java/lang/Object", "clone", "()Ljava/lang/Object;"⟩))
    (k5 : Nat) (hk5 : ws[k5]? = some (.selects ad ⟨ad, "clone", "()Ljava/lang/Object;"⟩ ⟨"java/lang/Object", "clone", "()Ljava/lang/Object;"⟩)) (k6 : Nat) (hk6 : ws[k6]? = some (.castable ad "java/lang/Cloneable")) (hfit : ∀ v ∈ vs, fits ty v = true) (hsz : Ls.size = ml) (hf : 1 ≤ R.frames) (W cap : Nat) (hW : (st.map fun v => v.category).sum = W) (hl : W + 14 ≤ R.locals) (hcap : vs.length ≤ cap) (hc : cells + 1 ≤ R.cells) (hs : slots + cap ≤ R.slots) (pc' : Nat) (hp : pc + 3 = pc')
    (kt : ∀ T' a', Wd p l e R s m args below meth c Z a0 n0 kb ws y bytes ml ret T' (L ++ [(a', .inr (ty, vs))]) (cells + 1) (slots + cap) → Go p e below Z n0 kg E P T' (mkF m pc' Ls (.ref a' :: st))) : Go p e below Z n0 kg E P T (mkF m pc Ls (.ref a :: st)) := by
  subst hp had
  have hk1' := w.hw hk1
  have hk2' := w.hw hk2
  have hk3' := w.hw hk3
  have hk4' := w.hw hk4
  have hk5' := w.hw hk5
  have hk6' := w.hw hk6
  obtain ⟨⟨locs, X, N⟩, H, hx, hZ, hown, hby, hml, hret, hlk, hnm, hws⟩ := w
  obtain ⟨cl, A, XA, ev, hL⟩ := H.arr hi
  have FC : FitC Z cl := fitC_of A fun i hi v hv => hfit v (by rw [← ev]; exact Array.mem_toList_iff.mpr (Array.mem_of_getElem? hv))
  have hlen : cl.slots.size = vs.length := by rw [← ev]; simp
  obtain ⟨T', h', X', e', E, A', XA', st'⟩ := cloneA X hx hZ hown hk1' hk2' hk3' hk4' hk5' hk6' rfl A XA FC (g := mkF m pc Ls (.ref a :: st)) rfl (by rw [hml]; exact hsz) rfl (hb hby hd) hf (W := W) (cap := cap) (by show 2 * 0 + _ ≤ _; rw [hW]; omega) hl (by rw [hlen]; exact hcap) hc hs
  refine (kt T' T.heap.size ⟨⟨_, X', N⟩, ?_, hx, hZ, hown, hby, hml, hret, hlk, hnm, hws⟩).pre st'
  rw [e']
  exact H.push E H.size ⟨_, A', XA', ev, hL⟩
/-! ## what stood at the start: statics and old objects (never written) -/
theorem Hp.old (H : Hp Z n0 kb T.heap L) : Ext Z.heap T.heap := H.1.1.2
theorem g_gets (w : Wd p l e R s m args below meth c Z a0 n0 kb ws y bytes ml ret T L cells slots) {pc : Nat} {Ls : Array Slot} {st : List Value} {idx : Nat} {O n d : String} {v : Value} (F : Sta Z Z.heap O n d v) (hd : decode bytes pc = .ok (.getstatic idx, 3)) (k : Nat) (hk : ws[k]? = some (.fieldLink y.cls idx O n d)) (pc' : Nat) (hp : pc + 3 = pc')
    (kt : ∀ T', Wd p l e R s m args below meth c Z a0 n0 kb ws y bytes ml ret T' L cells slots → Go p e below Z n0 kg E P T' (mkF m pc' Ls (v :: st))) : Go p e below Z n0 kg E P T (mkF m pc Ls st) := by
  subst hp
  have hk' := w.hw hk
  obtain ⟨⟨locs, X, N⟩, H, hx, hZ, hown, hby, hml, hret, hlk, hnm, hws⟩ := w
  obtain ⟨T', X', e', st'⟩ := getS X hx hZ hown (host := "") hk' Via.refl rfl (F.ext H.old) (g := mkF m pc Ls st) rfl (hb hby hd)
  exact (kt T' ⟨⟨locs, X', N⟩, by rw [e']; exact H, hx, hZ, hown, hby, hml, hret, hlk, hnm, hws⟩).pre st'
theorem g_getfO (w : Wd p l e R s m args below meth c Z a0 n0 kb ws y bytes ml ret T L cells slots) {pc : Nat} {Ls : Array Slot} {st : List Value} {idx : Nat} {a : Addr} {O n d : String} {v : Value} (F : Fld Z Z.heap a O n d v) (hd : decode bytes pc = .ok (.getfield idx, 3)) (k : Nat) (hk : ws[k]? = some (.fieldLink y.cls idx O n d)) (pc' : Nat) (hp : pc + 3 = pc')
    (kt : ∀ T', Wd p l e R s m args below meth c Z a0 n0 kb ws y bytes ml ret T' L cells slots → Go p e below Z n0 kg E P T' (mkF m pc' Ls (v :: st))) : Go p e below Z n0 kg E P T (mkF m pc Ls (.ref a :: st)) := by
  subst hp
  have hk' := w.hw hk
  obtain ⟨⟨locs, X, N⟩, H, hx, hZ, hown, hby, hml, hret, hlk, hnm, hws⟩ := w
  obtain ⟨T', X', e', st'⟩ := getF X hx hZ hown (host := "") (Or.inl hk') Via.refl rfl (F.ext H.old) (g := mkF m pc Ls (.ref a :: st)) rfl rfl (hb hby hd)
  exact (kt T' ⟨⟨locs, X', N⟩, by rw [e']; exact H, hx, hZ, hown, hby, hml, hret, hlk, hnm, hws⟩).pre st'
theorem g_iaload (w : Wd p l e R s m args below meth c Z a0 n0 kb ws y bytes ml ret T L cells slots) {pc : Nat} {Ls : Array Slot} {st : List Value} {a : Addr} {vs : List Value} {j : Int32} {v : Value} (hd : decode bytes pc = .ok (.iaload, 1)) (i : Nat) (hi : L[i]? = some (a, .inr (.int, vs))) (jn : Nat) (hj : j.toInt = (jn : Int)) (hv : vs[jn]? = some v) (pc' : Nat) (hp : pc + 1 = pc')
    (kt : Go p e below Z n0 kg E P T (mkF m pc' Ls (v :: st))) : Go p e below Z n0 kg E P T (mkF m pc Ls (.int j :: .ref a :: st)) := by
  subst hp
  obtain ⟨⟨locs, X, N⟩, H, hx, hZ, hown, hby, hml, hret, hlk, hnm, hws⟩ := w
  obtain ⟨cl, A, -, ev, hl⟩ := H.arr hi
  obtain ⟨q1, q2⟩ := inb hj ev (List.getElem?_eq_some_iff.mp hv).1
  exact kt.pre fun t q => X.iaload hx (j := j) (v := v) A.1 (State.isArrayOf_alike hZ.alike A.2.1) A.2.2 q1 (by rw [q2, ← hv, ← ev]; simp) (g := mkF m pc Ls (.int j :: .ref a :: st)) rfl rfl (hb hby hd) t q
theorem g_laload (w : Wd p l e R s m args below meth c Z a0 n0 kb ws y bytes ml ret T L cells slots) {pc : Nat} {Ls : Array Slot} {st : List Value} {a : Addr} {vs : List Value} {j : Int32} {v : Value} (hd : decode bytes pc = .ok (.laload, 1)) (i : Nat) (hi : L[i]? = some (a, .inr (.long, vs))) (jn : Nat) (hj : j.toInt = (jn : Int)) (hv : vs[jn]? = some v) (pc' : Nat) (hp : pc + 1 = pc')
    (kt : Go p e below Z n0 kg E P T (mkF m pc' Ls (v :: st))) : Go p e below Z n0 kg E P T (mkF m pc Ls (.int j :: .ref a :: st)) := by
  subst hp
  obtain ⟨⟨locs, X, N⟩, H, hx, hZ, hown, hby, hml, hret, hlk, hnm, hws⟩ := w
  obtain ⟨cl, A, -, ev, hl⟩ := H.arr hi
  obtain ⟨q1, q2⟩ := inb hj ev (List.getElem?_eq_some_iff.mp hv).1
  exact kt.pre fun t q => X.laload hx (j := j) (v := v) A.1 (State.isArrayOf_alike hZ.alike A.2.1) A.2.2 q1 (by rw [q2, ← hv, ← ev]; simp) (g := mkF m pc Ls (.int j :: .ref a :: st)) rfl rfl (hb hby hd) t q
theorem g_caload (w : Wd p l e R s m args below meth c Z a0 n0 kb ws y bytes ml ret T L cells slots) {pc : Nat} {Ls : Array Slot} {st : List Value} {a : Addr} {vs : List Value} {j : Int32} {v : Value} (hd : decode bytes pc = .ok (.caload, 1)) (i : Nat) (hi : L[i]? = some (a, .inr (.char, vs))) (jn : Nat) (hj : j.toInt = (jn : Int)) (hv : vs[jn]? = some v) (pc' : Nat) (hp : pc + 1 = pc')
    (kt : Go p e below Z n0 kg E P T (mkF m pc' Ls (v :: st))) : Go p e below Z n0 kg E P T (mkF m pc Ls (.int j :: .ref a :: st)) := by
  subst hp
  obtain ⟨⟨locs, X, N⟩, H, hx, hZ, hown, hby, hml, hret, hlk, hnm, hws⟩ := w
  obtain ⟨cl, A, -, ev, hl⟩ := H.arr hi
  obtain ⟨q1, q2⟩ := inb hj ev (List.getElem?_eq_some_iff.mp hv).1
  exact kt.pre fun t q => X.caload hx (j := j) (v := v) A.1 (State.isArrayOf_alike hZ.alike A.2.1) A.2.2 q1 (by rw [q2, ← hv, ← ev]; simp) (g := mkF m pc Ls (.int j :: .ref a :: st)) rfl rfl (hb hby hd) t q
theorem g_baload (w : Wd p l e R s m args below meth c Z a0 n0 kb ws y bytes ml ret T L cells slots) {pc : Nat} {Ls : Array Slot} {st : List Value} {a : Addr} {vs : List Value} {j : Int32} {v : Value} (hd : decode bytes pc = .ok (.baload, 1)) (i : Nat) (hi : L[i]? = some (a, .inr (.byte, vs))) (jn : Nat) (hj : j.toInt = (jn : Int)) (hv : vs[jn]? = some v) (pc' : Nat) (hp : pc + 1 = pc')
    (kt : Go p e below Z n0 kg E P T (mkF m pc' Ls (v :: st))) : Go p e below Z n0 kg E P T (mkF m pc Ls (.int j :: .ref a :: st)) := by
  subst hp
  obtain ⟨⟨locs, X, N⟩, H, hx, hZ, hown, hby, hml, hret, hlk, hnm, hws⟩ := w
  obtain ⟨cl, A, -, ev, hl⟩ := H.arr hi
  obtain ⟨q1, q2⟩ := inb hj ev (List.getElem?_eq_some_iff.mp hv).1
  exact kt.pre fun t q => X.baloadBytes hx (j := j) (v := v) A.1 (State.isArrayOf_alike hZ.alike A.2.1) A.2.2 q1 (by rw [q2, ← hv, ← ev]; simp) (g := mkF m pc Ls (.int j :: .ref a :: st)) rfl rfl (hb hby hd) t q
theorem g_zaload (w : Wd p l e R s m args below meth c Z a0 n0 kb ws y bytes ml ret T L cells slots) {pc : Nat} {Ls : Array Slot} {st : List Value} {a : Addr} {vs : List Value} {j : Int32} {v : Value} (hd : decode bytes pc = .ok (.baload, 1)) (i : Nat) (hi : L[i]? = some (a, .inr (.boolean, vs))) (jn : Nat) (hj : j.toInt = (jn : Int)) (hv : vs[jn]? = some v) (pc' : Nat) (hp : pc + 1 = pc')
    (kt : Go p e below Z n0 kg E P T (mkF m pc' Ls (v :: st))) : Go p e below Z n0 kg E P T (mkF m pc Ls (.int j :: .ref a :: st)) := by
  subst hp
  obtain ⟨⟨locs, X, N⟩, H, hx, hZ, hown, hby, hml, hret, hlk, hnm, hws⟩ := w
  obtain ⟨cl, A, -, ev, hl⟩ := H.arr hi
  obtain ⟨q1, q2⟩ := inb hj ev (List.getElem?_eq_some_iff.mp hv).1
  exact kt.pre fun t q => X.baloadBooleans hx (j := j) (v := v) A.1 (State.isArrayOf_alike hZ.alike A.2.1) A.2.2 q1 (by rw [q2, ← hv, ← ev]; simp) (g := mkF m pc Ls (.int j :: .ref a :: st)) rfl rfl (hb hby hd) t q
theorem g_iastore (w : Wd p l e R s m args below meth c Z a0 n0 kb ws y bytes ml ret T L cells slots) {pc : Nat} {Ls : Array Slot} {st : List Value} {a : Addr} {vs : List Value} {j : Int32} {x : Int32} (hd : decode bytes pc = .ok (.iastore, 1)) (i : Nat) (hi : L[i]? = some (a, .inr (.int, vs))) (jn : Nat) (hj : j.toInt = (jn : Int)) (hl : jn < vs.length) (v : Value) (hv : (.int x) = v) (pc' : Nat) (hp : pc + 1 = pc')
    (kt : ∀ T', Wd p l e R s m args below meth c Z a0 n0 kb ws y bytes ml ret T' (L.set i (a, .inr (.int, vs.set jn v))) cells slots → Go p e below Z n0 kg E P T' (mkF m pc' Ls st)) : Go p e below Z n0 kg E P T (mkF m pc Ls (.int x :: .int j :: .ref a :: st)) := by
  subst hp hv
  obtain ⟨⟨locs, X, N⟩, H, hx, hZ, hown, hby, hml, hret, hlk, hnm, hws⟩ := w
  obtain ⟨cl, A, XA, ev, hL⟩ := H.arr hi
  obtain ⟨q1, q2⟩ := inb hj ev hl
  obtain ⟨T', h', X', e', W, st'⟩ := stI X hx hZ rfl A (j := j) (x := x) q1 (g := mkF m pc Ls (.int x :: .int j :: .ref a :: st)) rfl rfl (hb hby hd)
  rw [q2] at W
  refine (kt T' ⟨⟨_, X', Fr.snoc X' N (H.ge hi)⟩, ?_, hx, hZ, hown, hby, hml, hret, hlk, hnm, hws⟩).pre st'
  rw [e']
  exact H.put hi W (Is.elem A XA ev hL W)
theorem g_lastore (w : Wd p l e R s m args below meth c Z a0 n0 kb ws y bytes ml ret T L cells slots) {pc : Nat} {Ls : Array Slot} {st : List Value} {a : Addr} {vs : List Value} {j : Int32} {x : Int64} (hd : decode bytes pc = .ok (.lastore, 1)) (i : Nat) (hi : L[i]? = some (a, .inr (.long, vs))) (jn : Nat) (hj : j.toInt = (jn : Int)) (hl : jn < vs.length) (v : Value) (hv : (.long x) = v) (pc' : Nat) (hp : pc + 1 = pc')
    (kt : ∀ T', Wd p l e R s m args below meth c Z a0 n0 kb ws y bytes ml ret T' (L.set i (a, .inr (.long, vs.set jn v))) cells slots → Go p e below Z n0 kg E P T' (mkF m pc' Ls st)) : Go p e below Z n0 kg E P T (mkF m pc Ls (.long x :: .int j :: .ref a :: st)) := by
  subst hp hv
  obtain ⟨⟨locs, X, N⟩, H, hx, hZ, hown, hby, hml, hret, hlk, hnm, hws⟩ := w
  obtain ⟨cl, A, XA, ev, hL⟩ := H.arr hi
  obtain ⟨q1, q2⟩ := inb hj ev hl
  obtain ⟨T', h', X', e', W, st'⟩ := stJ X hx hZ rfl A (j := j) (x := x) q1 (g := mkF m pc Ls (.long x :: .int j :: .ref a :: st)) rfl rfl (hb hby hd)
  rw [q2] at W
  refine (kt T' ⟨⟨_, X', Fr.snoc X' N (H.ge hi)⟩, ?_, hx, hZ, hown, hby, hml, hret, hlk, hnm, hws⟩).pre st'
  rw [e']
  exact H.put hi W (Is.elem A XA ev hL W)
theorem g_castore (w : Wd p l e R s m args below meth c Z a0 n0 kb ws y bytes ml ret T L cells slots) {pc : Nat} {Ls : Array Slot} {st : List Value} {a : Addr} {vs : List Value} {j : Int32} {x : Int32} (hd : decode bytes pc = .ok (.castore, 1)) (i : Nat) (hi : L[i]? = some (a, .inr (.char, vs))) (jn : Nat) (hj : j.toInt = (jn : Int)) (hl : jn < vs.length) (v : Value) (hv : (.int (nar .char x)) = v) (pc' : Nat) (hp : pc + 1 = pc')
    (kt : ∀ T', Wd p l e R s m args below meth c Z a0 n0 kb ws y bytes ml ret T' (L.set i (a, .inr (.char, vs.set jn v))) cells slots → Go p e below Z n0 kg E P T' (mkF m pc' Ls st)) : Go p e below Z n0 kg E P T (mkF m pc Ls (.int x :: .int j :: .ref a :: st)) := by
  subst hp hv
  obtain ⟨⟨locs, X, N⟩, H, hx, hZ, hown, hby, hml, hret, hlk, hnm, hws⟩ := w
  obtain ⟨cl, A, XA, ev, hL⟩ := H.arr hi
  obtain ⟨q1, q2⟩ := inb hj ev hl
  obtain ⟨T', h', X', e', W, st'⟩ := stC X hx hZ rfl A (j := j) (x := x) q1 (g := mkF m pc Ls (.int x :: .int j :: .ref a :: st)) rfl rfl (hb hby hd)
  rw [q2] at W
  refine (kt T' ⟨⟨_, X', Fr.snoc X' N (H.ge hi)⟩, ?_, hx, hZ, hown, hby, hml, hret, hlk, hnm, hws⟩).pre st'
  rw [e']
  exact H.put hi W (Is.elem A XA ev hL W)
theorem g_bastore (w : Wd p l e R s m args below meth c Z a0 n0 kb ws y bytes ml ret T L cells slots) {pc : Nat} {Ls : Array Slot} {st : List Value} {a : Addr} {vs : List Value} {j : Int32} {x : Int32} (hd : decode bytes pc = .ok (.bastore, 1)) (i : Nat) (hi : L[i]? = some (a, .inr (.byte, vs))) (jn : Nat) (hj : j.toInt = (jn : Int)) (hl : jn < vs.length) (v : Value) (hv : (.int (nar .byte x)) = v) (pc' : Nat) (hp : pc + 1 = pc')
    (kt : ∀ T', Wd p l e R s m args below meth c Z a0 n0 kb ws y bytes ml ret T' (L.set i (a, .inr (.byte, vs.set jn v))) cells slots → Go p e below Z n0 kg E P T' (mkF m pc' Ls st)) : Go p e below Z n0 kg E P T (mkF m pc Ls (.int x :: .int j :: .ref a :: st)) := by
  subst hp hv
  obtain ⟨⟨locs, X, N⟩, H, hx, hZ, hown, hby, hml, hret, hlk, hnm, hws⟩ := w
  obtain ⟨cl, A, XA, ev, hL⟩ := H.arr hi
  obtain ⟨q1, q2⟩ := inb hj ev hl
  obtain ⟨T', h', X', e', W, st'⟩ := stB X hx hZ rfl A (j := j) (x := x) q1 (g := mkF m pc Ls (.int x :: .int j :: .ref a :: st)) rfl rfl (hb hby hd)
  rw [q2] at W
  refine (kt T' ⟨⟨_, X', Fr.snoc X' N (H.ge hi)⟩, ?_, hx, hZ, hown, hby, hml, hret, hlk, hnm, hws⟩).pre st'
  rw [e']
  exact H.put hi W (Is.elem A XA ev hL W)
theorem g_zastore (w : Wd p l e R s m args below meth c Z a0 n0 kb ws y bytes ml ret T L cells slots) {pc : Nat} {Ls : Array Slot} {st : List Value} {a : Addr} {vs : List Value} {j : Int32} {x : Int32} (hd : decode bytes pc = .ok (.bastore, 1)) (i : Nat) (hi : L[i]? = some (a, .inr (.boolean, vs))) (jn : Nat) (hj : j.toInt = (jn : Int)) (hl : jn < vs.length) (v : Value) (hv : (.int (nar .boolean x)) = v) (pc' : Nat) (hp : pc + 1 = pc')
    (kt : ∀ T', Wd p l e R s m args below meth c Z a0 n0 kb ws y bytes ml ret T' (L.set i (a, .inr (.boolean, vs.set jn v))) cells slots → Go p e below Z n0 kg E P T' (mkF m pc' Ls st)) : Go p e below Z n0 kg E P T (mkF m pc Ls (.int x :: .int j :: .ref a :: st)) := by
  subst hp hv
  obtain ⟨⟨locs, X, N⟩, H, hx, hZ, hown, hby, hml, hret, hlk, hnm, hws⟩ := w
  obtain ⟨cl, A, XA, ev, hL⟩ := H.arr hi
  obtain ⟨q1, q2⟩ := inb hj ev hl
  obtain ⟨T', h', X', e', W, st'⟩ := stZ X hx hZ rfl A (j := j) (x := x) q1 (g := mkF m pc Ls (.int x :: .int j :: .ref a :: st)) rfl rfl (hb hby hd)
  rw [q2] at W
  refine (kt T' ⟨⟨_, X', Fr.snoc X' N (H.ge hi)⟩, ?_, hx, hZ, hown, hby, hml, hret, hlk, hnm, hws⟩).pre st'
  rw [e']
  exact H.put hi W (Is.elem A XA ev hL W)
theorem g_iadd (w : Wd p l e R s m args below meth c Z a0 n0 kb ws y bytes ml ret T L cells slots) {pc : Nat} {Ls : Array Slot} {x y : Int32} {st : List Value} (hd : decode bytes pc = .ok (.iadd, 1)) (pc' : Nat) (hp : pc + 1 = pc')
    (k : Go p e below Z n0 kg E P T (mkF m pc' Ls (.int (x + y) :: st))) : Go p e below Z n0 kg E P T (mkF m pc Ls (.int y :: .int x :: st)) := by
  subst hp
  exact k.pre fun t q => XS.iadd w.here w.hx rfl (hb w.hby hd) rfl q
theorem g_isub (w : Wd p l e R s m args below meth c Z a0 n0 kb ws y bytes ml ret T L cells slots) {pc : Nat} {Ls : Array Slot} {x y : Int32} {st : List Value} (hd : decode bytes pc = .ok (.isub, 1)) (pc' : Nat) (hp : pc + 1 = pc')
    (k : Go p e below Z n0 kg E P T (mkF m pc' Ls (.int (x - y) :: st))) : Go p e below Z n0 kg E P T (mkF m pc Ls (.int y :: .int x :: st)) := by
  subst hp
  exact k.pre fun t q => XS.isub w.here w.hx rfl (hb w.hby hd) rfl q
theorem g_imul (w : Wd p l e R s m args below meth c Z a0 n0 kb ws y bytes ml ret T L cells slots) {pc : Nat} {Ls : Array Slot} {x y : Int32} {st : List Value} (hd : decode bytes pc = .ok (.imul, 1)) (pc' : Nat) (hp : pc + 1 = pc')
    (k : Go p e below Z n0 kg E P T (mkF m pc' Ls (.int (x * y) :: st))) : Go p e below Z n0 kg E P T (mkF m pc Ls (.int y :: .int x :: st)) := by
  subst hp
  exact k.pre fun t q => XS.imul w.here w.hx rfl (hb w.hby hd) rfl q
theorem g_iand (w : Wd p l e R s m args below meth c Z a0 n0 kb ws y bytes ml ret T L cells slots) {pc : Nat} {Ls : Array Slot} {x y : Int32} {st : List Value} (hd : decode bytes pc = .ok (.iand, 1)) (pc' : Nat) (hp : pc + 1 = pc')
    (k : Go p e below Z n0 kg E P T (mkF m pc' Ls (.int (x &&& y) :: st))) : Go p e below Z n0 kg E P T (mkF m pc Ls (.int y :: .int x :: st)) := by
  subst hp
  exact k.pre fun t q => XS.iand w.here w.hx rfl (hb w.hby hd) rfl q
theorem g_ior (w : Wd p l e R s m args below meth c Z a0 n0 kb ws y bytes ml ret T L cells slots) {pc : Nat} {Ls : Array Slot} {x y : Int32} {st : List Value} (hd : decode bytes pc = .ok (.ior, 1)) (pc' : Nat) (hp : pc + 1 = pc')
    (k : Go p e below Z n0 kg E P T (mkF m pc' Ls (.int (x ||| y) :: st))) : Go p e below Z n0 kg E P T (mkF m pc Ls (.int y :: .int x :: st)) := by
  subst hp
  exact k.pre fun t q => XT.ior w.here w.hx rfl (hb w.hby hd) rfl q
theorem g_ixor (w : Wd p l e R s m args below meth c Z a0 n0 kb ws y bytes ml ret T L cells slots) {pc : Nat} {Ls : Array Slot} {x y : Int32} {st : List Value} (hd : decode bytes pc = .ok (.ixor, 1)) (pc' : Nat) (hp : pc + 1 = pc')
    (k : Go p e below Z n0 kg E P T (mkF m pc' Ls (.int (x ^^^ y) :: st))) : Go p e below Z n0 kg E P T (mkF m pc Ls (.int y :: .int x :: st)) := by
  subst hp
  exact k.pre fun t q => XT.ixor w.here w.hx rfl (hb w.hby hd) rfl q
theorem g_ishl (w : Wd p l e R s m args below meth c Z a0 n0 kb ws y bytes ml ret T L cells slots) {pc : Nat} {Ls : Array Slot} {x y : Int32} {st : List Value} (hd : decode bytes pc = .ok (.ishl, 1)) (pc' : Nat) (hp : pc + 1 = pc')
    (k : Go p e below Z n0 kg E P T (mkF m pc' Ls (.int (x <<< (y &&& 31)) :: st))) : Go p e below Z n0 kg E P T (mkF m pc Ls (.int y :: .int x :: st)) := by
  subst hp
  exact k.pre fun t q => XS.ishl w.here w.hx rfl (hb w.hby hd) rfl q
theorem g_ishr (w : Wd p l e R s m args below meth c Z a0 n0 kb ws y bytes ml ret T L cells slots) {pc : Nat} {Ls : Array Slot} {x y : Int32} {st : List Value} (hd : decode bytes pc = .ok (.ishr, 1)) (pc' : Nat) (hp : pc + 1 = pc')
    (k : Go p e below Z n0 kg E P T (mkF m pc' Ls (.int (x >>> (y &&& 31)) :: st))) : Go p e below Z n0 kg E P T (mkF m pc Ls (.int y :: .int x :: st)) := by
  subst hp
  exact k.pre fun t q => XS.ishr w.here w.hx rfl (hb w.hby hd) rfl q
theorem g_iushr (w : Wd p l e R s m args below meth c Z a0 n0 kb ws y bytes ml ret T L cells slots) {pc : Nat} {Ls : Array Slot} {x y : Int32} {st : List Value} (hd : decode bytes pc = .ok (.iushr, 1)) (pc' : Nat) (hp : pc + 1 = pc')
    (k : Go p e below Z n0 kg E P T (mkF m pc' Ls (.int (ushrI x y) :: st))) : Go p e below Z n0 kg E P T (mkF m pc Ls (.int y :: .int x :: st)) := by
  subst hp
  exact k.pre fun t q => XS.iushr w.here w.hx rfl (hb w.hby hd) rfl q
theorem g_ladd (w : Wd p l e R s m args below meth c Z a0 n0 kb ws y bytes ml ret T L cells slots) {pc : Nat} {Ls : Array Slot} {x y : Int64} {st : List Value} (hd : decode bytes pc = .ok (.ladd, 1)) (pc' : Nat) (hp : pc + 1 = pc')
    (k : Go p e below Z n0 kg E P T (mkF m pc' Ls (.long (x + y) :: st))) : Go p e below Z n0 kg E P T (mkF m pc Ls (.long y :: .long x :: st)) := by
  subst hp
  exact k.pre fun t q => XT.ladd w.here w.hx rfl (hb w.hby hd) rfl q
theorem g_lsub (w : Wd p l e R s m args below meth c Z a0 n0 kb ws y bytes ml ret T L cells slots) {pc : Nat} {Ls : Array Slot} {x y : Int64} {st : List Value} (hd : decode bytes pc = .ok (.lsub, 1)) (pc' : Nat) (hp : pc + 1 = pc')
    (k : Go p e below Z n0 kg E P T (mkF m pc' Ls (.long (x - y) :: st))) : Go p e below Z n0 kg E P T (mkF m pc Ls (.long y :: .long x :: st)) := by
  subst hp
  exact k.pre fun t q => XT.lsub w.here w.hx rfl (hb w.hby hd) rfl q
theorem g_lmul (w : Wd p l e R s m args below meth c Z a0 n0 kb ws y bytes ml ret T L cells slots) {pc : Nat} {Ls : Array Slot} {x y : Int64} {st : List Value} (hd : decode bytes pc = .ok (.lmul, 1)) (pc' : Nat) (hp : pc + 1 = pc')
    (k : Go p e below Z n0 kg E P T (mkF m pc' Ls (.long (x * y) :: st))) : Go p e below Z n0 kg E P T (mkF m pc Ls (.long y :: .long x :: st)) := by
  subst hp
  exact k.pre fun t q => XT.lmul w.here w.hx rfl (hb w.hby hd) rfl q
theorem g_land (w : Wd p l e R s m args below meth c Z a0 n0 kb ws y bytes ml ret T L cells slots) {pc : Nat} {Ls : Array Slot} {x y : Int64} {st : List Value} (hd : decode bytes pc = .ok (.land, 1)) (pc' : Nat) (hp : pc + 1 = pc')
    (k : Go p e below Z n0 kg E P T (mkF m pc' Ls (.long (x &&& y) :: st))) : Go p e below Z n0 kg E P T (mkF m pc Ls (.long y :: .long x :: st)) := by
  subst hp
  exact k.pre fun t q => XT.land w.here w.hx rfl (hb w.hby hd) rfl q
theorem g_lor (w : Wd p l e R s m args below meth c Z a0 n0 kb ws y bytes ml ret T L cells slots) {pc : Nat} {Ls : Array Slot} {x y : Int64} {st : List Value} (hd : decode bytes pc = .ok (.lor, 1)) (pc' : Nat) (hp : pc + 1 = pc')
    (k : Go p e below Z n0 kg E P T (mkF m pc' Ls (.long (x ||| y) :: st))) : Go p e below Z n0 kg E P T (mkF m pc Ls (.long y :: .long x :: st)) := by
  subst hp
  exact k.pre fun t q => XT.lor w.here w.hx rfl (hb w.hby hd) rfl q
theorem g_lxor (w : Wd p l e R s m args below meth c Z a0 n0 kb ws y bytes ml ret T L cells slots) {pc : Nat} {Ls : Array Slot} {x y : Int64} {st : List Value} (hd : decode bytes pc = .ok (.lxor, 1)) (pc' : Nat) (hp : pc + 1 = pc')
    (k : Go p e below Z n0 kg E P T (mkF m pc' Ls (.long (x ^^^ y) :: st))) : Go p e below Z n0 kg E P T (mkF m pc Ls (.long y :: .long x :: st)) := by
  subst hp
  exact k.pre fun t q => XT.lxor w.here w.hx rfl (hb w.hby hd) rfl q
theorem g_lshl (w : Wd p l e R s m args below meth c Z a0 n0 kb ws y bytes ml ret T L cells slots) {pc : Nat} {Ls : Array Slot} {x : Int64} {y : Int32} {st : List Value} (hd : decode bytes pc = .ok (.lshl, 1)) (pc' : Nat) (hp : pc + 1 = pc')
    (k : Go p e below Z n0 kg E P T (mkF m pc' Ls (.long (shlL x y) :: st))) : Go p e below Z n0 kg E P T (mkF m pc Ls (.int y :: .long x :: st)) := by
  subst hp
  exact k.pre fun t q => XS.lshl w.here w.hx rfl (hb w.hby hd) rfl q
theorem g_lshr (w : Wd p l e R s m args below meth c Z a0 n0 kb ws y bytes ml ret T L cells slots) {pc : Nat} {Ls : Array Slot} {x : Int64} {y : Int32} {st : List Value} (hd : decode bytes pc = .ok (.lshr, 1)) (pc' : Nat) (hp : pc + 1 = pc')
    (k : Go p e below Z n0 kg E P T (mkF m pc' Ls (.long (shrL x y) :: st))) : Go p e below Z n0 kg E P T (mkF m pc Ls (.int y :: .long x :: st)) := by
  subst hp
  exact k.pre fun t q => XS.lshr w.here w.hx rfl (hb w.hby hd) rfl q
theorem g_lushr (w : Wd p l e R s m args below meth c Z a0 n0 kb ws y bytes ml ret T L cells slots) {pc : Nat} {Ls : Array Slot} {x : Int64} {y : Int32} {st : List Value} (hd : decode bytes pc = .ok (.lushr, 1)) (pc' : Nat) (hp : pc + 1 = pc')
    (k : Go p e below Z n0 kg E P T (mkF m pc' Ls (.long (ushrL x y) :: st))) : Go p e below Z n0 kg E P T (mkF m pc Ls (.int y :: .long x :: st)) := by
  subst hp
  exact k.pre fun t q => XS.lushr w.here w.hx rfl (hb w.hby hd) rfl q
theorem g_lcmp (w : Wd p l e R s m args below meth c Z a0 n0 kb ws y bytes ml ret T L cells slots) {pc : Nat} {Ls : Array Slot} {x y : Int64} {st : List Value} (hd : decode bytes pc = .ok (.lcmp, 1)) (pc' : Nat) (hp : pc + 1 = pc')
    (k : Go p e below Z n0 kg E P T (mkF m pc' Ls (.int (XT.cmpL x y) :: st))) : Go p e below Z n0 kg E P T (mkF m pc Ls (.long y :: .long x :: st)) := by
  subst hp
  exact k.pre fun t q => XT.lcmp w.here w.hx rfl (hb w.hby hd) rfl q
theorem g_idiv (w : Wd p l e R s m args below meth c Z a0 n0 kb ws y bytes ml ret T L cells slots) {pc : Nat} {Ls : Array Slot} {x y : Int32} {st : List Value} (hd : decode bytes pc = .ok (.idiv, 1)) (hy : y ≠ 0) (pc' : Nat) (hp : pc + 1 = pc')
    (k : Go p e below Z n0 kg E P T (mkF m pc' Ls (.int (x / y) :: st))) : Go p e below Z n0 kg E P T (mkF m pc Ls (.int y :: .int x :: st)) := by
  subst hp
  exact k.pre fun t q => XS.idiv w.here w.hx rfl (hb w.hby hd) rfl hy q
theorem g_ldiv (w : Wd p l e R s m args below meth c Z a0 n0 kb ws y bytes ml ret T L cells slots) {pc : Nat} {Ls : Array Slot} {x y : Int64} {st : List Value} (hd : decode bytes pc = .ok (.ldiv, 1)) (hy : y ≠ 0) (pc' : Nat) (hp : pc + 1 = pc')
    (k : Go p e below Z n0 kg E P T (mkF m pc' Ls (.long (x / y) :: st))) : Go p e below Z n0 kg E P T (mkF m pc Ls (.long y :: .long x :: st)) := by
  subst hp
  exact k.pre fun t q => XT.ldiv w.here w.hx rfl (hb w.hby hd) rfl hy q
theorem g_irem (w : Wd p l e R s m args below meth c Z a0 n0 kb ws y bytes ml ret T L cells slots) {pc : Nat} {Ls : Array Slot} {x y : Int32} {st : List Value} (hd : decode bytes pc = .ok (.irem, 1)) (hy : y ≠ 0) (pc' : Nat) (hp : pc + 1 = pc')
    (k : Go p e below Z n0 kg E P T (mkF m pc' Ls (.int (x % y) :: st))) : Go p e below Z n0 kg E P T (mkF m pc Ls (.int y :: .int x :: st)) := by
  subst hp
  exact k.pre fun t q => XS.irem w.here w.hx rfl (hb w.hby hd) rfl hy (by rw [irem_eq_mod]; exact q)
theorem g_lrem (w : Wd p l e R s m args below meth c Z a0 n0 kb ws y bytes ml ret T L cells slots) {pc : Nat} {Ls : Array Slot} {x y : Int64} {st : List Value} (hd : decode bytes pc = .ok (.lrem, 1)) (hy : y ≠ 0) (pc' : Nat) (hp : pc + 1 = pc')
    (k : Go p e below Z n0 kg E P T (mkF m pc' Ls (.long (x % y) :: st))) : Go p e below Z n0 kg E P T (mkF m pc Ls (.long y :: .long x :: st)) := by
  subst hp
  exact k.pre fun t q => XT.lrem w.here w.hx rfl (hb w.hby hd) rfl hy (by rw [lrem_mod]; exact q)
theorem g_ineg (w : Wd p l e R s m args below meth c Z a0 n0 kb ws y bytes ml ret T L cells slots) {pc : Nat} {Ls : Array Slot} {x : Int32} {st : List Value} (hd : decode bytes pc = .ok (.ineg, 1)) (pc' : Nat) (hp : pc + 1 = pc')
    (k : Go p e below Z n0 kg E P T (mkF m pc' Ls (.int (-x) :: st))) : Go p e below Z n0 kg E P T (mkF m pc Ls (.int x :: st)) := by
  subst hp
  exact k.pre fun t q => XS.ineg w.here w.hx rfl (hb w.hby hd) rfl q
theorem g_lneg (w : Wd p l e R s m args below meth c Z a0 n0 kb ws y bytes ml ret T L cells slots) {pc : Nat} {Ls : Array Slot} {x : Int64} {st : List Value} (hd : decode bytes pc = .ok (.lneg, 1)) (pc' : Nat) (hp : pc + 1 = pc')
    (k : Go p e below Z n0 kg E P T (mkF m pc' Ls (.long (-x) :: st))) : Go p e below Z n0 kg E P T (mkF m pc Ls (.long x :: st)) := by
  subst hp
  exact k.pre fun t q => XT.lneg w.here w.hx rfl (hb w.hby hd) rfl q
theorem g_i2l (w : Wd p l e R s m args below meth c Z a0 n0 kb ws y bytes ml ret T L cells slots) {pc : Nat} {Ls : Array Slot} {x : Int32} {st : List Value} (hd : decode bytes pc = .ok (.i2l, 1)) (pc' : Nat) (hp : pc + 1 = pc')
    (k : Go p e below Z n0 kg E P T (mkF m pc' Ls (.long (x.toInt64) :: st))) : Go p e below Z n0 kg E P T (mkF m pc Ls (.int x :: st)) := by
  subst hp
  exact k.pre fun t q => XT.i2l w.here w.hx rfl (hb w.hby hd) rfl q
theorem g_l2i (w : Wd p l e R s m args below meth c Z a0 n0 kb ws y bytes ml ret T L cells slots) {pc : Nat} {Ls : Array Slot} {x : Int64} {st : List Value} (hd : decode bytes pc = .ok (.l2i, 1)) (pc' : Nat) (hp : pc + 1 = pc')
    (k : Go p e below Z n0 kg E P T (mkF m pc' Ls (.int (x.toInt32) :: st))) : Go p e below Z n0 kg E P T (mkF m pc Ls (.long x :: st)) := by
  subst hp
  exact k.pre fun t q => XT.l2i w.here w.hx rfl (hb w.hby hd) rfl q
theorem g_i2b (w : Wd p l e R s m args below meth c Z a0 n0 kb ws y bytes ml ret T L cells slots) {pc : Nat} {Ls : Array Slot} {x : Int32} {st : List Value} (hd : decode bytes pc = .ok (.i2b, 1)) (pc' : Nat) (hp : pc + 1 = pc')
    (k : Go p e below Z n0 kg E P T (mkF m pc' Ls (.int (x.toInt8.toInt32) :: st))) : Go p e below Z n0 kg E P T (mkF m pc Ls (.int x :: st)) := by
  subst hp
  exact k.pre fun t q => XT.i2b w.here w.hx rfl (hb w.hby hd) rfl q
theorem g_i2c (w : Wd p l e R s m args below meth c Z a0 n0 kb ws y bytes ml ret T L cells slots) {pc : Nat} {Ls : Array Slot} {x : Int32} {st : List Value} (hd : decode bytes pc = .ok (.i2c, 1)) (pc' : Nat) (hp : pc + 1 = pc')
    (k : Go p e below Z n0 kg E P T (mkF m pc' Ls (.int (x.toUInt32.toUInt16.toUInt32.toInt32) :: st))) : Go p e below Z n0 kg E P T (mkF m pc Ls (.int x :: st)) := by
  subst hp
  exact k.pre fun t q => XT.i2c w.here w.hx rfl (hb w.hby hd) rfl q
theorem g_i2s (w : Wd p l e R s m args below meth c Z a0 n0 kb ws y bytes ml ret T L cells slots) {pc : Nat} {Ls : Array Slot} {x : Int32} {st : List Value} (hd : decode bytes pc = .ok (.i2s, 1)) (pc' : Nat) (hp : pc + 1 = pc')
    (k : Go p e below Z n0 kg E P T (mkF m pc' Ls (.int (x.toInt16.toInt32) :: st))) : Go p e below Z n0 kg E P T (mkF m pc Ls (.int x :: st)) := by
  subst hp
  exact k.pre fun t q => XT.i2s w.here w.hx rfl (hb w.hby hd) rfl q
theorem g_iload (w : Wd p l e R s m args below meth c Z a0 n0 kb ws y bytes ml ret T L cells slots) {pc : Nat} {Ls : Array Slot} {i : Nat} {v : Int32} {st : List Value} (hd : decode bytes pc = .ok (.iload i, 2)) (hl : Ls[i]? = some (.val (.int v))) (pc' : Nat) (hp : pc + 2 = pc')
    (k : Go p e below Z n0 kg E P T (mkF m pc' Ls (.int v :: st))) : Go p e below Z n0 kg E P T (mkF m pc Ls (st)) := by
  subst hp
  exact k.pre fun t q => XS.iload w.here w.hx rfl (hb w.hby hd) hl q
theorem g_iloadN (w : Wd p l e R s m args below meth c Z a0 n0 kb ws y bytes ml ret T L cells slots) {pc : Nat} {Ls : Array Slot} {i : Fin 4} {v : Int32} {st : List Value} (hd : decode bytes pc = .ok (.iload_n i, 1)) (hl : Ls[i.val]? = some (.val (.int v))) (pc' : Nat) (hp : pc + 1 = pc')
    (k : Go p e below Z n0 kg E P T (mkF m pc' Ls (.int v :: st))) : Go p e below Z n0 kg E P T (mkF m pc Ls (st)) := by
  subst hp
  exact k.pre fun t q => XS.iloadN w.here w.hx rfl (hb w.hby hd) hl q
theorem g_lload (w : Wd p l e R s m args below meth c Z a0 n0 kb ws y bytes ml ret T L cells slots) {pc : Nat} {Ls : Array Slot} {i : Nat} {v : Int64} {st : List Value} (hd : decode bytes pc = .ok (.lload i, 2)) (hl : Ls[i]? = some (.val (.long v))) (pc' : Nat) (hp : pc + 2 = pc')
    (k : Go p e below Z n0 kg E P T (mkF m pc' Ls (.long v :: st))) : Go p e below Z n0 kg E P T (mkF m pc Ls (st)) := by
  subst hp
  exact k.pre fun t q => XT.lload w.here w.hx rfl (hb w.hby hd) hl q
theorem g_lloadN (w : Wd p l e R s m args below meth c Z a0 n0 kb ws y bytes ml ret T L cells slots) {pc : Nat} {Ls : Array Slot} {i : Fin 4} {v : Int64} {st : List Value} (hd : decode bytes pc = .ok (.lload_n i, 1)) (hl : Ls[i.val]? = some (.val (.long v))) (pc' : Nat) (hp : pc + 1 = pc')
    (k : Go p e below Z n0 kg E P T (mkF m pc' Ls (.long v :: st))) : Go p e below Z n0 kg E P T (mkF m pc Ls (st)) := by
  subst hp
  exact k.pre fun t q => XT.lloadN w.here w.hx rfl (hb w.hby hd) hl q
theorem g_aload (w : Wd p l e R s m args below meth c Z a0 n0 kb ws y bytes ml ret T L cells slots) {pc : Nat} {Ls : Array Slot} {i : Nat} {v : Value} {st : List Value} (hd : decode bytes pc = .ok (.aload i, 2)) (hl : Ls[i]? = some (.val v)) (hv : v.isRef = true) (pc' : Nat) (hp : pc + 2 = pc')
    (k : Go p e below Z n0 kg E P T (mkF m pc' Ls (v :: st))) : Go p e below Z n0 kg E P T (mkF m pc Ls (st)) := by
  subst hp
  exact k.pre fun t q => XS.aload w.here w.hx rfl (hb w.hby hd) hl hv q
theorem g_aloadN (w : Wd p l e R s m args below meth c Z a0 n0 kb ws y bytes ml ret T L cells slots) {pc : Nat} {Ls : Array Slot} {i : Fin 4} {v : Value} {st : List Value} (hd : decode bytes pc = .ok (.aload_n i, 1)) (hl : Ls[i.val]? = some (.val v)) (hv : v.isRef = true) (pc' : Nat) (hp : pc + 1 = pc')
    (k : Go p e below Z n0 kg E P T (mkF m pc' Ls (v :: st))) : Go p e below Z n0 kg E P T (mkF m pc Ls (st)) := by
  subst hp
  exact k.pre fun t q => XS.aloadN w.here w.hx rfl (hb w.hby hd) hl hv q
theorem g_iconst (w : Wd p l e R s m args below meth c Z a0 n0 kb ws y bytes ml ret T L cells slots) {pc : Nat} {Ls : Array Slot} {i : Int} {st : List Value} (hd : decode bytes pc = .ok (.iconst i, 1)) (z : Int32) (hz : Int32.ofInt i = z) (pc' : Nat) (hp : pc + 1 = pc')
    (k : Go p e below Z n0 kg E P T (mkF m pc' Ls (.int z :: st))) : Go p e below Z n0 kg E P T (mkF m pc Ls (st)) := by
  subst hp
  exact k.pre fun t q => XS.iconst w.here w.hx rfl (hb w.hby hd) (by rw [hz]; exact q)
theorem g_bipush (w : Wd p l e R s m args below meth c Z a0 n0 kb ws y bytes ml ret T L cells slots) {pc : Nat} {Ls : Array Slot} {i : Int} {st : List Value} (hd : decode bytes pc = .ok (.bipush i, 2)) (z : Int32) (hz : (Int8.ofInt i).toInt32 = z) (pc' : Nat) (hp : pc + 2 = pc')
    (k : Go p e below Z n0 kg E P T (mkF m pc' Ls (.int z :: st))) : Go p e below Z n0 kg E P T (mkF m pc Ls (st)) := by
  subst hp
  exact k.pre fun t q => XS.bipush w.here w.hx rfl (hb w.hby hd) (by rw [hz]; exact q)
theorem g_sipush (w : Wd p l e R s m args below meth c Z a0 n0 kb ws y bytes ml ret T L cells slots) {pc : Nat} {Ls : Array Slot} {i : Int} {st : List Value} (hd : decode bytes pc = .ok (.sipush i, 3)) (z : Int32) (hz : (Int16.ofInt i).toInt32 = z) (pc' : Nat) (hp : pc + 3 = pc')
    (k : Go p e below Z n0 kg E P T (mkF m pc' Ls (.int z :: st))) : Go p e below Z n0 kg E P T (mkF m pc Ls (st)) := by
  subst hp
  exact k.pre fun t q => XS.sipush w.here w.hx rfl (hb w.hby hd) (by rw [hz]; exact q)
theorem g_lconst (w : Wd p l e R s m args below meth c Z a0 n0 kb ws y bytes ml ret T L cells slots) {pc : Nat} {Ls : Array Slot} {i : Fin 2} {st : List Value} (hd : decode bytes pc = .ok (.lconst i, 1)) (z : Int64) (hz : Int64.ofNat i = z) (pc' : Nat) (hp : pc + 1 = pc')
    (k : Go p e below Z n0 kg E P T (mkF m pc' Ls (.long z :: st))) : Go p e below Z n0 kg E P T (mkF m pc Ls (st)) := by
  subst hp
  exact k.pre fun t q => XT.lconst w.here w.hx rfl (hb w.hby hd) (by rw [hz]; exact q)
theorem g_anull (w : Wd p l e R s m args below meth c Z a0 n0 kb ws y bytes ml ret T L cells slots) {pc : Nat} {Ls : Array Slot} {st : List Value} (hd : decode bytes pc = .ok (.aconst_null, 1)) (pc' : Nat) (hp : pc + 1 = pc')
    (k : Go p e below Z n0 kg E P T (mkF m pc' Ls (.null :: st))) : Go p e below Z n0 kg E P T (mkF m pc Ls (st)) := by
  subst hp
  exact k.pre fun t q => XS.aconstNull w.here w.hx rfl (hb w.hby hd) q
theorem g_dup (w : Wd p l e R s m args below meth c Z a0 n0 kb ws y bytes ml ret T L cells slots) {pc : Nat} {Ls : Array Slot} {x : Value} {st : List Value} (hd : decode bytes pc = .ok (.dup, 1)) (hc : x.category = 1) (pc' : Nat) (hp : pc + 1 = pc')
    (k : Go p e below Z n0 kg E P T (mkF m pc' Ls (x :: x :: st))) : Go p e below Z n0 kg E P T (mkF m pc Ls (x :: st)) := by
  subst hp
  exact k.pre fun t q => XS.dup w.here w.hx rfl (hb w.hby hd) rfl hc q
theorem g_pop (w : Wd p l e R s m args below meth c Z a0 n0 kb ws y bytes ml ret T L cells slots) {pc : Nat} {Ls : Array Slot} {x : Value} {st : List Value} (hd : decode bytes pc = .ok (.pop, 1)) (hc : x.category = 1) (pc' : Nat) (hp : pc + 1 = pc')
    (k : Go p e below Z n0 kg E P T (mkF m pc' Ls (st))) : Go p e below Z n0 kg E P T (mkF m pc Ls (x :: st)) := by
  subst hp
  exact k.pre fun t q => XT.pop w.here w.hx rfl (hb w.hby hd) rfl hc q
theorem g_dup_x1 (w : Wd p l e R s m args below meth c Z a0 n0 kb ws y bytes ml ret T L cells slots) {pc : Nat} {Ls : Array Slot} {x x' : Value} {st : List Value} (hd : decode bytes pc = .ok (.dup_x1, 1)) (hc : x.category = 1) (hc' : x'.category = 1) (pc' : Nat) (hp : pc + 1 = pc')
    (k : Go p e below Z n0 kg E P T (mkF m pc' Ls (x :: x' :: x :: st))) : Go p e below Z n0 kg E P T (mkF m pc Ls (x :: x' :: st)) := by
  subst hp
  exact k.pre fun t q => XT.dupX1 w.here w.hx rfl (hb w.hby hd) rfl hc hc' q
theorem g_dup2 (w : Wd p l e R s m args below meth c Z a0 n0 kb ws y bytes ml ret T L cells slots) {pc : Nat} {Ls : Array Slot} {x x' : Value} {st : List Value} (hd : decode bytes pc = .ok (.dup2, 1)) (hc : x.category = 1) (hc' : x'.category = 1) (pc' : Nat) (hp : pc + 1 = pc')
    (k : Go p e below Z n0 kg E P T (mkF m pc' Ls (x :: x' :: x :: x' :: st))) : Go p e below Z n0 kg E P T (mkF m pc Ls (x :: x' :: st)) := by
  subst hp
  exact k.pre fun t q => XT.dup2 w.here w.hx rfl (hb w.hby hd) rfl hc hc' q
theorem g_istore (w : Wd p l e R s m args below meth c Z a0 n0 kb ws y bytes ml ret T L cells slots) {pc : Nat} {Ls : Array Slot} {i : Nat} {x x' : Int32} {st : List Value} (hd : decode bytes pc = .ok (.istore i, 2)) (pc' : Nat) (hp : pc + 2 = pc') (e1 : x = x') (Ls' : Array Slot) (hl : storeLocals Ls i (.int x') = some Ls')
    (k : Go p e below Z n0 kg E P T (mkF m pc' Ls' st)) : Go p e below Z n0 kg E P T (mkF m pc Ls (.int x :: st)) := by
  subst hp e1
  exact k.pre fun t q => XS.istore w.here w.hx rfl (hb w.hby hd) rfl hl q
theorem g_istoreN (w : Wd p l e R s m args below meth c Z a0 n0 kb ws y bytes ml ret T L cells slots) {pc : Nat} {Ls : Array Slot} {i : Fin 4} {x x' : Int32} {st : List Value} (hd : decode bytes pc = .ok (.istore_n i, 1)) (pc' : Nat) (hp : pc + 1 = pc') (e1 : x = x') (Ls' : Array Slot) (hl : storeLocals Ls i.val (.int x') = some Ls')
    (k : Go p e below Z n0 kg E P T (mkF m pc' Ls' st)) : Go p e below Z n0 kg E P T (mkF m pc Ls (.int x :: st)) := by
  subst hp e1
  exact k.pre fun t q => XS.istoreN w.here w.hx rfl (hb w.hby hd) rfl hl q
theorem g_lstore (w : Wd p l e R s m args below meth c Z a0 n0 kb ws y bytes ml ret T L cells slots) {pc : Nat} {Ls : Array Slot} {i : Nat} {x x' : Int64} {st : List Value} (hd : decode bytes pc = .ok (.lstore i, 2)) (pc' : Nat) (hp : pc + 2 = pc') (e1 : x = x') (Ls' : Array Slot) (hl : storeLocals Ls i (.long x') = some Ls')
    (k : Go p e below Z n0 kg E P T (mkF m pc' Ls' st)) : Go p e below Z n0 kg E P T (mkF m pc Ls (.long x :: st)) := by
  subst hp e1
  exact k.pre fun t q => XT.lstore w.here w.hx rfl (hb w.hby hd) rfl hl q
theorem g_lstoreN (w : Wd p l e R s m args below meth c Z a0 n0 kb ws y bytes ml ret T L cells slots) {pc : Nat} {Ls : Array Slot} {i : Fin 4} {x x' : Int64} {st : List Value} (hd : decode bytes pc = .ok (.lstore_n i, 1)) (pc' : Nat) (hp : pc + 1 = pc') (e1 : x = x') (Ls' : Array Slot) (hl : storeLocals Ls i.val (.long x') = some Ls')
    (k : Go p e below Z n0 kg E P T (mkF m pc' Ls' st)) : Go p e below Z n0 kg E P T (mkF m pc Ls (.long x :: st)) := by
  subst hp e1
  exact k.pre fun t q => XT.lstoreN w.here w.hx rfl (hb w.hby hd) rfl hl q
theorem g_astore (w : Wd p l e R s m args below meth c Z a0 n0 kb ws y bytes ml ret T L cells slots) {pc : Nat} {Ls : Array Slot} {i : Nat} {x : Value} {st : List Value} (hd : decode bytes pc = .ok (.astore i, 2)) (pc' : Nat) (hp : pc + 2 = pc') (hv : x.isRef = true) (Ls' : Array Slot) (hl : storeLocals Ls i x = some Ls')
    (k : Go p e below Z n0 kg E P T (mkF m pc' Ls' st)) : Go p e below Z n0 kg E P T (mkF m pc Ls (x :: st)) := by
  subst hp
  exact k.pre fun t q => XS.astore w.here w.hx rfl (hb w.hby hd) rfl hv hl q
theorem g_astoreN (w : Wd p l e R s m args below meth c Z a0 n0 kb ws y bytes ml ret T L cells slots) {pc : Nat} {Ls : Array Slot} {i : Fin 4} {x : Value} {st : List Value} (hd : decode bytes pc = .ok (.astore_n i, 1)) (pc' : Nat) (hp : pc + 1 = pc') (hv : x.isRef = true) (Ls' : Array Slot) (hl : storeLocals Ls i.val x = some Ls')
    (k : Go p e below Z n0 kg E P T (mkF m pc' Ls' st)) : Go p e below Z n0 kg E P T (mkF m pc Ls (x :: st)) := by
  subst hp
  exact k.pre fun t q => XS.astoreN w.here w.hx rfl (hb w.hby hd) rfl hv hl q
theorem g_iinc (w : Wd p l e R s m args below meth c Z a0 n0 kb ws y bytes ml ret T L cells slots) {pc : Nat} {Ls : Array Slot} {i : Nat} {cst : Int} {x x' : Int32} {st : List Value} (hd : decode bytes pc = .ok (.iinc i cst, 3)) (pc' : Nat) (hp : pc + 3 = pc') (hl0 : Ls[i]? = some (.val (.int x))) (e1 : x + Int32.ofInt cst = x') (Ls' : Array Slot) (hl : storeLocals Ls i (.int x') = some Ls')
    (k : Go p e below Z n0 kg E P T (mkF m pc' Ls' st)) : Go p e below Z n0 kg E P T (mkF m pc Ls st) := by
  subst hp e1
  exact k.pre fun t q => XS.iinc w.here w.hx rfl (hb w.hby hd) hl0 hl q
theorem g_goto (w : Wd p l e R s m args below meth c Z a0 n0 kb ws y bytes ml ret T L cells slots) {pc : Nat} {Ls : Array Slot} {o : Int} {st : List Value} (hd : decode bytes pc = .ok (.goto o, 3)) (pc' : Nat) (ho : 0 ≤ (pc : Int) + o) (hp : ((pc : Int) + o).toNat = pc')
    (k : Go p e below Z n0 kg E P T (mkF m pc' Ls st)) : Go p e below Z n0 kg E P T (mkF m pc Ls st) := k.pre fun t q => XS.goto w.here w.hx rfl rfl (hb w.hby hd) ho hp q
theorem g_icmp_eq (w : Wd p l e R s m args below meth c Z a0 n0 kb ws y bytes ml ret T L cells slots) {pc : Nat} {Ls : Array Slot} {x y' : Int32} {o : Int} {st : List Value} (hd : decode bytes pc = .ok (.if_icmp .eq o, 3)) (pcT : Nat) (ho : 0 ≤ (pc : Int) + o) (hT : ((pc : Int) + o).toNat = pcT) (pcF : Nat) (hF : pc + 3 = pcF)
    (k1 : x = y' → Go p e below Z n0 kg E P T (mkF m pcT Ls st)) (k2 : ¬ x = y' → Go p e below Z n0 kg E P T (mkF m pcF Ls st)) : Go p e below Z n0 kg E P T (mkF m pc Ls (.int y' :: .int x :: st)) := by
  subst hF
  by_cases h : x = y'
  · exact (k1 h).pre fun t q => XS.icmpYes w.here w.hx rfl rfl (hb w.hby hd) rfl (XT.ii_eq_t h) ho hT q
  · exact (k2 h).pre fun t q => XS.icmpNo w.here w.hx rfl (hb w.hby hd) rfl (XT.ii_eq_f h) q
theorem g_if_eq (w : Wd p l e R s m args below meth c Z a0 n0 kb ws y bytes ml ret T L cells slots) {pc : Nat} {Ls : Array Slot} {x : Int32} {o : Int} {st : List Value} (hd : decode bytes pc = .ok (.ifCond .eq o, 3)) (pcT : Nat) (ho : 0 ≤ (pc : Int) + o) (hT : ((pc : Int) + o).toNat = pcT) (pcF : Nat) (hF : pc + 3 = pcF)
    (k1 : x = 0 → Go p e below Z n0 kg E P T (mkF m pcT Ls st)) (k2 : ¬ x = 0 → Go p e below Z n0 kg E P T (mkF m pcF Ls st)) : Go p e below Z n0 kg E P T (mkF m pc Ls (.int x :: st)) := by
  subst hF
  by_cases h : x = 0
  · exact (k1 h).pre fun t q => XS.ifYes w.here w.hx rfl rfl (hb w.hby hd) rfl (XT.i0_eq_t h) ho hT q
  · exact (k2 h).pre fun t q => XS.ifNo w.here w.hx rfl (hb w.hby hd) rfl (XT.i0_eq_f h) q
theorem g_lif_eq (w : Wd p l e R s m args below meth c Z a0 n0 kb ws y bytes ml ret T L cells slots) {pc : Nat} {Ls : Array Slot} {x y' : Int64} {o : Int} {st : List Value} (hd : decode bytes pc = .ok (.ifCond .eq o, 3)) (pcT : Nat) (ho : 0 ≤ (pc : Int) + o) (hT : ((pc : Int) + o).toNat = pcT) (pcF : Nat) (hF : pc + 3 = pcF)
    (k1 : x = y' → Go p e below Z n0 kg E P T (mkF m pcT Ls st)) (k2 : ¬ x = y' → Go p e below Z n0 kg E P T (mkF m pcF Ls st)) : Go p e below Z n0 kg E P T (mkF m pc Ls (.int (XT.cmpL x y') :: st)) := by
  subst hF
  by_cases h : x = y'
  · exact (k1 h).pre fun t q => XS.ifYes w.here w.hx rfl rfl (hb w.hby hd) rfl (XT.ll_eq_t h) ho hT q
  · exact (k2 h).pre fun t q => XS.ifNo w.here w.hx rfl (hb w.hby hd) rfl (XT.ll_eq_f h) q
theorem g_icmp_ne (w : Wd p l e R s m args below meth c Z a0 n0 kb ws y bytes ml ret T L cells slots) {pc : Nat} {Ls : Array Slot} {x y' : Int32} {o : Int} {st : List Value} (hd : decode bytes pc = .ok (.if_icmp .ne o, 3)) (pcT : Nat) (ho : 0 ≤ (pc : Int) + o) (hT : ((pc : Int) + o).toNat = pcT) (pcF : Nat) (hF : pc + 3 = pcF)
    (k1 : ¬ x = y' → Go p e below Z n0 kg E P T (mkF m pcT Ls st)) (k2 : x = y' → Go p e below Z n0 kg E P T (mkF m pcF Ls st)) : Go p e below Z n0 kg E P T (mkF m pc Ls (.int y' :: .int x :: st)) := by
  subst hF
  by_cases h : x = y'
  · exact (k2 h).pre fun t q => XS.icmpNo w.here w.hx rfl (hb w.hby hd) rfl (XT.ii_ne_f h) q
  · exact (k1 h).pre fun t q => XS.icmpYes w.here w.hx rfl rfl (hb w.hby hd) rfl (XT.ii_ne_t h) ho hT q
theorem g_if_ne (w : Wd p l e R s m args below meth c Z a0 n0 kb ws y bytes ml ret T L cells slots) {pc : Nat} {Ls : Array Slot} {x : Int32} {o : Int} {st : List Value} (hd : decode bytes pc = .ok (.ifCond .ne o, 3)) (pcT : Nat) (ho : 0 ≤ (pc : Int) + o) (hT : ((pc : Int) + o).toNat = pcT) (pcF : Nat) (hF : pc + 3 = pcF)
    (k1 : ¬ x = 0 → Go p e below Z n0 kg E P T (mkF m pcT Ls st)) (k2 : x = 0 → Go p e below Z n0 kg E P T (mkF m pcF Ls st)) : Go p e below Z n0 kg E P T (mkF m pc Ls (.int x :: st)) := by
  subst hF
  by_cases h : x = 0
  · exact (k2 h).pre fun t q => XS.ifNo w.here w.hx rfl (hb w.hby hd) rfl (XT.i0_ne_f h) q
  · exact (k1 h).pre fun t q => XS.ifYes w.here w.hx rfl rfl (hb w.hby hd) rfl (XT.i0_ne_t h) ho hT q
theorem g_lif_ne (w : Wd p l e R s m args below meth c Z a0 n0 kb ws y bytes ml ret T L cells slots) {pc : Nat} {Ls : Array Slot} {x y' : Int64} {o : Int} {st : List Value} (hd : decode bytes pc = .ok (.ifCond .ne o, 3)) (pcT : Nat) (ho : 0 ≤ (pc : Int) + o) (hT : ((pc : Int) + o).toNat = pcT) (pcF : Nat) (hF : pc + 3 = pcF)
    (k1 : ¬ x = y' → Go p e below Z n0 kg E P T (mkF m pcT Ls st)) (k2 : x = y' → Go p e below Z n0 kg E P T (mkF m pcF Ls st)) : Go p e below Z n0 kg E P T (mkF m pc Ls (.int (XT.cmpL x y') :: st)) := by
  subst hF
  by_cases h : x = y'
  · exact (k2 h).pre fun t q => XS.ifNo w.here w.hx rfl (hb w.hby hd) rfl (XT.ll_ne_f h) q
  · exact (k1 h).pre fun t q => XS.ifYes w.here w.hx rfl rfl (hb w.hby hd) rfl (XT.ll_ne_t h) ho hT q
theorem g_icmp_lt (w : Wd p l e R s m args below meth c Z a0 n0 kb ws y bytes ml ret T L cells slots) {pc : Nat} {Ls : Array Slot} {x y' : Int32} {o : Int} {st : List Value} (hd : decode bytes pc = .ok (.if_icmp .lt o, 3)) (pcT : Nat) (ho : 0 ≤ (pc : Int) + o) (hT : ((pc : Int) + o).toNat = pcT) (pcF : Nat) (hF : pc + 3 = pcF)
    (k1 : x < y' → Go p e below Z n0 kg E P T (mkF m pcT Ls st)) (k2 : ¬ x < y' → Go p e below Z n0 kg E P T (mkF m pcF Ls st)) : Go p e below Z n0 kg E P T (mkF m pc Ls (.int y' :: .int x :: st)) := by
  subst hF
  by_cases h : x < y'
  · exact (k1 h).pre fun t q => XS.icmpYes w.here w.hx rfl rfl (hb w.hby hd) rfl (XT.ii_lt_t h) ho hT q
  · exact (k2 h).pre fun t q => XS.icmpNo w.here w.hx rfl (hb w.hby hd) rfl (XT.ii_lt_f h) q
theorem g_if_lt (w : Wd p l e R s m args below meth c Z a0 n0 kb ws y bytes ml ret T L cells slots) {pc : Nat} {Ls : Array Slot} {x : Int32} {o : Int} {st : List Value} (hd : decode bytes pc = .ok (.ifCond .lt o, 3)) (pcT : Nat) (ho : 0 ≤ (pc : Int) + o) (hT : ((pc : Int) + o).toNat = pcT) (pcF : Nat) (hF : pc + 3 = pcF)
    (k1 : x < 0 → Go p e below Z n0 kg E P T (mkF m pcT Ls st)) (k2 : ¬ x < 0 → Go p e below Z n0 kg E P T (mkF m pcF Ls st)) : Go p e below Z n0 kg E P T (mkF m pc Ls (.int x :: st)) := by
  subst hF
  by_cases h : x < 0
  · exact (k1 h).pre fun t q => XS.ifYes w.here w.hx rfl rfl (hb w.hby hd) rfl (XT.i0_lt_t h) ho hT q
  · exact (k2 h).pre fun t q => XS.ifNo w.here w.hx rfl (hb w.hby hd) rfl (XT.i0_lt_f h) q
theorem g_lif_lt (w : Wd p l e R s m args below meth c Z a0 n0 kb ws y bytes ml ret T L cells slots) {pc : Nat} {Ls : Array Slot} {x y' : Int64} {o : Int} {st : List Value} (hd : decode bytes pc = .ok (.ifCond .lt o, 3)) (pcT : Nat) (ho : 0 ≤ (pc : Int) + o) (hT : ((pc : Int) + o).toNat = pcT) (pcF : Nat) (hF : pc + 3 = pcF)
    (k1 : x < y' → Go p e below Z n0 kg E P T (mkF m pcT Ls st)) (k2 : ¬ x < y' → Go p e below Z n0 kg E P T (mkF m pcF Ls st)) : Go p e below Z n0 kg E P T (mkF m pc Ls (.int (XT.cmpL x y') :: st)) := by
  subst hF
  by_cases h : x < y'
  · exact (k1 h).pre fun t q => XS.ifYes w.here w.hx rfl rfl (hb w.hby hd) rfl (XT.ll_lt_t h) ho hT q
  · exact (k2 h).pre fun t q => XS.ifNo w.here w.hx rfl (hb w.hby hd) rfl (XT.ll_lt_f h) q
theorem g_icmp_ge (w : Wd p l e R s m args below meth c Z a0 n0 kb ws y bytes ml ret T L cells slots) {pc : Nat} {Ls : Array Slot} {x y' : Int32} {o : Int} {st : List Value} (hd : decode bytes pc = .ok (.if_icmp .ge o, 3)) (pcT : Nat) (ho : 0 ≤ (pc : Int) + o) (hT : ((pc : Int) + o).toNat = pcT) (pcF : Nat) (hF : pc + 3 = pcF)
    (k1 : ¬ x < y' → Go p e below Z n0 kg E P T (mkF m pcT Ls st)) (k2 : x < y' → Go p e below Z n0 kg E P T (mkF m pcF Ls st)) : Go p e below Z n0 kg E P T (mkF m pc Ls (.int y' :: .int x :: st)) := by
  subst hF
  by_cases h : x < y'
  · exact (k2 h).pre fun t q => XS.icmpNo w.here w.hx rfl (hb w.hby hd) rfl (XT.ii_ge_f h) q
  · exact (k1 h).pre fun t q => XS.icmpYes w.here w.hx rfl rfl (hb w.hby hd) rfl (XT.ii_ge_t h) ho hT q
theorem g_if_ge (w : Wd p l e R s m args below meth c Z a0 n0 kb ws y bytes ml ret T L cells slots) {pc : Nat} {Ls : Array Slot} {x : Int32} {o : Int} {st : List Value} (hd : decode bytes pc = .ok (.ifCond .ge o, 3)) (pcT : Nat) (ho : 0 ≤ (pc : Int) + o) (hT : ((pc : Int) + o).toNat = pcT) (pcF : Nat) (hF : pc + 3 = pcF)
    (k1 : ¬ x < 0 → Go p e below Z n0 kg E P T (mkF m pcT Ls st)) (k2 : x < 0 → Go p e below Z n0 kg E P T (mkF m pcF Ls st)) : Go p e below Z n0 kg E P T (mkF m pc Ls (.int x :: st)) := by
  subst hF
  by_cases h : x < 0
  · exact (k2 h).pre fun t q => XS.ifNo w.here w.hx rfl (hb w.hby hd) rfl (XT.i0_ge_f h) q
  · exact (k1 h).pre fun t q => XS.ifYes w.here w.hx rfl rfl (hb w.hby hd) rfl (XT.i0_ge_t h) ho hT q
theorem g_lif_ge (w : Wd p l e R s m args below meth c Z a0 n0 kb ws y bytes ml ret T L cells slots) {pc : Nat} {Ls : Array Slot} {x y' : Int64} {o : Int} {st : List Value} (hd : decode bytes pc = .ok (.ifCond .ge o, 3)) (pcT : Nat) (ho : 0 ≤ (pc : Int) + o) (hT : ((pc : Int) + o).toNat = pcT) (pcF : Nat) (hF : pc + 3 = pcF)
    (k1 : ¬ x < y' → Go p e below Z n0 kg E P T (mkF m pcT Ls st)) (k2 : x < y' → Go p e below Z n0 kg E P T (mkF m pcF Ls st)) : Go p e below Z n0 kg E P T (mkF m pc Ls (.int (XT.cmpL x y') :: st)) := by
  subst hF
  by_cases h : x < y'
  · exact (k2 h).pre fun t q => XS.ifNo w.here w.hx rfl (hb w.hby hd) rfl (XT.ll_ge_f h) q
  · exact (k1 h).pre fun t q => XS.ifYes w.here w.hx rfl rfl (hb w.hby hd) rfl (XT.ll_ge_t h) ho hT q
theorem g_icmp_gt (w : Wd p l e R s m args below meth c Z a0 n0 kb ws y bytes ml ret T L cells slots) {pc : Nat} {Ls : Array Slot} {x y' : Int32} {o : Int} {st : List Value} (hd : decode bytes pc = .ok (.if_icmp .gt o, 3)) (pcT : Nat) (ho : 0 ≤ (pc : Int) + o) (hT : ((pc : Int) + o).toNat = pcT) (pcF : Nat) (hF : pc + 3 = pcF)
    (k1 : y' < x → Go p e below Z n0 kg E P T (mkF m pcT Ls st)) (k2 : ¬ y' < x → Go p e below Z n0 kg E P T (mkF m pcF Ls st)) : Go p e below Z n0 kg E P T (mkF m pc Ls (.int y' :: .int x :: st)) := by
  subst hF
  by_cases h : y' < x
  · exact (k1 h).pre fun t q => XS.icmpYes w.here w.hx rfl rfl (hb w.hby hd) rfl (XT.ii_gt_t h) ho hT q
  · exact (k2 h).pre fun t q => XS.icmpNo w.here w.hx rfl (hb w.hby hd) rfl (XT.ii_gt_f h) q
theorem g_if_gt (w : Wd p l e R s m args below meth c Z a0 n0 kb ws y bytes ml ret T L cells slots) {pc : Nat} {Ls : Array Slot} {x : Int32} {o : Int} {st : List Value} (hd : decode bytes pc = .ok (.ifCond .gt o, 3)) (pcT : Nat) (ho : 0 ≤ (pc : Int) + o) (hT : ((pc : Int) + o).toNat = pcT) (pcF : Nat) (hF : pc + 3 = pcF)
    (k1 : 0 < x → Go p e below Z n0 kg E P T (mkF m pcT Ls st)) (k2 : ¬ 0 < x → Go p e below Z n0 kg E P T (mkF m pcF Ls st)) : Go p e below Z n0 kg E P T (mkF m pc Ls (.int x :: st)) := by
  subst hF
  by_cases h : 0 < x
  · exact (k1 h).pre fun t q => XS.ifYes w.here w.hx rfl rfl (hb w.hby hd) rfl (XT.i0_gt_t h) ho hT q
  · exact (k2 h).pre fun t q => XS.ifNo w.here w.hx rfl (hb w.hby hd) rfl (XT.i0_gt_f h) q
theorem g_lif_gt (w : Wd p l e R s m args below meth c Z a0 n0 kb ws y bytes ml ret T L cells slots) {pc : Nat} {Ls : Array Slot} {x y' : Int64} {o : Int} {st : List Value} (hd : decode bytes pc = .ok (.ifCond .gt o, 3)) (pcT : Nat) (ho : 0 ≤ (pc : Int) + o) (hT : ((pc : Int) + o).toNat = pcT) (pcF : Nat) (hF : pc + 3 = pcF)
    (k1 : y' < x → Go p e below Z n0 kg E P T (mkF m pcT Ls st)) (k2 : ¬ y' < x → Go p e below Z n0 kg E P T (mkF m pcF Ls st)) : Go p e below Z n0 kg E P T (mkF m pc Ls (.int (XT.cmpL x y') :: st)) := by
  subst hF
  by_cases h : y' < x
  · exact (k1 h).pre fun t q => XS.ifYes w.here w.hx rfl rfl (hb w.hby hd) rfl (XT.ll_gt_t h) ho hT q
  · exact (k2 h).pre fun t q => XS.ifNo w.here w.hx rfl (hb w.hby hd) rfl (XT.ll_gt_f h) q
theorem g_icmp_le (w : Wd p l e R s m args below meth c Z a0 n0 kb ws y bytes ml ret T L cells slots) {pc : Nat} {Ls : Array Slot} {x y' : Int32} {o : Int} {st : List Value} (hd : decode bytes pc = .ok (.if_icmp .le o, 3)) (pcT : Nat) (ho : 0 ≤ (pc : Int) + o) (hT : ((pc : Int) + o).toNat = pcT) (pcF : Nat) (hF : pc + 3 = pcF)
    (k1 : ¬ y' < x → Go p e below Z n0 kg E P T (mkF m pcT Ls st)) (k2 : y' < x → Go p e below Z n0 kg E P T (mkF m pcF Ls st)) : Go p e below Z n0 kg E P T (mkF m pc Ls (.int y' :: .int x :: st)) := by
  subst hF
  by_cases h : y' < x
  · exact (k2 h).pre fun t q => XS.icmpNo w.here w.hx rfl (hb w.hby hd) rfl (XT.ii_le_f h) q
  · exact (k1 h).pre fun t q => XS.icmpYes w.here w.hx rfl rfl (hb w.hby hd) rfl (XT.ii_le_t h) ho hT q
theorem g_if_le (w : Wd p l e R s m args below meth c Z a0 n0 kb ws y bytes ml ret T L cells slots) {pc : Nat} {Ls : Array Slot} {x : Int32} {o : Int} {st : List Value} (hd : decode bytes pc = .ok (.ifCond .le o, 3)) (pcT : Nat) (ho : 0 ≤ (pc : Int) + o) (hT : ((pc : Int) + o).toNat = pcT) (pcF : Nat) (hF : pc + 3 = pcF)
    (k1 : ¬ 0 < x → Go p e below Z n0 kg E P T (mkF m pcT Ls st)) (k2 : 0 < x → Go p e below Z n0 kg E P T (mkF m pcF Ls st)) : Go p e below Z n0 kg E P T (mkF m pc Ls (.int x :: st)) := by
  subst hF
  by_cases h : 0 < x
  · exact (k2 h).pre fun t q => XS.ifNo w.here w.hx rfl (hb w.hby hd) rfl (XT.i0_le_f h) q
  · exact (k1 h).pre fun t q => XS.ifYes w.here w.hx rfl rfl (hb w.hby hd) rfl (XT.i0_le_t h) ho hT q
theorem g_lif_le (w : Wd p l e R s m args below meth c Z a0 n0 kb ws y bytes ml ret T L cells slots) {pc : Nat} {Ls : Array Slot} {x y' : Int64} {o : Int} {st : List Value} (hd : decode bytes pc = .ok (.ifCond .le o, 3)) (pcT : Nat) (ho : 0 ≤ (pc : Int) + o) (hT : ((pc : Int) + o).toNat = pcT) (pcF : Nat) (hF : pc + 3 = pcF)
    (k1 : ¬ y' < x → Go p e below Z n0 kg E P T (mkF m pcT Ls st)) (k2 : y' < x → Go p e below Z n0 kg E P T (mkF m pcF Ls st)) : Go p e below Z n0 kg E P T (mkF m pc Ls (.int (XT.cmpL x y') :: st)) := by
  subst hF
  by_cases h : y' < x
  · exact (k2 h).pre fun t q => XS.ifNo w.here w.hx rfl (hb w.hby hd) rfl (XT.ll_le_f h) q
  · exact (k1 h).pre fun t q => XS.ifYes w.here w.hx rfl rfl (hb w.hby hd) rfl (XT.ll_le_t h) ho hT q
theorem g_acmp_eq (w : Wd p l e R s m args below meth c Z a0 n0 kb ws y bytes ml ret T L cells slots) {pc : Nat} {Ls : Array Slot} {x y' : Value} {o : Int} {st : List Value} (hd : decode bytes pc = .ok (.if_acmp .eq o, 3)) (hx' : x.isRef = true) (hy' : y'.isRef = true) (pcT : Nat) (ho : 0 ≤ (pc : Int) + o) (hT : ((pc : Int) + o).toNat = pcT) (pcF : Nat) (hF : pc + 3 = pcF)
    (k1 : x = y' → Go p e below Z n0 kg E P T (mkF m pcT Ls st)) (k2 : ¬ x = y' → Go p e below Z n0 kg E P T (mkF m pcF Ls st)) : Go p e below Z n0 kg E P T (mkF m pc Ls (y' :: x :: st)) := by
  subst hF
  by_cases h : x = y'
  · exact (k1 h).pre fun t q => XT.acmpYes w.here w.hx rfl rfl (hb w.hby hd) rfl hx' hy' (XT.aa_eq_t h) ho hT q
  · exact (k2 h).pre fun t q => XT.acmpNo w.here w.hx rfl (hb w.hby hd) rfl hx' hy' (XT.aa_eq_f h) q
theorem g_acmp_ne (w : Wd p l e R s m args below meth c Z a0 n0 kb ws y bytes ml ret T L cells slots) {pc : Nat} {Ls : Array Slot} {x y' : Value} {o : Int} {st : List Value} (hd : decode bytes pc = .ok (.if_acmp .ne o, 3)) (hx' : x.isRef = true) (hy' : y'.isRef = true) (pcT : Nat) (ho : 0 ≤ (pc : Int) + o) (hT : ((pc : Int) + o).toNat = pcT) (pcF : Nat) (hF : pc + 3 = pcF)
    (k1 : ¬ x = y' → Go p e below Z n0 kg E P T (mkF m pcT Ls st)) (k2 : x = y' → Go p e below Z n0 kg E P T (mkF m pcF Ls st)) : Go p e below Z n0 kg E P T (mkF m pc Ls (y' :: x :: st)) := by
  subst hF
  by_cases h : x = y'
  · exact (k2 h).pre fun t q => XT.acmpNo w.here w.hx rfl (hb w.hby hd) rfl hx' hy' (XT.aa_ne_f h) q
  · exact (k1 h).pre fun t q => XT.acmpYes w.here w.hx rfl rfl (hb w.hby hd) rfl hx' hy' (XT.aa_ne_t h) ho hT q
theorem g_ifnullT (w : Wd p l e R s m args below meth c Z a0 n0 kb ws y bytes ml ret T L cells slots) {pc : Nat} {Ls : Array Slot} {o : Int} {st : List Value} (hd : decode bytes pc = .ok (.ifnull o, 3)) (pcT : Nat) (ho : 0 ≤ (pc : Int) + o) (hT : ((pc : Int) + o).toNat = pcT) (k : Go p e below Z n0 kg E P T (mkF m pcT Ls st)) : Go p e below Z n0 kg E P T (mkF m pc Ls (.null :: st)) := k.pre fun t q => XS.ifnullYes w.here w.hx rfl rfl (hb w.hby hd) rfl ho hT q
theorem g_ifnullF (w : Wd p l e R s m args below meth c Z a0 n0 kb ws y bytes ml ret T L cells slots) {pc : Nat} {Ls : Array Slot} {r : Addr} {o : Int} {st : List Value} (hd : decode bytes pc = .ok (.ifnull o, 3)) (pcF : Nat) (hF : pc + 3 = pcF) (k : Go p e below Z n0 kg E P T (mkF m pcF Ls st)) : Go p e below Z n0 kg E P T (mkF m pc Ls (.ref r :: st)) := by
  subst hF
  exact k.pre fun t q => XS.ifnullNo w.here w.hx rfl (hb w.hby hd) rfl q
theorem g_ifnonnullT (w : Wd p l e R s m args below meth c Z a0 n0 kb ws y bytes ml ret T L cells slots) {pc : Nat} {Ls : Array Slot} {r : Addr} {o : Int} {st : List Value} (hd : decode bytes pc = .ok (.ifnonnull o, 3)) (pcT : Nat) (ho : 0 ≤ (pc : Int) + o) (hT : ((pc : Int) + o).toNat = pcT) (k : Go p e below Z n0 kg E P T (mkF m pcT Ls st)) : Go p e below Z n0 kg E P T (mkF m pc Ls (.ref r :: st)) := k.pre fun t q => XT.ifnonnullYes w.here w.hx rfl rfl (hb w.hby hd) rfl ho hT q
theorem g_ifnonnullF (w : Wd p l e R s m args below meth c Z a0 n0 kb ws y bytes ml ret T L cells slots) {pc : Nat} {Ls : Array Slot} {o : Int} {st : List Value} (hd : decode bytes pc = .ok (.ifnonnull o, 3)) (pcF : Nat) (hF : pc + 3 = pcF) (k : Go p e below Z n0 kg E P T (mkF m pcF Ls st)) : Go p e below Z n0 kg E P T (mkF m pc Ls (.null :: st)) := by
  subst hF
  exact k.pre fun t q => XT.ifnonnullNo w.here w.hx rfl (hb w.hby hd) rfl q
/-! ## calls -/
theorem g_initO (w : Wd p l e R s m args below meth c Z a0 n0 kb ws y bytes ml ret T L cells slots) {pc : Nat} {Ls : Array Slot} {st : List Value} {idx : Nat} {a : Addr} (hd : decode bytes pc = .ok (.invokespecial idx, 3)) (k1 : Nat) (hk1 : ws[k1]? = some (.methodLink y.cls idx Lib.objectInit)) (k2 : Nat) (hk2 : ws[k2]? = some (.instanceMethod Lib.objectInit)) (k3 : Nat) (hk3 : ws[k3]? = some (.code Lib.objectInit ⟨#[0xb1]⟩ 1 none))
    (hsz : Ls.size = ml) (hf : 1 ≤ R.frames) (W : Nat) (hW : (st.map fun v => v.category).sum = W) (hl : W + 12 ≤ R.locals) (pc' : Nat) (hp : pc + 3 = pc')
    (kt : ∀ T', Wd p l e R s m args below meth c Z a0 n0 kb ws y bytes ml ret T' L cells slots → Go p e below Z n0 kg E P T' (mkF m pc' Ls st)) : Go p e below Z n0 kg E P T (mkF m pc Ls (.ref a :: st)) := by
  subst hp
  have hk1' := w.hw hk1
  have hk2' := w.hw hk2
  have hk3' := w.hw hk3
  obtain ⟨⟨locs, X, N⟩, H, hx, hZ, hown, hby, hml, hret, hlk, hnm, hws⟩ := w
  obtain ⟨T', X', e', st'⟩ := initO X hx hZ hown hk1' hk2' hk3' rfl (g := mkF m pc Ls (.ref a :: st)) rfl (by rw [hml]; exact hsz) rfl (hb hby hd) hf (W := W) (by show 2 * 0 + _ ≤ _; rw [hW]; omega) hl
  exact (kt T' ⟨⟨locs, X', N⟩, by rw [e']; exact H, hx, hZ, hown, hby, hml, hret, hlk, hnm, hws⟩).pre st'
theorem Con.back {y' : MethodName} {bytes' : ByteArray} {ml' : Nat} {ret' : Option FieldType} {rm : Room} {as' : Array Value} {P' : Option Value → HL → Prop} {h : Heap} {len W : Nat} (C : Con l y' bytes' ml' ret' rm Z n0 as' L P') (H : Hp Z n0 kb h L) (hZ : Z.Warmed39 s.vm) (wc : (Cond.code y' bytes' ml' ret').before a0 Z = true) (wz : (Cond.initialized y'.cls).before a0 Z = true) (hf : rm.frames + 1 ≤ R.frames) (hl : W + (ml' + 11) + rm.locals ≤ R.locals) :
    Back l R p e below s args y' len W (fun A a => a = as' ∧ A.U.heap = h ∧ A.cells + rm.cells ≤ R.cells ∧ A.slots + rm.slots ≤ R.slots)
      (fun A _ v B => ∃ Lc, (Fr n0 Lc ∧ ∃ L', Hp Z n0 kb B.U.heap L' ∧ P' v L') ∧ B.locs = A.locs ++ Lc ∧ B.cells = A.cells + rm.cells ∧ B.slots = A.slots + rm.slots) :=
  backOf (Q := fun v hh Lc => Fr n0 Lc ∧ ∃ L', Hp Z n0 kb hh L' ∧ P' v L') (C [] kb h H) hZ wc wz hf hl
/-- behind a call -/
theorem g_behind {rm : Room} {P' : Option Value → HL → Prop} {pc : Nat} {Ls : Array Slot} {rest : List Value} {v : Option Value} {B : Pt} {locs : List Loc}
    (N : Fr n0 locs) (hx : p.tables.exec = Jvm.exec) (hZ : Z.Warmed39 s.vm) (hown : s.vm.findClass y.cls = some m.cls) (hby : c.code = bytes) (hml : c.maxLocals = ml) (hret : meth.sig.returnType = ret) (hlk : meth.locks = false) (hnm : meth.name = y.name) (hws : ∀ d ∈ ws, d.before a0 Z = true)
    (X' : Stand p l e R s m args below meth c B.U B.locs B.cells B.slots)
    (hQ : ∃ Lc, (Fr n0 Lc ∧ ∃ L', Hp Z n0 kb B.U.heap L' ∧ P' v L') ∧ Pt.locs B = locs ++ Lc ∧ Pt.cells B = cells + rm.cells ∧ Pt.slots B = slots + rm.slots)
    (kt : ∀ T' v L', Wd p l e R s m args below meth c Z a0 n0 kb ws y bytes ml ret T' L' (cells + rm.cells) (slots + rm.slots) → P' v L' → Go p e below Z n0 kg E P T' (mkF m pc Ls (pushV v rest))) :
    Go p e below Z n0 kg E P B.U (mkF m pc Ls (v.toList ++ rest)) := by
  obtain ⟨Lc, ⟨N', L', H', hP⟩, h1, h2, h3⟩ := hQ
  obtain ⟨U, bl, bc, bs⟩ := B
  dsimp only [Pt.U, Pt.locs, Pt.cells, Pt.slots] at h1 h2 h3 X' H' ⊢
  subst h1 h2 h3
  rw [pushV_eq]
  exact kt U v L' ⟨⟨_, X', Fr.app N N'⟩, H', hx, hZ, hown, hby, hml, hret, hlk, hnm, hws⟩ hP
theorem g_static (w : Wd p l e R s m args below meth c Z a0 n0 kb ws y bytes ml ret T L cells slots) {pc : Nat} {Ls : Array Slot} {st : List Value} {idx : Nat} {y' : MethodName} {bytes' : ByteArray} {ml' : Nat} {ret' : Option FieldType} {rm : Room} {P' : Option Value → HL → Prop} {ps : List FieldType} {rt : Option FieldType} {argsL rest : List Value}
    (C : Con l y' bytes' ml' ret' rm Z n0 argsL.toArray L P') (hd : decode bytes pc = .ok (.invokestatic idx, 3)) (k1 : Nat) (hk1 : ws[k1]? = some (.methodLink y.cls idx y')) (k2 : Nat) (hk2 : ws[k2]? = some (.static y')) (k3 : Nat) (hk3 : ws[k3]? = some (.initialized y'.cls)) (k4 : Nat) (hk4 : ws[k4]? = some (.code y' bytes' ml' ret'))
    (hy : y'.cls ≠ "java/lang/invoke/MethodHandle" ∧ y'.cls ≠ "java/lang/invoke/VarHandle") (hpd : parseMethodDescriptor y'.desc = some ⟨ps, rt⟩) (hlen : argsL.length = ps.length) (hst : st = argsL.reverse ++ rest) (hsz : Ls.size = ml) (W : Nat) (hW : (rest.map fun v => v.category).sum = W) (hf : rm.frames + 1 ≤ R.frames) (hl : W + (ml' + 11) + rm.locals ≤ R.locals)
    (hc : cells + rm.cells ≤ R.cells) (hs : slots + rm.slots ≤ R.slots) (pc' : Nat) (hp : pc + 3 = pc')
    (kt : ∀ T' v L', Wd p l e R s m args below meth c Z a0 n0 kb ws y bytes ml ret T' L' (cells + rm.cells) (slots + rm.slots) → P' v L' → Go p e below Z n0 kg E P T' (mkF m pc' Ls (pushV v rest))) : Go p e below Z n0 kg E P T (mkF m pc Ls st) := by
  subst hp hst
  have hk1' := w.hw hk1
  have hk2' := w.hw hk2
  have hk3' := w.hw hk3
  have hk4' := w.hw hk4
  obtain ⟨⟨locs, X, N⟩, H, hx, hZ, hown, hby, hml, hret, hlk, hnm, hws⟩ := w
  obtain ⟨v, vm₁, B, -, X', hQ, st'⟩ := Jvm.LawKit.callS X hx hown (mvT hZ hk1') (mvT hZ hk2') (mvT hZ hk3') (mvT hZ hk4') hy (Con.back C H hZ hk4' hk3' hf hl) (g := mkF m pc Ls (argsL.reverse ++ rest)) rfl (by rw [hml]; exact hsz) (argsL := argsL) (rest := rest) (lenOf hpd hlen) rfl (by show 2 * 0 + _ ≤ _; rw [hW]; omega) (hb hby hd) (fun _ _ => ⟨rfl, rfl, hc, hs⟩)
  exact (g_behind (rm := rm) (P' := P') N hx hZ hown hby hml hret hlk hnm hws X' hQ kt).pre st'
theorem g_ctor (w : Wd p l e R s m args below meth c Z a0 n0 kb ws y bytes ml ret T L cells slots) {pc : Nat} {Ls : Array Slot} {st : List Value} {idx : Nat} {y' : MethodName} {bytes' : ByteArray} {ml' : Nat} {rm : Room} {P' : Option Value → HL → Prop} {ps : List FieldType} {rt : Option FieldType} {a : Addr} {argsL rest : List Value}
    (C : Con l y' bytes' ml' none rm Z n0 (Value.ref a :: argsL).toArray L P') (hd : decode bytes pc = .ok (.invokespecial idx, 3)) (k1 : Nat) (hk1 : ws[k1]? = some (.methodLink y.cls idx y')) (k2 : Nat) (hk2 : ws[k2]? = some (.instanceMethod y')) (k3 : Nat) (hk3 : ws[k3]? = some (.initialized y'.cls)) (k4 : Nat) (hk4 : ws[k4]? = some (.code y' bytes' ml' none))
    (hyn : y'.name = "<init>") (hy : y'.cls ≠ "java/lang/invoke/MethodHandle" ∧ y'.cls ≠ "java/lang/invoke/VarHandle") (hpd : parseMethodDescriptor y'.desc = some ⟨ps, rt⟩) (hlen : argsL.length = ps.length) (hst : st = argsL.reverse ++ .ref a :: rest) (hsz : Ls.size = ml) (W : Nat) (hW : (rest.map fun v => v.category).sum = W) (hf : rm.frames + 1 ≤ R.frames) (hl : W + (ml' + 11) + rm.locals ≤ R.locals)
    (hc : cells + rm.cells ≤ R.cells) (hs : slots + rm.slots ≤ R.slots) (pc' : Nat) (hp : pc + 3 = pc')
    (kt : ∀ T' v L', Wd p l e R s m args below meth c Z a0 n0 kb ws y bytes ml ret T' L' (cells + rm.cells) (slots + rm.slots) → P' v L' → Go p e below Z n0 kg E P T' (mkF m pc' Ls (pushV v rest))) : Go p e below Z n0 kg E P T (mkF m pc Ls st) := by
  subst hp hst
  have hk1' := w.hw hk1
  have hk2' := w.hw hk2
  have hk3' := w.hw hk3
  have hk4' := w.hw hk4
  obtain ⟨⟨locs, X, N⟩, H, hx, hZ, hown, hby, hml, hret, hlk, hnm, hws⟩ := w
  obtain ⟨v, vm₁, B, -, X', hQ, st'⟩ := X.specialBack hx hyn hown (mvT hZ hk1') (mvT hZ hk2') (mvT hZ hk4') hy (Con.back C H hZ hk4' hk3' hf hl) (g := mkF m pc Ls (argsL.reverse ++ .ref a :: rest)) rfl (by rw [hml]; exact hsz) (Steps.refl _) (a := a) (argsL := argsL) (rest := rest) (lenOf hpd hlen) rfl (by show 2 * 0 + _ ≤ _; rw [hW]; omega) (hb hby hd) (fun _ _ => ⟨rfl, rfl, hc, hs⟩)
  exact (g_behind (rm := rm) (P' := P') N hx hZ hown hby hml hret hlk hnm hws X' hQ kt).pre fun t q => st'.trans q
theorem g_virt (w : Wd p l e R s m args below meth c Z a0 n0 kb ws y bytes ml ret T L cells slots) {pc : Nat} {Ls : Array Slot} {st : List Value} {idx : Nat} {y' : MethodName} {bytes' : ByteArray} {ml' : Nat} {ret' : Option FieldType} {rm : Room} {P' : Option Value → HL → Prop} {ps : List FieldType} {rt : Option FieldType} {a : Addr} {Cn : String} {fs : List FldE} {argsL rest : List Value}
    (C : Con l y' bytes' ml' ret' rm Z n0 (Value.ref a :: argsL).toArray L P') (hd : decode bytes pc = .ok (.invokevirtual idx, 3)) (i : Nat) (hi : L[i]? = some (a, .inl (Cn, fs))) (k1 : Nat) (hk1 : ws[k1]? = some (.methodLink y.cls idx y')) (k2 : Nat) (hk2 : ws[k2]? = some (.declares y')) (k3 : Nat) (hk3 : ws[k3]? = some (.initialized y'.cls)) (k4 : Nat) (hk4 : ws[k4]? = some (.code y' bytes' ml' ret'))
    (k5 : Nat) (hk5 : ws[k5]? = some (.selects Cn y' y')) (k6 : Nat) (hk6 : ws[k6]? = some (.instanceMethod y'))
    (hy : y'.cls ≠ "java/lang/invoke/MethodHandle" ∧ y'.cls ≠ "java/lang/invoke/VarHandle") (hpd : parseMethodDescriptor y'.desc = some ⟨ps, rt⟩) (hlen : argsL.length = ps.length) (hst : st = argsL.reverse ++ .ref a :: rest) (hsz : Ls.size = ml) (W : Nat) (hW : (rest.map fun v => v.category).sum = W) (hf : rm.frames + 1 ≤ R.frames) (hl : W + (ml' + 11) + rm.locals ≤ R.locals)
    (hc : cells + rm.cells ≤ R.cells) (hs : slots + rm.slots ≤ R.slots) (pc' : Nat) (hp : pc + 3 = pc')
    (kt : ∀ T' v L', Wd p l e R s m args below meth c Z a0 n0 kb ws y bytes ml ret T' L' (cells + rm.cells) (slots + rm.slots) → P' v L' → Go p e below Z n0 kg E P T' (mkF m pc' Ls (pushV v rest))) : Go p e below Z n0 kg E P T (mkF m pc Ls st) := by
  subst hp hst
  have hk1' := w.hw hk1
  have hk2' := w.hw hk2
  have hk3' := w.hw hk3
  have hk4' := w.hw hk4
  have hk5' := w.hw hk5
  have hk6' := w.hw hk6
  obtain ⟨⟨locs, X, N⟩, H, hx, hZ, hown, hby, hml, hret, hlk, hnm, hws⟩ := w
  obtain ⟨cq, kq, qa, qb, qc⟩ := isOf hZ rfl (H.obj hi).1
  obtain ⟨v, vm₁, B, -, X', hQ, st'⟩ := X.virtualBack hx (y := y') (z := y') hown (mvT hZ hk1') (mvT hZ hk2') (notFace_of_selects (args := #[]) (mvT hZ hk5')) (mvT hZ hk5') (mvT hZ hk6') hy (Con.back C H hZ hk4' hk3' hf hl) qa qc (g := mkF m pc Ls (argsL.reverse ++ .ref a :: rest)) rfl (by rw [hml]; exact hsz) (Steps.refl _) (argsL := argsL) (rest := rest) (lenOf hpd hlen) rfl (by show 2 * 0 + _ ≤ _; rw [hW]; omega) (hb hby hd) (fun _ _ => ⟨rfl, rfl, hc, hs⟩)
  exact (g_behind (rm := rm) (P' := P') N hx hZ hown hby hml hret hlk hnm hws X' hQ kt).pre fun t q => st'.trans q
theorem g_virtO (w : Wd p l e R s m args below meth c Z a0 n0 kb ws y bytes ml ret T L cells slots) {pc : Nat} {Ls : Array Slot} {st : List Value} {idx : Nat} {y' : MethodName} {bytes' : ByteArray} {ml' : Nat} {ret' : Option FieldType} {rm : Room} {P' : Option Value → HL → Prop} {ps : List FieldType} {rt : Option FieldType} {a : Addr} {Cn : String} {argsL rest : List Value}
    (C : Con l y' bytes' ml' ret' rm Z n0 (Value.ref a :: argsL).toArray L P') (hd : decode bytes pc = .ok (.invokevirtual idx, 3)) (EO : Exa Z Z.heap a Cn) (k1 : Nat) (hk1 : ws[k1]? = some (.methodLink y.cls idx y')) (k2 : Nat) (hk2 : ws[k2]? = some (.declares y')) (k3 : Nat) (hk3 : ws[k3]? = some (.initialized y'.cls)) (k4 : Nat) (hk4 : ws[k4]? = some (.code y' bytes' ml' ret'))
    (k5 : Nat) (hk5 : ws[k5]? = some (.selects Cn y' y')) (k6 : Nat) (hk6 : ws[k6]? = some (.instanceMethod y'))
    (hy : y'.cls ≠ "java/lang/invoke/MethodHandle" ∧ y'.cls ≠ "java/lang/invoke/VarHandle") (hpd : parseMethodDescriptor y'.desc = some ⟨ps, rt⟩) (hlen : argsL.length = ps.length) (hst : st = argsL.reverse ++ .ref a :: rest) (hsz : Ls.size = ml) (W : Nat) (hW : (rest.map fun v => v.category).sum = W) (hf : rm.frames + 1 ≤ R.frames) (hl : W + (ml' + 11) + rm.locals ≤ R.locals)
    (hc : cells + rm.cells ≤ R.cells) (hs : slots + rm.slots ≤ R.slots) (pc' : Nat) (hp : pc + 3 = pc')
    (kt : ∀ T' v L', Wd p l e R s m args below meth c Z a0 n0 kb ws y bytes ml ret T' L' (cells + rm.cells) (slots + rm.slots) → P' v L' → Go p e below Z n0 kg E P T' (mkF m pc' Ls (pushV v rest))) : Go p e below Z n0 kg E P T (mkF m pc Ls st) := by
  subst hp hst
  have hk1' := w.hw hk1
  have hk2' := w.hw hk2
  have hk3' := w.hw hk3
  have hk4' := w.hw hk4
  have hk5' := w.hw hk5
  have hk6' := w.hw hk6
  obtain ⟨⟨locs, X, N⟩, H, hx, hZ, hown, hby, hml, hret, hlk, hnm, hws⟩ := w
  obtain ⟨cq, kq, qa, qb, qc⟩ := isOf hZ rfl (EO.ext H.old)
  obtain ⟨v, vm₁, B, -, X', hQ, st'⟩ := X.virtualBack hx (y := y') (z := y') hown (mvT hZ hk1') (mvT hZ hk2') (notFace_of_selects (args := #[]) (mvT hZ hk5')) (mvT hZ hk5') (mvT hZ hk6') hy (Con.back C H hZ hk4' hk3' hf hl) qa qc (g := mkF m pc Ls (argsL.reverse ++ .ref a :: rest)) rfl (by rw [hml]; exact hsz) (Steps.refl _) (argsL := argsL) (rest := rest) (lenOf hpd hlen) rfl (by show 2 * 0 + _ ≤ _; rw [hW]; omega) (hb hby hd) (fun _ _ => ⟨rfl, rfl, hc, hs⟩)
  exact (g_behind (rm := rm) (P' := P') N hx hZ hown hby hml hret hlk hnm hws X' hQ kt).pre fun t q => st'.trans q
theorem g_priv (w : Wd p l e R s m args below meth c Z a0 n0 kb ws y bytes ml ret T L cells slots) {pc : Nat} {Ls : Array Slot} {st : List Value} {idx nI : Nat} {y' : MethodName} {bytes' : ByteArray} {ml' : Nat} {ret' : Option FieldType} {rm : Room} {P' : Option Value → HL → Prop} {ps : List FieldType} {rt : Option FieldType} {a : Addr} {Cn : String} {fs : List FldE} {argsL rest : List Value}
    (C : Con l y' bytes' ml' ret' rm Z n0 (Value.ref a :: argsL).toArray L P') (hd : decode bytes pc = .ok (.invokevirtual idx, 3)) (i : Nat) (hi : L[i]? = some (a, .inl (Cn, fs))) (k1 : Nat) (hk1 : ws[k1]? = some (.methodLink y.cls idx y')) (k2 : Nat) (hk2 : ws[k2]? = some (.instanceMethod y')) (k3 : Nat) (hk3 : ws[k3]? = some (.initialized y'.cls)) (k4 : Nat) (hk4 : ws[k4]? = some (.code y' bytes' ml' ret'))
    (k5 : Nat) (hk5 : ws[k5]? = some (.privateMethod y')) (k6 : Nat) (hk6 : ws[k6]? = some (.instantiable y'.cls nI))
    (hy : y'.cls ≠ "java/lang/invoke/MethodHandle" ∧ y'.cls ≠ "java/lang/invoke/VarHandle") (hpd : parseMethodDescriptor y'.desc = some ⟨ps, rt⟩) (hlen : argsL.length = ps.length) (hst : st = argsL.reverse ++ .ref a :: rest) (hsz : Ls.size = ml) (W : Nat) (hW : (rest.map fun v => v.category).sum = W) (hf : rm.frames + 1 ≤ R.frames) (hl : W + (ml' + 11) + rm.locals ≤ R.locals)
    (hc : cells + rm.cells ≤ R.cells) (hs : slots + rm.slots ≤ R.slots) (pc' : Nat) (hp : pc + 3 = pc')
    (kt : ∀ T' v L', Wd p l e R s m args below meth c Z a0 n0 kb ws y bytes ml ret T' L' (cells + rm.cells) (slots + rm.slots) → P' v L' → Go p e below Z n0 kg E P T' (mkF m pc' Ls (pushV v rest))) : Go p e below Z n0 kg E P T (mkF m pc Ls st) := by
  subst hp hst
  have hk1' := w.hw hk1
  have hk2' := w.hw hk2
  have hk3' := w.hw hk3
  have hk4' := w.hw hk4
  have hk5' := w.hw hk5
  have hk6' := w.hw hk6
  obtain ⟨⟨locs, X, N⟩, H, hx, hZ, hown, hby, hml, hret, hlk, hnm, hws⟩ := w
  obtain ⟨cl, hcl, hst0⟩ := (H.obj hi).1.cell
  have hpa : s.PrivateAt y' := Cond.privateMethod_at (mvP hZ hk5' (args := #[]))
  have hin : (Cond.instanceMethod y').before args s = true := mvT hZ hk2'
  have hic : (Cond.instantiable y'.cls nI).before args s = true := mvT hZ hk6'
  obtain ⟨cI, kI, i1, i2, i3, i4, -⟩ := Cond.instantiable_spec hic
  have hsel : (Cond.selects y'.cls y' y').before args s = true := selects_self_of_private i1 i2 (Bool.or_eq_false_iff.mp i4).1 hpa hin hy
  obtain ⟨v, vm₁, B, -, X', hQ, st'⟩ := X.privateBack hx (y := y') hown (mvT hZ hk1') hin hsel hpa (mvT hZ hk4') hy (Con.back C H hZ hk4' hk3' hf hl) (g := mkF m pc Ls (argsL.reverse ++ .ref a :: rest)) rfl (by rw [hml]; exact hsz) (Steps.refl _) (a := a) hcl hst0 (argsL := argsL) (rest := rest) (lenOf hpd hlen) rfl (by show 2 * 0 + _ ≤ _; rw [hW]; omega) (hb hby hd) (fun _ _ => ⟨rfl, rfl, hc, hs⟩)
  exact (g_behind (rm := rm) (P' := P') N hx hZ hown hby hml hret hlk hnm hws X' hQ kt).pre fun t q => st'.trans q
/-! ## from the case's words to the contract of the law -/
theorem fr_end {Lc : List Loc} {v : Option Value} {u : State} (N : Fr s.heap.size Lc) (hq : FrameEnd s (.returned v) u Lc kc ks) (L0 : List Loc) {kc' ks' : Nat} (h1 : kc ≤ kc') (h2 : ks ≤ ks') : FrameEnd s (.returned v) u L0 kc' ks' :=
  ⟨hq.1, hq.2.1, (hq.2.2.sift fun y hy => Or.inr (N y hy)).mono h1 h2⟩
end Walk
end Jvm.OwnW
namespace Jvm.Pilot.@@N@@
open Jvm Jvm.ClassFile Sem Op Lib Jvm.Free Jvm.Stand Jvm.LawKit Jvm.RoadKit Bundle Jvm.OwnW Jvm.Pilot.@@N@@.Jvm.D
def own_mix (q : Int64) : Int64 := (q * -4658895280553007687) ^^^ ushrL (q * -4658895280553007687) 31
def own_bits (m : Int32) : Int32 := ((((((m &&& 1) + ((m >>> ((1 : Int32) &&& 31)) &&& 1)) + ((m >>> ((2 : Int32) &&& 31)) &&& 1)) + ((m >>> ((3 : Int32) &&& 31)) &&& 1)) + ((m >>> ((4 : Int32) &&& 31)) &&& 1)) + ((m >>> ((5 : Int32) &&& 31)) &&& 1))
abbrev O_Diagrams (f0 : Value) (f1 : Value) (f2 : Value) (f3 : Value) (f4 : Value) : Obj := .inl ("com/example/chancebound/chancebound/network/Diagrams", [("com/example/chancebound/chancebound/network/Diagrams", "variables", "[I", f0), ("com/example/chancebound/chancebound/network/Diagrams", "lows", "[I", f1), ("com/example/chancebound/chancebound/network/Diagrams", "highs", "[I", f2), ("com/example/chancebound/chancebound/network/Diagrams", "unique", "[I", f3), ("com/example/chancebound/chancebound/network/Diagrams", "size", "I", f4)])
theorem d5_0 : decode prog_35_method_10_code 0 = .ok (.lload_n 0, 1) := by decide +kernel
theorem d5_1 : decode prog_35_method_10_code 1 = .ok (.ldc2_w 64, 3) := by decide +kernel
theorem d5_4 : decode prog_35_method_10_code 4 = .ok (.lmul, 1) := by decide +kernel
theorem d5_5 : decode prog_35_method_10_code 5 = .ok (.lstore_n 2, 1) := by decide +kernel
theorem d5_6 : decode prog_35_method_10_code 6 = .ok (.lload_n 2, 1) := by decide +kernel
theorem d5_7 : decode prog_35_method_10_code 7 = .ok (.lload_n 2, 1) := by decide +kernel
theorem d5_8 : decode prog_35_method_10_code 8 = .ok (.bipush 31, 2) := by decide +kernel
theorem d5_10 : decode prog_35_method_10_code 10 = .ok (.lushr, 1) := by decide +kernel
theorem d5_11 : decode prog_35_method_10_code 11 = .ok (.lxor, 1) := by decide +kernel
theorem d5_12 : decode prog_35_method_10_code 12 = .ok (.lreturn, 1) := by decide +kernel
theorem pn_5 : plainFor (⟨"com/example/chancebound/chancebound/network/Diagrams", "mix", "(J)J"⟩ : MethodName) = true := plainFor_of_name (by first | (simp [plainName, overriddenIn]; done) | decide +kernel)
set_option maxRecDepth 65536 in
set_option maxHeartbeats 40000000 in
theorem rm5 (l : Launch) (Z : State) (a0 : Array Value) (hw : ∀ d ∈ tables_1, d.before a0 Z = true) (n0 : Nat) (q : Int64) (L : HL)  :
    Con l (⟨"com/example/chancebound/chancebound/network/Diagrams", "mix", "(J)J"⟩ : MethodName) prog_35_method_10_code 4 (some .long) ({ frames := 0, cells := 0, slots := 0, locals := 0 } : Room) Z n0 #[(.long q)] L (fun v L' => v = some (.long (own_mix q)) ∧ L' = L) := by
  refine Con.of (ws := tables_1) (a0 := a0) pn_5 hw ?_
  intro p e s m below meth cde T kb w
  refine g_entry #[.val (.long q), .second, .unset, .unset] (by first | (simp [entryFrame, mkF, argsToLocals, Value.category]; done) | rfl) ?_
  refine g_lloadN w d5_0 rfl 1 rfl ?_
  refine g_ldcl w d5_1 34 rfl 4 rfl ?_
  refine g_lmul w d5_4 5 rfl ?_
  refine g_lstoreN w d5_5 6 rfl rfl #[.val (.long q), .second, .val (.long (q * (-4658895280553007687 : Int64))), .second] rfl ?_
  refine g_lloadN w d5_6 rfl 7 rfl ?_
  refine g_lloadN w d5_7 rfl 8 rfl ?_
  refine g_bipush w d5_8 (31 : Int32) rfl 10 rfl ?_
  refine g_lushr w d5_10 11 rfl ?_
  refine g_lxor w d5_11 12 rfl ?_
  exact g_lret w d5_12 (by decide) (by decide) ⟨rfl, rfl⟩
theorem d7_0 : decode method_2_code 0 = .ok (.iload_n 0, 1) := by decide +kernel
theorem d7_1 : decode method_2_code 1 = .ok (.iconst 1, 1) := by decide +kernel
theorem d7_2 : decode method_2_code 2 = .ok (.iand, 1) := by decide +kernel
theorem d7_3 : decode method_2_code 3 = .ok (.iload_n 0, 1) := by decide +kernel
theorem d7_4 : decode method_2_code 4 = .ok (.iconst 1, 1) := by decide +kernel
theorem d7_5 : decode method_2_code 5 = .ok (.ishr, 1) := by decide +kernel
theorem d7_6 : decode method_2_code 6 = .ok (.iconst 1, 1) := by decide +kernel
theorem d7_7 : decode method_2_code 7 = .ok (.iand, 1) := by decide +kernel
theorem d7_8 : decode method_2_code 8 = .ok (.iadd, 1) := by decide +kernel
theorem d7_9 : decode method_2_code 9 = .ok (.iload_n 0, 1) := by decide +kernel
theorem d7_10 : decode method_2_code 10 = .ok (.iconst 2, 1) := by decide +kernel
theorem d7_11 : decode method_2_code 11 = .ok (.ishr, 1) := by decide +kernel
theorem d7_12 : decode method_2_code 12 = .ok (.iconst 1, 1) := by decide +kernel
theorem d7_13 : decode method_2_code 13 = .ok (.iand, 1) := by decide +kernel
theorem d7_14 : decode method_2_code 14 = .ok (.iadd, 1) := by decide +kernel
theorem d7_15 : decode method_2_code 15 = .ok (.iload_n 0, 1) := by decide +kernel
theorem d7_16 : decode method_2_code 16 = .ok (.iconst 3, 1) := by decide +kernel
theorem d7_17 : decode method_2_code 17 = .ok (.ishr, 1) := by decide +kernel
theorem d7_18 : decode method_2_code 18 = .ok (.iconst 1, 1) := by decide +kernel
theorem d7_19 : decode method_2_code 19 = .ok (.iand, 1) := by decide +kernel
theorem d7_20 : decode method_2_code 20 = .ok (.iadd, 1) := by decide +kernel
theorem d7_21 : decode method_2_code 21 = .ok (.iload_n 0, 1) := by decide +kernel
theorem d7_22 : decode method_2_code 22 = .ok (.iconst 4, 1) := by decide +kernel
theorem d7_23 : decode method_2_code 23 = .ok (.ishr, 1) := by decide +kernel
theorem d7_24 : decode method_2_code 24 = .ok (.iconst 1, 1) := by decide +kernel
theorem d7_25 : decode method_2_code 25 = .ok (.iand, 1) := by decide +kernel
theorem d7_26 : decode method_2_code 26 = .ok (.iadd, 1) := by decide +kernel
theorem d7_27 : decode method_2_code 27 = .ok (.iload_n 0, 1) := by decide +kernel
theorem d7_28 : decode method_2_code 28 = .ok (.iconst 5, 1) := by decide +kernel
theorem d7_29 : decode method_2_code 29 = .ok (.ishr, 1) := by decide +kernel
theorem d7_30 : decode method_2_code 30 = .ok (.iconst 1, 1) := by decide +kernel
theorem d7_31 : decode method_2_code 31 = .ok (.iand, 1) := by decide +kernel
theorem d7_32 : decode method_2_code 32 = .ok (.iadd, 1) := by decide +kernel
theorem d7_33 : decode method_2_code 33 = .ok (.ireturn, 1) := by decide +kernel
theorem pn_7 : plainFor (⟨"com/example/chancebound/chancebound/network/DiagramsCountPinLaw", "bits6", "(I)I"⟩ : MethodName) = true := plainFor_of_name (by first | (simp [plainName, overriddenIn]; done) | decide +kernel)
set_option maxRecDepth 65536 in
set_option maxHeartbeats 40000000 in
theorem rm7 (l : Launch) (Z : State) (a0 : Array Value) (hw : ∀ d ∈ tables_1, d.before a0 Z = true) (n0 : Nat) (u : Int32) (L : HL)  :
    Con l (⟨"com/example/chancebound/chancebound/network/DiagramsCountPinLaw", "bits6", "(I)I"⟩ : MethodName) method_2_code 1 (some .int) ({ frames := 0, cells := 0, slots := 0, locals := 0 } : Room) Z n0 #[(.int u)] L (fun v L' => v = some (.int (own_bits u)) ∧ L' = L) := by
  refine Con.of (ws := tables_1) (a0 := a0) pn_7 hw ?_
  intro p e s m below meth cde T kb w
  refine g_entry #[.val (.int u)] (by first | (simp [entryFrame, mkF, argsToLocals, Value.category]; done) | rfl) ?_
  refine g_iloadN w d7_0 rfl 1 rfl ?_
  refine g_iconst w d7_1 (1 : Int32) rfl 2 rfl ?_
  refine g_iand w d7_2 3 rfl ?_
  refine g_iloadN w d7_3 rfl 4 rfl ?_
  refine g_iconst w d7_4 (1 : Int32) rfl 5 rfl ?_
  refine g_ishr w d7_5 6 rfl ?_
  refine g_iconst w d7_6 (1 : Int32) rfl 7 rfl ?_
  refine g_iand w d7_7 8 rfl ?_
  refine g_iadd w d7_8 9 rfl ?_
  refine g_iloadN w d7_9 rfl 10 rfl ?_
  refine g_iconst w d7_10 (2 : Int32) rfl 11 rfl ?_
  refine g_ishr w d7_11 12 rfl ?_
  refine g_iconst w d7_12 (1 : Int32) rfl 13 rfl ?_
  refine g_iand w d7_13 14 rfl ?_
  refine g_iadd w d7_14 15 rfl ?_
  refine g_iloadN w d7_15 rfl 16 rfl ?_
  refine g_iconst w d7_16 (3 : Int32) rfl 17 rfl ?_
  refine g_ishr w d7_17 18 rfl ?_
  refine g_iconst w d7_18 (1 : Int32) rfl 19 rfl ?_
  refine g_iand w d7_19 20 rfl ?_
  refine g_iadd w d7_20 21 rfl ?_
  refine g_iloadN w d7_21 rfl 22 rfl ?_
  refine g_iconst w d7_22 (4 : Int32) rfl 23 rfl ?_
  refine g_ishr w d7_23 24 rfl ?_
  refine g_iconst w d7_24 (1 : Int32) rfl 25 rfl ?_
  refine g_iand w d7_25 26 rfl ?_
  refine g_iadd w d7_26 27 rfl ?_
  refine g_iloadN w d7_27 rfl 28 rfl ?_
  refine g_iconst w d7_28 (5 : Int32) rfl 29 rfl ?_
  refine g_ishr w d7_29 30 rfl ?_
  refine g_iconst w d7_30 (1 : Int32) rfl 31 rfl ?_
  refine g_iand w d7_31 32 rfl ?_
  refine g_iadd w d7_32 33 rfl ?_
  exact g_ireti w d7_33 (by decide) (by decide) ⟨rfl, rfl⟩
def own_A0 : List Value := (List.replicate 64 (.int (0 : Int32))).set 0 (.int (2147483647 : Int32))
def own_A1 : List Value := own_A0.set 1 (.int (2147483647 : Int32))
theorem d1_0 : decode prog_35_method_1_code 0 = .ok (.aload_n 0, 1) := by decide +kernel
theorem d1_1 : decode prog_35_method_1_code 1 = .ok (.invokespecial 3, 3) := by decide +kernel
theorem d1_4 : decode prog_35_method_1_code 4 = .ok (.aload_n 0, 1) := by decide +kernel
theorem d1_5 : decode prog_35_method_1_code 5 = .ok (.bipush 64, 2) := by decide +kernel
theorem d1_7 : decode prog_35_method_1_code 7 = .ok (.newarray .int, 2) := by decide +kernel
theorem d1_9 : decode prog_35_method_1_code 9 = .ok (.putfield 9, 3) := by decide +kernel
theorem d1_12 : decode prog_35_method_1_code 12 = .ok (.aload_n 0, 1) := by decide +kernel
theorem d1_13 : decode prog_35_method_1_code 13 = .ok (.bipush 64, 2) := by decide +kernel
theorem d1_15 : decode prog_35_method_1_code 15 = .ok (.newarray .int, 2) := by decide +kernel
theorem d1_17 : decode prog_35_method_1_code 17 = .ok (.putfield 15, 3) := by decide +kernel
theorem d1_20 : decode prog_35_method_1_code 20 = .ok (.aload_n 0, 1) := by decide +kernel
theorem d1_21 : decode prog_35_method_1_code 21 = .ok (.bipush 64, 2) := by decide +kernel
theorem d1_23 : decode prog_35_method_1_code 23 = .ok (.newarray .int, 2) := by decide +kernel
theorem d1_25 : decode prog_35_method_1_code 25 = .ok (.putfield 18, 3) := by decide +kernel
theorem d1_28 : decode prog_35_method_1_code 28 = .ok (.aload_n 0, 1) := by decide +kernel
theorem d1_29 : decode prog_35_method_1_code 29 = .ok (.bipush 64, 2) := by decide +kernel
theorem d1_31 : decode prog_35_method_1_code 31 = .ok (.newarray .int, 2) := by decide +kernel
theorem d1_33 : decode prog_35_method_1_code 33 = .ok (.putfield 21, 3) := by decide +kernel
theorem d1_36 : decode prog_35_method_1_code 36 = .ok (.aload_n 0, 1) := by decide +kernel
theorem d1_37 : decode prog_35_method_1_code 37 = .ok (.getfield 9, 3) := by decide +kernel
theorem d1_40 : decode prog_35_method_1_code 40 = .ok (.iconst 0, 1) := by decide +kernel
theorem d1_41 : decode prog_35_method_1_code 41 = .ok (.ldc 24, 2) := by decide +kernel
theorem d1_43 : decode prog_35_method_1_code 43 = .ok (.iastore, 1) := by decide +kernel
theorem d1_44 : decode prog_35_method_1_code 44 = .ok (.aload_n 0, 1) := by decide +kernel
theorem d1_45 : decode prog_35_method_1_code 45 = .ok (.getfield 9, 3) := by decide +kernel
theorem d1_48 : decode prog_35_method_1_code 48 = .ok (.iconst 1, 1) := by decide +kernel
theorem d1_49 : decode prog_35_method_1_code 49 = .ok (.ldc 24, 2) := by decide +kernel
theorem d1_51 : decode prog_35_method_1_code 51 = .ok (.iastore, 1) := by decide +kernel
theorem d1_52 : decode prog_35_method_1_code 52 = .ok (.aload_n 0, 1) := by decide +kernel
theorem d1_53 : decode prog_35_method_1_code 53 = .ok (.iconst 2, 1) := by decide +kernel
theorem d1_54 : decode prog_35_method_1_code 54 = .ok (.putfield 25, 3) := by decide +kernel
theorem d1_57 : decode prog_35_method_1_code 57 = .ok (.return_, 1) := by decide +kernel
theorem pn_1 : plainFor (⟨"com/example/chancebound/chancebound/network/Diagrams", "<init>", "()V"⟩ : MethodName) = true := plainFor_of_name (by first | (simp [plainName, overriddenIn]; done) | decide +kernel)
set_option maxRecDepth 65536 in
set_option maxHeartbeats 40000000 in
theorem rm1 (l : Launch) (Z : State) (a0 : Array Value) (hw : ∀ d ∈ tables_1, d.before a0 Z = true) (n0 : Nat) (d : Addr)  :
    Con l (⟨"com/example/chancebound/chancebound/network/Diagrams", "<init>", "()V"⟩ : MethodName) prog_35_method_1_code 1 none ({ frames := 1, cells := 4, slots := 256, locals := 12 } : Room) Z n0 #[(.ref d)] ([(d, O_Diagrams .null .null .null .null (.int (0 : Int32)))]) (fun v L' => v = none ∧ ∃ aV aL aH aU, L' = [(d, O_Diagrams (.ref aV) (.ref aL) (.ref aH) (.ref aU) (.int (2 : Int32))), (aV, .inr (.int, own_A1)), (aL, .inr (.int, (List.replicate 64 (.int (0 : Int32))))), (aH, .inr (.int, (List.replicate 64 (.int (0 : Int32))))), (aU, .inr (.int, (List.replicate 64 (.int (0 : Int32)))))]) := by
  refine Con.of (ws := tables_1) (a0 := a0) pn_1 hw ?_
  intro p e s m below meth cde T kb w
  refine g_entry #[.val (.ref d)] (by first | (simp [entryFrame, mkF, argsToLocals, Value.category]; done) | rfl) ?_
  refine g_aloadN w d1_0 rfl rfl 1 rfl ?_
  refine g_initO w d1_1 6 rfl 7 rfl 8 rfl rfl (by decide) 0 rfl (by decide) 4 rfl (fun T w => ?_)
  refine g_aloadN w d1_4 rfl rfl 5 rfl ?_
  refine g_bipush w d1_5 (64 : Int32) rfl 7 rfl ?_
  refine g_newarr w d1_7 9 rfl 64 64 (by decide) (by decide) (by decide) (List.replicate 64 (.int (0 : Int32))) rfl (by decide) (by decide) 9 rfl (fun T b1 w => ?_)
  replace w := w.to (L' := [(d, O_Diagrams .null .null .null .null (.int (0 : Int32))), (b1, .inr (.int, (List.replicate 64 (.int (0 : Int32)))))]) rfl
  refine g_putf w d1_9 0 rfl 0 rfl 10 rfl Via.refl 11 (Or.inl rfl) 1 rfl (ty := (.array .int)) (by decide) rfl rfl 12 rfl (fun T w => ?_)
  replace w := w.to (L' := [(d, O_Diagrams (.ref b1) .null .null .null (.int (0 : Int32))), (b1, .inr (.int, (List.replicate 64 (.int (0 : Int32)))))]) rfl
  refine g_aloadN w d1_12 rfl rfl 13 rfl ?_
  refine g_bipush w d1_13 (64 : Int32) rfl 15 rfl ?_
  refine g_newarr w d1_15 9 rfl 64 64 (by decide) (by decide) (by decide) (List.replicate 64 (.int (0 : Int32))) rfl (by decide) (by decide) 17 rfl (fun T b2 w => ?_)
  replace w := w.to (L' := [(d, O_Diagrams (.ref b1) .null .null .null (.int (0 : Int32))), (b1, .inr (.int, (List.replicate 64 (.int (0 : Int32))))), (b2, .inr (.int, (List.replicate 64 (.int (0 : Int32)))))]) rfl
  refine g_putf w d1_17 0 rfl 1 rfl 12 rfl Via.refl 13 (Or.inl rfl) 1 rfl (ty := (.array .int)) (by decide) rfl rfl 20 rfl (fun T w => ?_)
  replace w := w.to (L' := [(d, O_Diagrams (.ref b1) (.ref b2) .null .null (.int (0 : Int32))), (b1, .inr (.int, (List.replicate 64 (.int (0 : Int32))))), (b2, .inr (.int, (List.replicate 64 (.int (0 : Int32)))))]) rfl
  refine g_aloadN w d1_20 rfl rfl 21 rfl ?_
  refine g_bipush w d1_21 (64 : Int32) rfl 23 rfl ?_
  refine g_newarr w d1_23 9 rfl 64 64 (by decide) (by decide) (by decide) (List.replicate 64 (.int (0 : Int32))) rfl (by decide) (by decide) 25 rfl (fun T b3 w => ?_)
  replace w := w.to (L' := [(d, O_Diagrams (.ref b1) (.ref b2) .null .null (.int (0 : Int32))), (b1, .inr (.int, (List.replicate 64 (.int (0 : Int32))))), (b2, .inr (.int, (List.replicate 64 (.int (0 : Int32))))), (b3, .inr (.int, (List.replicate 64 (.int (0 : Int32)))))]) rfl
  refine g_putf w d1_25 0 rfl 2 rfl 14 rfl Via.refl 15 (Or.inl rfl) 1 rfl (ty := (.array .int)) (by decide) rfl rfl 28 rfl (fun T w => ?_)
  replace w := w.to (L' := [(d, O_Diagrams (.ref b1) (.ref b2) (.ref b3) .null (.int (0 : Int32))), (b1, .inr (.int, (List.replicate 64 (.int (0 : Int32))))), (b2, .inr (.int, (List.replicate 64 (.int (0 : Int32))))), (b3, .inr (.int, (List.replicate 64 (.int (0 : Int32)))))]) rfl
  refine g_aloadN w d1_28 rfl rfl 29 rfl ?_
  refine g_bipush w d1_29 (64 : Int32) rfl 31 rfl ?_
  refine g_newarr w d1_31 9 rfl 64 64 (by decide) (by decide) (by decide) (List.replicate 64 (.int (0 : Int32))) rfl (by decide) (by decide) 33 rfl (fun T b4 w => ?_)
  replace w := w.to (L' := [(d, O_Diagrams (.ref b1) (.ref b2) (.ref b3) .null (.int (0 : Int32))), (b1, .inr (.int, (List.replicate 64 (.int (0 : Int32))))), (b2, .inr (.int, (List.replicate 64 (.int (0 : Int32))))), (b3, .inr (.int, (List.replicate 64 (.int (0 : Int32))))), (b4, .inr (.int, (List.replicate 64 (.int (0 : Int32)))))]) rfl
  refine g_putf w d1_33 0 rfl 3 rfl 16 rfl Via.refl 17 (Or.inl rfl) 1 rfl (ty := (.array .int)) (by decide) rfl rfl 36 rfl (fun T w => ?_)
  replace w := w.to (L' := [(d, O_Diagrams (.ref b1) (.ref b2) (.ref b3) (.ref b4) (.int (0 : Int32))), (b1, .inr (.int, (List.replicate 64 (.int (0 : Int32))))), (b2, .inr (.int, (List.replicate 64 (.int (0 : Int32))))), (b3, .inr (.int, (List.replicate 64 (.int (0 : Int32))))), (b4, .inr (.int, (List.replicate 64 (.int (0 : Int32)))))]) rfl
  refine g_aloadN w d1_36 rfl rfl 37 rfl ?_
  refine g_getf w d1_37 0 rfl 0 rfl 10 rfl Via.refl 40 rfl (fun T w => ?_)
  refine g_iconst w d1_40 (0 : Int32) rfl 41 rfl ?_
  refine g_ldci w d1_41 18 rfl 43 rfl ?_
  refine g_iastore w d1_43 1 rfl 0 (by decide) (Nat.le_of_ble_eq_true rfl) (.int (2147483647 : Int32)) rfl 44 rfl (fun T w => ?_)
  replace w := w.to (L' := [(d, O_Diagrams (.ref b1) (.ref b2) (.ref b3) (.ref b4) (.int (0 : Int32))), (b1, .inr (.int, own_A0)), (b2, .inr (.int, (List.replicate 64 (.int (0 : Int32))))), (b3, .inr (.int, (List.replicate 64 (.int (0 : Int32))))), (b4, .inr (.int, (List.replicate 64 (.int (0 : Int32)))))]) rfl
  refine g_aloadN w d1_44 rfl rfl 45 rfl ?_
  refine g_getf w d1_45 0 rfl 0 rfl 10 rfl Via.refl 48 rfl (fun T w => ?_)
  refine g_iconst w d1_48 (1 : Int32) rfl 49 rfl ?_
  refine g_ldci w d1_49 18 rfl 51 rfl ?_
  refine g_iastore w d1_51 1 rfl 1 (by decide) (Nat.le_of_ble_eq_true rfl) (.int (2147483647 : Int32)) rfl 52 rfl (fun T w => ?_)
  replace w := w.to (L' := [(d, O_Diagrams (.ref b1) (.ref b2) (.ref b3) (.ref b4) (.int (0 : Int32))), (b1, .inr (.int, own_A1)), (b2, .inr (.int, (List.replicate 64 (.int (0 : Int32))))), (b3, .inr (.int, (List.replicate 64 (.int (0 : Int32))))), (b4, .inr (.int, (List.replicate 64 (.int (0 : Int32)))))]) rfl
  refine g_aloadN w d1_52 rfl rfl 53 rfl ?_
  refine g_iconst w d1_53 (2 : Int32) rfl 54 rfl ?_
  refine g_putf w d1_54 0 rfl 4 rfl 19 rfl Via.refl 20 (Or.inl rfl) 1 rfl (ty := .int) (by decide) rfl rfl 57 rfl (fun T w => ?_)
  replace w := w.to (L' := [(d, O_Diagrams (.ref b1) (.ref b2) (.ref b3) (.ref b4) (.int (2 : Int32))), (b1, .inr (.int, own_A1)), (b2, .inr (.int, (List.replicate 64 (.int (0 : Int32))))), (b3, .inr (.int, (List.replicate 64 (.int (0 : Int32))))), (b4, .inr (.int, (List.replicate 64 (.int (0 : Int32)))))]) rfl
  exact g_ret w d1_57 (by decide) (by decide) ⟨rfl, b1, b2, b3, b4, rfl⟩
theorem d4_0 : decode prog_35_method_8_code 0 = .ok (.aload_n 0, 1) := by decide +kernel
theorem d4_1 : decode prog_35_method_8_code 1 = .ok (.getfield 21, 3) := by decide +kernel
theorem d4_4 : decode prog_35_method_8_code 4 = .ok (.arraylength, 1) := by decide +kernel
theorem d4_5 : decode prog_35_method_8_code 5 = .ok (.iconst 1, 1) := by decide +kernel
theorem d4_6 : decode prog_35_method_8_code 6 = .ok (.isub, 1) := by decide +kernel
theorem d4_7 : decode prog_35_method_8_code 7 = .ok (.istore 4, 2) := by decide +kernel
theorem d4_9 : decode prog_35_method_8_code 9 = .ok (.iload_n 1, 1) := by decide +kernel
theorem d4_10 : decode prog_35_method_8_code 10 = .ok (.i2l, 1) := by decide +kernel
theorem d4_11 : decode prog_35_method_8_code 11 = .ok (.bipush 32, 2) := by decide +kernel
theorem d4_13 : decode prog_35_method_8_code 13 = .ok (.lshl, 1) := by decide +kernel
theorem d4_14 : decode prog_35_method_8_code 14 = .ok (.iload_n 2, 1) := by decide +kernel
theorem d4_15 : decode prog_35_method_8_code 15 = .ok (.i2l, 1) := by decide +kernel
theorem d4_16 : decode prog_35_method_8_code 16 = .ok (.lor, 1) := by decide +kernel
theorem d4_17 : decode prog_35_method_8_code 17 = .ok (.ldc2_w 46, 3) := by decide +kernel
theorem d4_20 : decode prog_35_method_8_code 20 = .ok (.lmul, 1) := by decide +kernel
theorem d4_21 : decode prog_35_method_8_code 21 = .ok (.iload_n 3, 1) := by decide +kernel
theorem d4_22 : decode prog_35_method_8_code 22 = .ok (.i2l, 1) := by decide +kernel
theorem d4_23 : decode prog_35_method_8_code 23 = .ok (.ladd, 1) := by decide +kernel
theorem d4_24 : decode prog_35_method_8_code 24 = .ok (.invokestatic 48, 3) := by decide +kernel
theorem d4_27 : decode prog_35_method_8_code 27 = .ok (.iload 4, 2) := by decide +kernel
theorem d4_29 : decode prog_35_method_8_code 29 = .ok (.i2l, 1) := by decide +kernel
theorem d4_30 : decode prog_35_method_8_code 30 = .ok (.land, 1) := by decide +kernel
theorem d4_31 : decode prog_35_method_8_code 31 = .ok (.l2i, 1) := by decide +kernel
theorem d4_32 : decode prog_35_method_8_code 32 = .ok (.istore 5, 2) := by decide +kernel
theorem d4_34 : decode prog_35_method_8_code 34 = .ok (.aload_n 0, 1) := by decide +kernel
theorem d4_35 : decode prog_35_method_8_code 35 = .ok (.getfield 21, 3) := by decide +kernel
theorem d4_38 : decode prog_35_method_8_code 38 = .ok (.iload 5, 2) := by decide +kernel
theorem d4_40 : decode prog_35_method_8_code 40 = .ok (.iaload, 1) := by decide +kernel
theorem d4_41 : decode prog_35_method_8_code 41 = .ok (.ifCond .eq 63, 3) := by decide +kernel
theorem d4_44 : decode prog_35_method_8_code 44 = .ok (.aload_n 0, 1) := by decide +kernel
theorem d4_45 : decode prog_35_method_8_code 45 = .ok (.getfield 9, 3) := by decide +kernel
theorem d4_48 : decode prog_35_method_8_code 48 = .ok (.aload_n 0, 1) := by decide +kernel
theorem d4_49 : decode prog_35_method_8_code 49 = .ok (.getfield 21, 3) := by decide +kernel
theorem d4_52 : decode prog_35_method_8_code 52 = .ok (.iload 5, 2) := by decide +kernel
theorem d4_54 : decode prog_35_method_8_code 54 = .ok (.iaload, 1) := by decide +kernel
theorem d4_55 : decode prog_35_method_8_code 55 = .ok (.iaload, 1) := by decide +kernel
theorem d4_56 : decode prog_35_method_8_code 56 = .ok (.iload_n 1, 1) := by decide +kernel
theorem d4_57 : decode prog_35_method_8_code 57 = .ok (.if_icmp .ne 35, 3) := by decide +kernel
theorem d4_60 : decode prog_35_method_8_code 60 = .ok (.aload_n 0, 1) := by decide +kernel
theorem d4_61 : decode prog_35_method_8_code 61 = .ok (.getfield 15, 3) := by decide +kernel
theorem d4_64 : decode prog_35_method_8_code 64 = .ok (.aload_n 0, 1) := by decide +kernel
theorem d4_65 : decode prog_35_method_8_code 65 = .ok (.getfield 21, 3) := by decide +kernel
theorem d4_68 : decode prog_35_method_8_code 68 = .ok (.iload 5, 2) := by decide +kernel
theorem d4_70 : decode prog_35_method_8_code 70 = .ok (.iaload, 1) := by decide +kernel
theorem d4_71 : decode prog_35_method_8_code 71 = .ok (.iaload, 1) := by decide +kernel
theorem d4_72 : decode prog_35_method_8_code 72 = .ok (.iload_n 2, 1) := by decide +kernel
theorem d4_73 : decode prog_35_method_8_code 73 = .ok (.if_icmp .ne 19, 3) := by decide +kernel
theorem d4_76 : decode prog_35_method_8_code 76 = .ok (.aload_n 0, 1) := by decide +kernel
theorem d4_77 : decode prog_35_method_8_code 77 = .ok (.getfield 18, 3) := by decide +kernel
theorem d4_80 : decode prog_35_method_8_code 80 = .ok (.aload_n 0, 1) := by decide +kernel
theorem d4_81 : decode prog_35_method_8_code 81 = .ok (.getfield 21, 3) := by decide +kernel
theorem d4_84 : decode prog_35_method_8_code 84 = .ok (.iload 5, 2) := by decide +kernel
theorem d4_86 : decode prog_35_method_8_code 86 = .ok (.iaload, 1) := by decide +kernel
theorem d4_87 : decode prog_35_method_8_code 87 = .ok (.iaload, 1) := by decide +kernel
theorem d4_88 : decode prog_35_method_8_code 88 = .ok (.iload_n 3, 1) := by decide +kernel
theorem d4_89 : decode prog_35_method_8_code 89 = .ok (.if_icmp .eq 15, 3) := by decide +kernel
theorem d4_92 : decode prog_35_method_8_code 92 = .ok (.iload 5, 2) := by decide +kernel
theorem d4_94 : decode prog_35_method_8_code 94 = .ok (.iconst 1, 1) := by decide +kernel
theorem d4_95 : decode prog_35_method_8_code 95 = .ok (.iadd, 1) := by decide +kernel
theorem d4_96 : decode prog_35_method_8_code 96 = .ok (.iload 4, 2) := by decide +kernel
theorem d4_98 : decode prog_35_method_8_code 98 = .ok (.iand, 1) := by decide +kernel
theorem d4_99 : decode prog_35_method_8_code 99 = .ok (.istore 5, 2) := by decide +kernel
theorem d4_101 : decode prog_35_method_8_code 101 = .ok (.goto (-67), 3) := by decide +kernel
theorem d4_104 : decode prog_35_method_8_code 104 = .ok (.iload 5, 2) := by decide +kernel
theorem d4_106 : decode prog_35_method_8_code 106 = .ok (.ireturn, 1) := by decide +kernel
theorem pn_4 : plainFor (⟨"com/example/chancebound/chancebound/network/Diagrams", "slot", "(III)I"⟩ : MethodName) = true := plainFor_of_name (by first | (simp [plainName, overriddenIn]; done) | decide +kernel)
theorem d3_0 : decode prog_35_method_7_code 0 = .ok (.iload_n 2, 1) := by decide +kernel
theorem d3_1 : decode prog_35_method_7_code 1 = .ok (.ifCond .lt 23, 3) := by decide +kernel
theorem d3_4 : decode prog_35_method_7_code 4 = .ok (.iload_n 2, 1) := by decide +kernel
theorem d3_5 : decode prog_35_method_7_code 5 = .ok (.aload_n 0, 1) := by decide +kernel
theorem d3_6 : decode prog_35_method_7_code 6 = .ok (.getfield 25, 3) := by decide +kernel
theorem d3_9 : decode prog_35_method_7_code 9 = .ok (.if_icmp .ge 15, 3) := by decide +kernel
theorem d3_12 : decode prog_35_method_7_code 12 = .ok (.iload_n 3, 1) := by decide +kernel
theorem d3_13 : decode prog_35_method_7_code 13 = .ok (.ifCond .lt 11, 3) := by decide +kernel
theorem d3_16 : decode prog_35_method_7_code 16 = .ok (.iload_n 3, 1) := by decide +kernel
theorem d3_17 : decode prog_35_method_7_code 17 = .ok (.aload_n 0, 1) := by decide +kernel
theorem d3_18 : decode prog_35_method_7_code 18 = .ok (.getfield 25, 3) := by decide +kernel
theorem d3_21 : decode prog_35_method_7_code 21 = .ok (.if_icmp .lt 33, 3) := by decide +kernel
theorem d3_24 : decode prog_35_method_7_code 24 = .ok (.new 29, 3) := by decide +kernel
theorem d3_27 : decode prog_35_method_7_code 27 = .ok (.dup, 1) := by decide +kernel
theorem d3_28 : decode prog_35_method_7_code 28 = .ok (.iload_n 2, 1) := by decide +kernel
theorem d3_29 : decode prog_35_method_7_code 29 = .ok (.ifCond .lt 11, 3) := by decide +kernel
theorem d3_32 : decode prog_35_method_7_code 32 = .ok (.iload_n 2, 1) := by decide +kernel
theorem d3_33 : decode prog_35_method_7_code 33 = .ok (.aload_n 0, 1) := by decide +kernel
theorem d3_34 : decode prog_35_method_7_code 34 = .ok (.getfield 25, 3) := by decide +kernel
theorem d3_37 : decode prog_35_method_7_code 37 = .ok (.if_icmp .lt 7, 3) := by decide +kernel
theorem d3_40 : decode prog_35_method_7_code 40 = .ok (.iload_n 2, 1) := by decide +kernel
theorem d3_41 : decode prog_35_method_7_code 41 = .ok (.goto 4, 3) := by decide +kernel
theorem d3_44 : decode prog_35_method_7_code 44 = .ok (.iload_n 3, 1) := by decide +kernel
theorem d3_50 : decode prog_35_method_7_code 50 = .ok (.invokespecial 35, 3) := by decide +kernel
theorem d3_53 : decode prog_35_method_7_code 53 = .ok (.athrow, 1) := by decide +kernel
theorem d3_54 : decode prog_35_method_7_code 54 = .ok (.iload_n 1, 1) := by decide +kernel
theorem d3_55 : decode prog_35_method_7_code 55 = .ok (.ifCond .lt 23, 3) := by decide +kernel
theorem d3_58 : decode prog_35_method_7_code 58 = .ok (.iload_n 1, 1) := by decide +kernel
theorem d3_59 : decode prog_35_method_7_code 59 = .ok (.aload_n 0, 1) := by decide +kernel
theorem d3_60 : decode prog_35_method_7_code 60 = .ok (.getfield 9, 3) := by decide +kernel
theorem d3_63 : decode prog_35_method_7_code 63 = .ok (.iload_n 2, 1) := by decide +kernel
theorem d3_64 : decode prog_35_method_7_code 64 = .ok (.iaload, 1) := by decide +kernel
theorem d3_65 : decode prog_35_method_7_code 65 = .ok (.if_icmp .ge 13, 3) := by decide +kernel
theorem d3_68 : decode prog_35_method_7_code 68 = .ok (.iload_n 1, 1) := by decide +kernel
theorem d3_69 : decode prog_35_method_7_code 69 = .ok (.aload_n 0, 1) := by decide +kernel
theorem d3_70 : decode prog_35_method_7_code 70 = .ok (.getfield 9, 3) := by decide +kernel
theorem d3_73 : decode prog_35_method_7_code 73 = .ok (.iload_n 3, 1) := by decide +kernel
theorem d3_74 : decode prog_35_method_7_code 74 = .ok (.iaload, 1) := by decide +kernel
theorem d3_75 : decode prog_35_method_7_code 75 = .ok (.if_icmp .lt 17, 3) := by decide +kernel
theorem d3_78 : decode prog_35_method_7_code 78 = .ok (.new 29, 3) := by decide +kernel
theorem d3_81 : decode prog_35_method_7_code 81 = .ok (.dup, 1) := by decide +kernel
theorem d3_82 : decode prog_35_method_7_code 82 = .ok (.iload_n 1, 1) := by decide +kernel
theorem d3_88 : decode prog_35_method_7_code 88 = .ok (.invokespecial 35, 3) := by decide +kernel
theorem d3_91 : decode prog_35_method_7_code 91 = .ok (.athrow, 1) := by decide +kernel
theorem d3_92 : decode prog_35_method_7_code 92 = .ok (.iload_n 2, 1) := by decide +kernel
theorem d3_93 : decode prog_35_method_7_code 93 = .ok (.iload_n 3, 1) := by decide +kernel
theorem d3_94 : decode prog_35_method_7_code 94 = .ok (.if_icmp .ne 9, 3) := by decide +kernel
theorem d3_97 : decode prog_35_method_7_code 97 = .ok (.iload_n 2, 1) := by decide +kernel
theorem d3_98 : decode prog_35_method_7_code 98 = .ok (.istore 4, 2) := by decide +kernel
theorem d3_100 : decode prog_35_method_7_code 100 = .ok (.goto 98, 3) := by decide +kernel
theorem d3_103 : decode prog_35_method_7_code 103 = .ok (.aload_n 0, 1) := by decide +kernel
theorem d3_104 : decode prog_35_method_7_code 104 = .ok (.getfield 25, 3) := by decide +kernel
theorem d3_107 : decode prog_35_method_7_code 107 = .ok (.aload_n 0, 1) := by decide +kernel
theorem d3_108 : decode prog_35_method_7_code 108 = .ok (.getfield 9, 3) := by decide +kernel
theorem d3_111 : decode prog_35_method_7_code 111 = .ok (.arraylength, 1) := by decide +kernel
theorem d3_112 : decode prog_35_method_7_code 112 = .ok (.if_icmp .ne 7, 3) := by decide +kernel
theorem d3_115 : decode prog_35_method_7_code 115 = .ok (.aload_n 0, 1) := by decide +kernel
theorem d3_116 : decode prog_35_method_7_code 116 = .ok (.invokevirtual 39, 3) := by decide +kernel
theorem d3_119 : decode prog_35_method_7_code 119 = .ok (.aload_n 0, 1) := by decide +kernel
theorem d3_120 : decode prog_35_method_7_code 120 = .ok (.iload_n 1, 1) := by decide +kernel
theorem d3_121 : decode prog_35_method_7_code 121 = .ok (.iload_n 2, 1) := by decide +kernel
theorem d3_122 : decode prog_35_method_7_code 122 = .ok (.iload_n 3, 1) := by decide +kernel
theorem d3_123 : decode prog_35_method_7_code 123 = .ok (.invokevirtual 42, 3) := by decide +kernel
theorem d3_126 : decode prog_35_method_7_code 126 = .ok (.istore 5, 2) := by decide +kernel
theorem d3_128 : decode prog_35_method_7_code 128 = .ok (.aload_n 0, 1) := by decide +kernel
theorem d3_129 : decode prog_35_method_7_code 129 = .ok (.getfield 21, 3) := by decide +kernel
theorem d3_132 : decode prog_35_method_7_code 132 = .ok (.iload 5, 2) := by decide +kernel
theorem d3_134 : decode prog_35_method_7_code 134 = .ok (.iaload, 1) := by decide +kernel
theorem d3_135 : decode prog_35_method_7_code 135 = .ok (.ifCond .ne 54, 3) := by decide +kernel
theorem d3_138 : decode prog_35_method_7_code 138 = .ok (.aload_n 0, 1) := by decide +kernel
theorem d3_139 : decode prog_35_method_7_code 139 = .ok (.getfield 9, 3) := by decide +kernel
theorem d3_142 : decode prog_35_method_7_code 142 = .ok (.aload_n 0, 1) := by decide +kernel
theorem d3_143 : decode prog_35_method_7_code 143 = .ok (.getfield 25, 3) := by decide +kernel
theorem d3_146 : decode prog_35_method_7_code 146 = .ok (.iload_n 1, 1) := by decide +kernel
theorem d3_147 : decode prog_35_method_7_code 147 = .ok (.iastore, 1) := by decide +kernel
theorem d3_148 : decode prog_35_method_7_code 148 = .ok (.aload_n 0, 1) := by decide +kernel
theorem d3_149 : decode prog_35_method_7_code 149 = .ok (.getfield 15, 3) := by decide +kernel
theorem d3_152 : decode prog_35_method_7_code 152 = .ok (.aload_n 0, 1) := by decide +kernel
theorem d3_153 : decode prog_35_method_7_code 153 = .ok (.getfield 25, 3) := by decide +kernel
theorem d3_156 : decode prog_35_method_7_code 156 = .ok (.iload_n 2, 1) := by decide +kernel
theorem d3_157 : decode prog_35_method_7_code 157 = .ok (.iastore, 1) := by decide +kernel
theorem d3_158 : decode prog_35_method_7_code 158 = .ok (.aload_n 0, 1) := by decide +kernel
theorem d3_159 : decode prog_35_method_7_code 159 = .ok (.getfield 18, 3) := by decide +kernel
theorem d3_162 : decode prog_35_method_7_code 162 = .ok (.aload_n 0, 1) := by decide +kernel
theorem d3_163 : decode prog_35_method_7_code 163 = .ok (.getfield 25, 3) := by decide +kernel
theorem d3_166 : decode prog_35_method_7_code 166 = .ok (.iload_n 3, 1) := by decide +kernel
theorem d3_167 : decode prog_35_method_7_code 167 = .ok (.iastore, 1) := by decide +kernel
theorem d3_168 : decode prog_35_method_7_code 168 = .ok (.aload_n 0, 1) := by decide +kernel
theorem d3_169 : decode prog_35_method_7_code 169 = .ok (.getfield 21, 3) := by decide +kernel
theorem d3_172 : decode prog_35_method_7_code 172 = .ok (.iload 5, 2) := by decide +kernel
theorem d3_174 : decode prog_35_method_7_code 174 = .ok (.aload_n 0, 1) := by decide +kernel
theorem d3_175 : decode prog_35_method_7_code 175 = .ok (.getfield 25, 3) := by decide +kernel
theorem d3_178 : decode prog_35_method_7_code 178 = .ok (.iastore, 1) := by decide +kernel
theorem d3_179 : decode prog_35_method_7_code 179 = .ok (.aload_n 0, 1) := by decide +kernel
theorem d3_180 : decode prog_35_method_7_code 180 = .ok (.dup, 1) := by decide +kernel
theorem d3_181 : decode prog_35_method_7_code 181 = .ok (.getfield 25, 3) := by decide +kernel
theorem d3_184 : decode prog_35_method_7_code 184 = .ok (.iconst 1, 1) := by decide +kernel
theorem d3_185 : decode prog_35_method_7_code 185 = .ok (.iadd, 1) := by decide +kernel
theorem d3_186 : decode prog_35_method_7_code 186 = .ok (.putfield 25, 3) := by decide +kernel
theorem d3_189 : decode prog_35_method_7_code 189 = .ok (.aload_n 0, 1) := by decide +kernel
theorem d3_190 : decode prog_35_method_7_code 190 = .ok (.getfield 21, 3) := by decide +kernel
theorem d3_193 : decode prog_35_method_7_code 193 = .ok (.iload 5, 2) := by decide +kernel
theorem d3_195 : decode prog_35_method_7_code 195 = .ok (.iaload, 1) := by decide +kernel
theorem d3_196 : decode prog_35_method_7_code 196 = .ok (.istore 4, 2) := by decide +kernel
theorem d3_198 : decode prog_35_method_7_code 198 = .ok (.iload 4, 2) := by decide +kernel
theorem d3_200 : decode prog_35_method_7_code 200 = .ok (.ireturn, 1) := by decide +kernel
theorem pn_3 : plainFor (⟨"com/example/chancebound/chancebound/network/Diagrams", "node", "(III)I"⟩ : MethodName) = true := plainFor_of_name (by first | (simp [plainName, overriddenIn]; done) | decide +kernel)
theorem pd_0 : parseMethodDescriptor "(J)J" = some ⟨[.long], some .long⟩ := by decide +kernel
set_option maxRecDepth 65536 in
set_option maxHeartbeats 40000000 in
theorem rmS_0 (l : Launch) (Z : State) (a0 : Array Value) (hw : ∀ d ∈ tables_1, d.before a0 Z = true) (n0 : Nat) (d aV aL aH aU : Addr)  :
    Con l (⟨"com/example/chancebound/chancebound/network/Diagrams", "slot", "(III)I"⟩ : MethodName) prog_35_method_8_code 6 (some .int) ({ frames := 1, cells := 0, slots := 0, locals := 15 } : Room) Z n0 #[(.ref d), (.int (2 : Int32)), (.int (0 : Int32)), (.int (1 : Int32))] ([(d, O_Diagrams (.ref aV) (.ref aL) (.ref aH) (.ref aU) (.int (2 : Int32))), (aV, .inr (.int, own_A1)), (aL, .inr (.int, (List.replicate 64 (.int (0 : Int32))))), (aH, .inr (.int, (List.replicate 64 (.int (0 : Int32))))), (aU, .inr (.int, (List.replicate 64 (.int (0 : Int32)))))]) (fun v L' => v = some (.int (55 : Int32)) ∧ L' = [(d, O_Diagrams (.ref aV) (.ref aL) (.ref aH) (.ref aU) (.int (2 : Int32))), (aV, .inr (.int, own_A1)), (aL, .inr (.int, (List.replicate 64 (.int (0 : Int32))))), (aH, .inr (.int, (List.replicate 64 (.int (0 : Int32))))), (aU, .inr (.int, (List.replicate 64 (.int (0 : Int32)))))]) := by
  refine Con.of (ws := tables_1) (a0 := a0) pn_4 hw ?_
  intro p e s m below meth cde T kb w
  refine g_entry #[.val (.ref d), .val (.int (2 : Int32)), .val (.int (0 : Int32)), .val (.int (1 : Int32)), .unset, .unset] (by first | (simp [entryFrame, mkF, argsToLocals, Value.category]; done) | rfl) ?_
  refine g_aloadN w d4_0 rfl rfl 1 rfl ?_
  refine g_getf w d4_1 0 rfl 3 rfl 16 rfl Via.refl 4 rfl (fun T w => ?_)
  refine g_alen w d4_4 4 rfl (64 : Int32) rfl 5 rfl ?_
  refine g_iconst w d4_5 (1 : Int32) rfl 6 rfl ?_
  refine g_isub w d4_6 7 rfl ?_
  refine g_int (x' := (63 : Int32)) (by decide) ?_
  refine g_istore w d4_7 9 rfl rfl #[.val (.ref d), .val (.int (2 : Int32)), .val (.int (0 : Int32)), .val (.int (1 : Int32)), .val (.int (63 : Int32)), .unset] rfl ?_
  refine g_iloadN w d4_9 rfl 10 rfl ?_
  refine g_i2l w d4_10 11 rfl ?_
  refine g_long (x' := (2 : Int64)) (by decide) ?_
  refine g_bipush w d4_11 (32 : Int32) rfl 13 rfl ?_
  refine g_lshl w d4_13 14 rfl ?_
  refine g_long (x' := (8589934592 : Int64)) (by decide) ?_
  refine g_iloadN w d4_14 rfl 15 rfl ?_
  refine g_i2l w d4_15 16 rfl ?_
  refine g_long (x' := (0 : Int64)) (by decide) ?_
  refine g_lor w d4_16 17 rfl ?_
  refine g_long (x' := (8589934592 : Int64)) (by decide) ?_
  refine g_ldcl w d4_17 30 rfl 20 rfl ?_
  refine g_lmul w d4_20 21 rfl ?_
  refine g_long (x' := (-102184032250363904 : Int64)) (by decide) ?_
  refine g_iloadN w d4_21 rfl 22 rfl ?_
  refine g_i2l w d4_22 23 rfl ?_
  refine g_long (x' := (1 : Int64)) (by decide) ?_
  refine g_ladd w d4_23 24 rfl ?_
  refine g_long (x' := (-102184032250363903 : Int64)) (by decide) ?_
  refine g_static w (argsL := [(.long (-102184032250363903 : Int64))]) (rest := []) (rm5 l Z a0 hw n0 (-102184032250363903 : Int64) ([(d, O_Diagrams (.ref aV) (.ref aL) (.ref aH) (.ref aU) (.int (2 : Int32))), (aV, .inr (.int, own_A1)), (aL, .inr (.int, (List.replicate 64 (.int (0 : Int32))))), (aH, .inr (.int, (List.replicate 64 (.int (0 : Int32))))), (aU, .inr (.int, (List.replicate 64 (.int (0 : Int32)))))])) d4_24 31 rfl 32 rfl 2 rfl 33 rfl ⟨by decide, by decide⟩ pd_0 rfl rfl rfl 0 rfl (by decide) (by decide) (by decide) (by decide) 27 rfl (fun T v L w h => ?_)
  obtain ⟨rfl, hL⟩ := h
  replace w := w.to hL
  refine g_long (x' := (-7465508279105439177 : Int64)) (by decide) ?_
  refine g_iload w d4_27 rfl 29 rfl ?_
  refine g_i2l w d4_29 30 rfl ?_
  refine g_long (x' := (63 : Int64)) (by decide) ?_
  refine g_land w d4_30 31 rfl ?_
  refine g_long (x' := (55 : Int64)) (by decide) ?_
  refine g_l2i w d4_31 32 rfl ?_
  refine g_int (x' := (55 : Int32)) (by decide) ?_
  refine g_istore w d4_32 34 rfl rfl #[.val (.ref d), .val (.int (2 : Int32)), .val (.int (0 : Int32)), .val (.int (1 : Int32)), .val (.int (63 : Int32)), .val (.int (55 : Int32))] rfl ?_
  refine g_aloadN w d4_34 rfl rfl 35 rfl ?_
  refine g_getf w d4_35 0 rfl 3 rfl 16 rfl Via.refl 38 rfl (fun T w => ?_)
  refine g_iload w d4_38 rfl 40 rfl ?_
  refine g_iaload w d4_40 4 rfl 55 (by decide) (show ((List.replicate 64 (.int (0 : Int32))) : List Value)[55]? = some (.int (0 : Int32)) from rfl) 41 rfl ?_
  refine g_if_eq w d4_41 104 (by decide) (by decide) 44 rfl (fun hc41 => ?_) (fun h => absurd (by decide) h)
  refine g_iload w d4_104 rfl 106 rfl ?_
  exact g_ireti w d4_106 (by decide) (by decide) ⟨rfl, rfl⟩
theorem pd_1 : parseMethodDescriptor "(III)I" = some ⟨[.int, .int, .int], some .int⟩ := by decide +kernel
def own_A2 : List Value := own_A1.set 2 (.int (2 : Int32))
def own_A3 : List Value := (List.replicate 64 (.int (0 : Int32))).set 2 (.int (0 : Int32))
def own_A4 : List Value := (List.replicate 64 (.int (0 : Int32))).set 2 (.int (1 : Int32))
def own_A5 : List Value := (List.replicate 64 (.int (0 : Int32))).set 55 (.int (2 : Int32))
set_option maxRecDepth 65536 in
set_option maxHeartbeats 40000000 in
theorem rmN_0 (l : Launch) (Z : State) (a0 : Array Value) (hw : ∀ d ∈ tables_1, d.before a0 Z = true) (n0 : Nat) (d aV aL aH aU : Addr)  :
    Con l (⟨"com/example/chancebound/chancebound/network/Diagrams", "node", "(III)I"⟩ : MethodName) prog_35_method_7_code 6 (some .int) ({ frames := 2, cells := 0, slots := 0, locals := 32 } : Room) Z n0 #[(.ref d), (.int (2 : Int32)), (.int (0 : Int32)), (.int (1 : Int32))] ([(d, O_Diagrams (.ref aV) (.ref aL) (.ref aH) (.ref aU) (.int (2 : Int32))), (aV, .inr (.int, own_A1)), (aL, .inr (.int, (List.replicate 64 (.int (0 : Int32))))), (aH, .inr (.int, (List.replicate 64 (.int (0 : Int32))))), (aU, .inr (.int, (List.replicate 64 (.int (0 : Int32)))))]) (fun v L' => v = some (.int (2 : Int32)) ∧ L' = [(d, O_Diagrams (.ref aV) (.ref aL) (.ref aH) (.ref aU) (.int (3 : Int32))), (aV, .inr (.int, own_A2)), (aL, .inr (.int, own_A3)), (aH, .inr (.int, own_A4)), (aU, .inr (.int, own_A5))]) := by
  refine Con.of (ws := tables_1) (a0 := a0) pn_3 hw ?_
  intro p e s m below meth cde T kb w
  refine g_entry #[.val (.ref d), .val (.int (2 : Int32)), .val (.int (0 : Int32)), .val (.int (1 : Int32)), .unset, .unset] (by first | (simp [entryFrame, mkF, argsToLocals, Value.category]; done) | rfl) ?_
  refine g_iloadN w d3_0 rfl 1 rfl ?_
  refine g_if_lt w d3_1 24 (by decide) (by decide) 4 rfl (fun h => absurd h (by decide)) (fun hc1 => ?_)
  refine g_iloadN w d3_4 rfl 5 rfl ?_
  refine g_aloadN w d3_5 rfl rfl 6 rfl ?_
  refine g_getf w d3_6 0 rfl 4 rfl 19 rfl Via.refl 9 rfl (fun T w => ?_)
  refine g_icmp_ge w d3_9 24 (by decide) (by decide) 12 rfl (fun h => absurd (by decide) h) (fun hc9 => ?_)
  refine g_iloadN w d3_12 rfl 13 rfl ?_
  refine g_if_lt w d3_13 24 (by decide) (by decide) 16 rfl (fun h => absurd h (by decide)) (fun hc13 => ?_)
  refine g_iloadN w d3_16 rfl 17 rfl ?_
  refine g_aloadN w d3_17 rfl rfl 18 rfl ?_
  refine g_getf w d3_18 0 rfl 4 rfl 19 rfl Via.refl 21 rfl (fun T w => ?_)
  refine g_icmp_lt w d3_21 54 (by decide) (by decide) 24 rfl (fun hc21 => ?_) (fun h => absurd (by decide) h)
  refine g_iloadN w d3_54 rfl 55 rfl ?_
  refine g_if_lt w d3_55 78 (by decide) (by decide) 58 rfl (fun h => absurd h (by decide)) (fun hc55 => ?_)
  refine g_iloadN w d3_58 rfl 59 rfl ?_
  refine g_aloadN w d3_59 rfl rfl 60 rfl ?_
  refine g_getf w d3_60 0 rfl 0 rfl 10 rfl Via.refl 63 rfl (fun T w => ?_)
  refine g_iloadN w d3_63 rfl 64 rfl ?_
  refine g_iaload w d3_64 1 rfl 0 (by decide) (show (own_A1 : List Value)[0]? = some (.int (2147483647 : Int32)) from rfl) 65 rfl ?_
  refine g_icmp_ge w d3_65 78 (by decide) (by decide) 68 rfl (fun h => absurd (by decide) h) (fun hc65 => ?_)
  refine g_iloadN w d3_68 rfl 69 rfl ?_
  refine g_aloadN w d3_69 rfl rfl 70 rfl ?_
  refine g_getf w d3_70 0 rfl 0 rfl 10 rfl Via.refl 73 rfl (fun T w => ?_)
  refine g_iloadN w d3_73 rfl 74 rfl ?_
  refine g_iaload w d3_74 1 rfl 1 (by decide) (show (own_A1 : List Value)[1]? = some (.int (2147483647 : Int32)) from rfl) 75 rfl ?_
  refine g_icmp_lt w d3_75 92 (by decide) (by decide) 78 rfl (fun hc75 => ?_) (fun h => absurd (by decide) h)
  refine g_iloadN w d3_92 rfl 93 rfl ?_
  refine g_iloadN w d3_93 rfl 94 rfl ?_
  refine g_icmp_ne w d3_94 103 (by decide) (by decide) 97 rfl (fun hc94 => ?_) (fun h => absurd h (by decide))
  refine g_aloadN w d3_103 rfl rfl 104 rfl ?_
  refine g_getf w d3_104 0 rfl 4 rfl 19 rfl Via.refl 107 rfl (fun T w => ?_)
  refine g_aloadN w d3_107 rfl rfl 108 rfl ?_
  refine g_getf w d3_108 0 rfl 0 rfl 10 rfl Via.refl 111 rfl (fun T w => ?_)
  refine g_alen w d3_111 1 rfl (64 : Int32) rfl 112 rfl ?_
  refine g_icmp_ne w d3_112 119 (by decide) (by decide) 115 rfl (fun hc112 => ?_) (fun h => absurd h (by decide))
  refine g_aloadN w d3_119 rfl rfl 120 rfl ?_
  refine g_iloadN w d3_120 rfl 121 rfl ?_
  refine g_iloadN w d3_121 rfl 122 rfl ?_
  refine g_iloadN w d3_122 rfl 123 rfl ?_
  refine g_priv w (argsL := [(.int (2 : Int32)), (.int (0 : Int32)), (.int (1 : Int32))]) (rest := []) (rmS_0 l Z a0 hw n0 d aV aL aH aU) d3_123 0 rfl 26 rfl 27 rfl 2 rfl 29 rfl 28 rfl 1 rfl ⟨by decide, by decide⟩ pd_1 rfl rfl rfl 0 rfl (by decide) (by decide) (by decide) (by decide) 126 rfl (fun T v L w h => ?_)
  obtain ⟨rfl, hL⟩ := h
  replace w := w.to hL
  refine g_istore w d3_126 128 rfl rfl #[.val (.ref d), .val (.int (2 : Int32)), .val (.int (0 : Int32)), .val (.int (1 : Int32)), .unset, .val (.int (55 : Int32))] rfl ?_
  refine g_aloadN w d3_128 rfl rfl 129 rfl ?_
  refine g_getf w d3_129 0 rfl 3 rfl 16 rfl Via.refl 132 rfl (fun T w => ?_)
  refine g_iload w d3_132 rfl 134 rfl ?_
  refine g_iaload w d3_134 4 rfl 55 (by decide) (show ((List.replicate 64 (.int (0 : Int32))) : List Value)[55]? = some (.int (0 : Int32)) from rfl) 135 rfl ?_
  refine g_if_ne w d3_135 189 (by decide) (by decide) 138 rfl (fun h => absurd (by decide) h) (fun hc135 => ?_)
  refine g_aloadN w d3_138 rfl rfl 139 rfl ?_
  refine g_getf w d3_139 0 rfl 0 rfl 10 rfl Via.refl 142 rfl (fun T w => ?_)
  refine g_aloadN w d3_142 rfl rfl 143 rfl ?_
  refine g_getf w d3_143 0 rfl 4 rfl 19 rfl Via.refl 146 rfl (fun T w => ?_)
  refine g_iloadN w d3_146 rfl 147 rfl ?_
  refine g_iastore w d3_147 1 rfl 2 (by decide) (Nat.le_of_ble_eq_true rfl) (.int (2 : Int32)) rfl 148 rfl (fun T w => ?_)
  replace w := w.to (L' := [(d, O_Diagrams (.ref aV) (.ref aL) (.ref aH) (.ref aU) (.int (2 : Int32))), (aV, .inr (.int, own_A2)), (aL, .inr (.int, (List.replicate 64 (.int (0 : Int32))))), (aH, .inr (.int, (List.replicate 64 (.int (0 : Int32))))), (aU, .inr (.int, (List.replicate 64 (.int (0 : Int32)))))]) rfl
  refine g_aloadN w d3_148 rfl rfl 149 rfl ?_
  refine g_getf w d3_149 0 rfl 1 rfl 12 rfl Via.refl 152 rfl (fun T w => ?_)
  refine g_aloadN w d3_152 rfl rfl 153 rfl ?_
  refine g_getf w d3_153 0 rfl 4 rfl 19 rfl Via.refl 156 rfl (fun T w => ?_)
  refine g_iloadN w d3_156 rfl 157 rfl ?_
  refine g_iastore w d3_157 2 rfl 2 (by decide) (Nat.le_of_ble_eq_true rfl) (.int (0 : Int32)) rfl 158 rfl (fun T w => ?_)
  replace w := w.to (L' := [(d, O_Diagrams (.ref aV) (.ref aL) (.ref aH) (.ref aU) (.int (2 : Int32))), (aV, .inr (.int, own_A2)), (aL, .inr (.int, own_A3)), (aH, .inr (.int, (List.replicate 64 (.int (0 : Int32))))), (aU, .inr (.int, (List.replicate 64 (.int (0 : Int32)))))]) rfl
  refine g_aloadN w d3_158 rfl rfl 159 rfl ?_
  refine g_getf w d3_159 0 rfl 2 rfl 14 rfl Via.refl 162 rfl (fun T w => ?_)
  refine g_aloadN w d3_162 rfl rfl 163 rfl ?_
  refine g_getf w d3_163 0 rfl 4 rfl 19 rfl Via.refl 166 rfl (fun T w => ?_)
  refine g_iloadN w d3_166 rfl 167 rfl ?_
  refine g_iastore w d3_167 3 rfl 2 (by decide) (Nat.le_of_ble_eq_true rfl) (.int (1 : Int32)) rfl 168 rfl (fun T w => ?_)
  replace w := w.to (L' := [(d, O_Diagrams (.ref aV) (.ref aL) (.ref aH) (.ref aU) (.int (2 : Int32))), (aV, .inr (.int, own_A2)), (aL, .inr (.int, own_A3)), (aH, .inr (.int, own_A4)), (aU, .inr (.int, (List.replicate 64 (.int (0 : Int32)))))]) rfl
  refine g_aloadN w d3_168 rfl rfl 169 rfl ?_
  refine g_getf w d3_169 0 rfl 3 rfl 16 rfl Via.refl 172 rfl (fun T w => ?_)
  refine g_iload w d3_172 rfl 174 rfl ?_
  refine g_aloadN w d3_174 rfl rfl 175 rfl ?_
  refine g_getf w d3_175 0 rfl 4 rfl 19 rfl Via.refl 178 rfl (fun T w => ?_)
  refine g_iastore w d3_178 4 rfl 55 (by decide) (Nat.le_of_ble_eq_true rfl) (.int (2 : Int32)) rfl 179 rfl (fun T w => ?_)
  replace w := w.to (L' := [(d, O_Diagrams (.ref aV) (.ref aL) (.ref aH) (.ref aU) (.int (2 : Int32))), (aV, .inr (.int, own_A2)), (aL, .inr (.int, own_A3)), (aH, .inr (.int, own_A4)), (aU, .inr (.int, own_A5))]) rfl
  refine g_aloadN w d3_179 rfl rfl 180 rfl ?_
  refine g_dup w d3_180 rfl 181 rfl ?_
  refine g_getf w d3_181 0 rfl 4 rfl 19 rfl Via.refl 184 rfl (fun T w => ?_)
  refine g_iconst w d3_184 (1 : Int32) rfl 185 rfl ?_
  refine g_iadd w d3_185 186 rfl ?_
  refine g_int (x' := (3 : Int32)) (by decide) ?_
  refine g_putf w d3_186 0 rfl 4 rfl 19 rfl Via.refl 20 (Or.inl rfl) 1 rfl (ty := .int) (by decide) rfl rfl 189 rfl (fun T w => ?_)
  replace w := w.to (L' := [(d, O_Diagrams (.ref aV) (.ref aL) (.ref aH) (.ref aU) (.int (3 : Int32))), (aV, .inr (.int, own_A2)), (aL, .inr (.int, own_A3)), (aH, .inr (.int, own_A4)), (aU, .inr (.int, own_A5))]) rfl
  refine g_aloadN w d3_189 rfl rfl 190 rfl ?_
  refine g_getf w d3_190 0 rfl 3 rfl 16 rfl Via.refl 193 rfl (fun T w => ?_)
  refine g_iload w d3_193 rfl 195 rfl ?_
  refine g_iaload w d3_195 4 rfl 55 (by decide) (show (own_A5 : List Value)[55]? = some (.int (2 : Int32)) from rfl) 196 rfl ?_
  refine g_istore w d3_196 198 rfl rfl #[.val (.ref d), .val (.int (2 : Int32)), .val (.int (0 : Int32)), .val (.int (1 : Int32)), .val (.int (2 : Int32)), .val (.int (55 : Int32))] rfl ?_
  refine g_iload w d3_198 rfl 200 rfl ?_
  exact g_ireti w d3_200 (by decide) (by decide) ⟨rfl, rfl⟩
set_option maxRecDepth 65536 in
set_option maxHeartbeats 40000000 in
theorem rmS_1 (l : Launch) (Z : State) (a0 : Array Value) (hw : ∀ d ∈ tables_1, d.before a0 Z = true) (n0 : Nat) (d aV aL aH aU : Addr)  :
    Con l (⟨"com/example/chancebound/chancebound/network/Diagrams", "slot", "(III)I"⟩ : MethodName) prog_35_method_8_code 6 (some .int) ({ frames := 1, cells := 0, slots := 0, locals := 15 } : Room) Z n0 #[(.ref d), (.int (2 : Int32)), (.int (1 : Int32)), (.int (0 : Int32))] ([(d, O_Diagrams (.ref aV) (.ref aL) (.ref aH) (.ref aU) (.int (3 : Int32))), (aV, .inr (.int, own_A2)), (aL, .inr (.int, own_A3)), (aH, .inr (.int, own_A4)), (aU, .inr (.int, own_A5))]) (fun v L' => v = some (.int (17 : Int32)) ∧ L' = [(d, O_Diagrams (.ref aV) (.ref aL) (.ref aH) (.ref aU) (.int (3 : Int32))), (aV, .inr (.int, own_A2)), (aL, .inr (.int, own_A3)), (aH, .inr (.int, own_A4)), (aU, .inr (.int, own_A5))]) := by
  refine Con.of (ws := tables_1) (a0 := a0) pn_4 hw ?_
  intro p e s m below meth cde T kb w
  refine g_entry #[.val (.ref d), .val (.int (2 : Int32)), .val (.int (1 : Int32)), .val (.int (0 : Int32)), .unset, .unset] (by first | (simp [entryFrame, mkF, argsToLocals, Value.category]; done) | rfl) ?_
  refine g_aloadN w d4_0 rfl rfl 1 rfl ?_
  refine g_getf w d4_1 0 rfl 3 rfl 16 rfl Via.refl 4 rfl (fun T w => ?_)
  refine g_alen w d4_4 4 rfl (64 : Int32) rfl 5 rfl ?_
  refine g_iconst w d4_5 (1 : Int32) rfl 6 rfl ?_
  refine g_isub w d4_6 7 rfl ?_
  refine g_int (x' := (63 : Int32)) (by decide) ?_
  refine g_istore w d4_7 9 rfl rfl #[.val (.ref d), .val (.int (2 : Int32)), .val (.int (1 : Int32)), .val (.int (0 : Int32)), .val (.int (63 : Int32)), .unset] rfl ?_
  refine g_iloadN w d4_9 rfl 10 rfl ?_
  refine g_i2l w d4_10 11 rfl ?_
  refine g_long (x' := (2 : Int64)) (by decide) ?_
  refine g_bipush w d4_11 (32 : Int32) rfl 13 rfl ?_
  refine g_lshl w d4_13 14 rfl ?_
  refine g_long (x' := (8589934592 : Int64)) (by decide) ?_
  refine g_iloadN w d4_14 rfl 15 rfl ?_
  refine g_i2l w d4_15 16 rfl ?_
  refine g_long (x' := (1 : Int64)) (by decide) ?_
  refine g_lor w d4_16 17 rfl ?_
  refine g_long (x' := (8589934593 : Int64)) (by decide) ?_
  refine g_ldcl w d4_17 30 rfl 20 rfl ?_
  refine g_lmul w d4_20 21 rfl ?_
  refine g_long (x' := (-7148213286636717035 : Int64)) (by decide) ?_
  refine g_iloadN w d4_21 rfl 22 rfl ?_
  refine g_i2l w d4_22 23 rfl ?_
  refine g_long (x' := (0 : Int64)) (by decide) ?_
  refine g_ladd w d4_23 24 rfl ?_
  refine g_long (x' := (-7148213286636717035 : Int64)) (by decide) ?_
  refine g_static w (argsL := [(.long (-7148213286636717035 : Int64))]) (rest := []) (rm5 l Z a0 hw n0 (-7148213286636717035 : Int64) ([(d, O_Diagrams (.ref aV) (.ref aL) (.ref aH) (.ref aU) (.int (3 : Int32))), (aV, .inr (.int, own_A2)), (aL, .inr (.int, own_A3)), (aH, .inr (.int, own_A4)), (aU, .inr (.int, own_A5))])) d4_24 31 rfl 32 rfl 2 rfl 33 rfl ⟨by decide, by decide⟩ pd_0 rfl rfl rfl 0 rfl (by decide) (by decide) (by decide) (by decide) 27 rfl (fun T v L w h => ?_)
  obtain ⟨rfl, hL⟩ := h
  replace w := w.to hL
  refine g_long (x' := (-5800361308137750511 : Int64)) (by decide) ?_
  refine g_iload w d4_27 rfl 29 rfl ?_
  refine g_i2l w d4_29 30 rfl ?_
  refine g_long (x' := (63 : Int64)) (by decide) ?_
  refine g_land w d4_30 31 rfl ?_
  refine g_long (x' := (17 : Int64)) (by decide) ?_
  refine g_l2i w d4_31 32 rfl ?_
  refine g_int (x' := (17 : Int32)) (by decide) ?_
  refine g_istore w d4_32 34 rfl rfl #[.val (.ref d), .val (.int (2 : Int32)), .val (.int (1 : Int32)), .val (.int (0 : Int32)), .val (.int (63 : Int32)), .val (.int (17 : Int32))] rfl ?_
  refine g_aloadN w d4_34 rfl rfl 35 rfl ?_
  refine g_getf w d4_35 0 rfl 3 rfl 16 rfl Via.refl 38 rfl (fun T w => ?_)
  refine g_iload w d4_38 rfl 40 rfl ?_
  refine g_iaload w d4_40 4 rfl 17 (by decide) (show (own_A5 : List Value)[17]? = some (.int (0 : Int32)) from rfl) 41 rfl ?_
  refine g_if_eq w d4_41 104 (by decide) (by decide) 44 rfl (fun hc41 => ?_) (fun h => absurd (by decide) h)
  refine g_iload w d4_104 rfl 106 rfl ?_
  exact g_ireti w d4_106 (by decide) (by decide) ⟨rfl, rfl⟩
def own_A6 : List Value := own_A2.set 3 (.int (2 : Int32))
def own_A7 : List Value := own_A3.set 3 (.int (1 : Int32))
def own_A8 : List Value := own_A4.set 3 (.int (0 : Int32))
def own_A9 : List Value := own_A5.set 17 (.int (3 : Int32))
set_option maxRecDepth 65536 in
set_option maxHeartbeats 40000000 in
theorem rmN_1 (l : Launch) (Z : State) (a0 : Array Value) (hw : ∀ d ∈ tables_1, d.before a0 Z = true) (n0 : Nat) (d aV aL aH aU : Addr)  :
    Con l (⟨"com/example/chancebound/chancebound/network/Diagrams", "node", "(III)I"⟩ : MethodName) prog_35_method_7_code 6 (some .int) ({ frames := 2, cells := 0, slots := 0, locals := 32 } : Room) Z n0 #[(.ref d), (.int (2 : Int32)), (.int (1 : Int32)), (.int (0 : Int32))] ([(d, O_Diagrams (.ref aV) (.ref aL) (.ref aH) (.ref aU) (.int (3 : Int32))), (aV, .inr (.int, own_A2)), (aL, .inr (.int, own_A3)), (aH, .inr (.int, own_A4)), (aU, .inr (.int, own_A5))]) (fun v L' => v = some (.int (3 : Int32)) ∧ L' = [(d, O_Diagrams (.ref aV) (.ref aL) (.ref aH) (.ref aU) (.int (4 : Int32))), (aV, .inr (.int, own_A6)), (aL, .inr (.int, own_A7)), (aH, .inr (.int, own_A8)), (aU, .inr (.int, own_A9))]) := by
  refine Con.of (ws := tables_1) (a0 := a0) pn_3 hw ?_
  intro p e s m below meth cde T kb w
  refine g_entry #[.val (.ref d), .val (.int (2 : Int32)), .val (.int (1 : Int32)), .val (.int (0 : Int32)), .unset, .unset] (by first | (simp [entryFrame, mkF, argsToLocals, Value.category]; done) | rfl) ?_
  refine g_iloadN w d3_0 rfl 1 rfl ?_
  refine g_if_lt w d3_1 24 (by decide) (by decide) 4 rfl (fun h => absurd h (by decide)) (fun hc1 => ?_)
  refine g_iloadN w d3_4 rfl 5 rfl ?_
  refine g_aloadN w d3_5 rfl rfl 6 rfl ?_
  refine g_getf w d3_6 0 rfl 4 rfl 19 rfl Via.refl 9 rfl (fun T w => ?_)
  refine g_icmp_ge w d3_9 24 (by decide) (by decide) 12 rfl (fun h => absurd (by decide) h) (fun hc9 => ?_)
  refine g_iloadN w d3_12 rfl 13 rfl ?_
  refine g_if_lt w d3_13 24 (by decide) (by decide) 16 rfl (fun h => absurd h (by decide)) (fun hc13 => ?_)
  refine g_iloadN w d3_16 rfl 17 rfl ?_
  refine g_aloadN w d3_17 rfl rfl 18 rfl ?_
  refine g_getf w d3_18 0 rfl 4 rfl 19 rfl Via.refl 21 rfl (fun T w => ?_)
  refine g_icmp_lt w d3_21 54 (by decide) (by decide) 24 rfl (fun hc21 => ?_) (fun h => absurd (by decide) h)
  refine g_iloadN w d3_54 rfl 55 rfl ?_
  refine g_if_lt w d3_55 78 (by decide) (by decide) 58 rfl (fun h => absurd h (by decide)) (fun hc55 => ?_)
  refine g_iloadN w d3_58 rfl 59 rfl ?_
  refine g_aloadN w d3_59 rfl rfl 60 rfl ?_
  refine g_getf w d3_60 0 rfl 0 rfl 10 rfl Via.refl 63 rfl (fun T w => ?_)
  refine g_iloadN w d3_63 rfl 64 rfl ?_
  refine g_iaload w d3_64 1 rfl 1 (by decide) (show (own_A2 : List Value)[1]? = some (.int (2147483647 : Int32)) from rfl) 65 rfl ?_
  refine g_icmp_ge w d3_65 78 (by decide) (by decide) 68 rfl (fun h => absurd (by decide) h) (fun hc65 => ?_)
  refine g_iloadN w d3_68 rfl 69 rfl ?_
  refine g_aloadN w d3_69 rfl rfl 70 rfl ?_
  refine g_getf w d3_70 0 rfl 0 rfl 10 rfl Via.refl 73 rfl (fun T w => ?_)
  refine g_iloadN w d3_73 rfl 74 rfl ?_
  refine g_iaload w d3_74 1 rfl 0 (by decide) (show (own_A2 : List Value)[0]? = some (.int (2147483647 : Int32)) from rfl) 75 rfl ?_
  refine g_icmp_lt w d3_75 92 (by decide) (by decide) 78 rfl (fun hc75 => ?_) (fun h => absurd (by decide) h)
  refine g_iloadN w d3_92 rfl 93 rfl ?_
  refine g_iloadN w d3_93 rfl 94 rfl ?_
  refine g_icmp_ne w d3_94 103 (by decide) (by decide) 97 rfl (fun hc94 => ?_) (fun h => absurd h (by decide))
  refine g_aloadN w d3_103 rfl rfl 104 rfl ?_
  refine g_getf w d3_104 0 rfl 4 rfl 19 rfl Via.refl 107 rfl (fun T w => ?_)
  refine g_aloadN w d3_107 rfl rfl 108 rfl ?_
  refine g_getf w d3_108 0 rfl 0 rfl 10 rfl Via.refl 111 rfl (fun T w => ?_)
  refine g_alen w d3_111 1 rfl (64 : Int32) rfl 112 rfl ?_
  refine g_icmp_ne w d3_112 119 (by decide) (by decide) 115 rfl (fun hc112 => ?_) (fun h => absurd h (by decide))
  refine g_aloadN w d3_119 rfl rfl 120 rfl ?_
  refine g_iloadN w d3_120 rfl 121 rfl ?_
  refine g_iloadN w d3_121 rfl 122 rfl ?_
  refine g_iloadN w d3_122 rfl 123 rfl ?_
  refine g_priv w (argsL := [(.int (2 : Int32)), (.int (1 : Int32)), (.int (0 : Int32))]) (rest := []) (rmS_1 l Z a0 hw n0 d aV aL aH aU) d3_123 0 rfl 26 rfl 27 rfl 2 rfl 29 rfl 28 rfl 1 rfl ⟨by decide, by decide⟩ pd_1 rfl rfl rfl 0 rfl (by decide) (by decide) (by decide) (by decide) 126 rfl (fun T v L w h => ?_)
  obtain ⟨rfl, hL⟩ := h
  replace w := w.to hL
  refine g_istore w d3_126 128 rfl rfl #[.val (.ref d), .val (.int (2 : Int32)), .val (.int (1 : Int32)), .val (.int (0 : Int32)), .unset, .val (.int (17 : Int32))] rfl ?_
  refine g_aloadN w d3_128 rfl rfl 129 rfl ?_
  refine g_getf w d3_129 0 rfl 3 rfl 16 rfl Via.refl 132 rfl (fun T w => ?_)
  refine g_iload w d3_132 rfl 134 rfl ?_
  refine g_iaload w d3_134 4 rfl 17 (by decide) (show (own_A5 : List Value)[17]? = some (.int (0 : Int32)) from rfl) 135 rfl ?_
  refine g_if_ne w d3_135 189 (by decide) (by decide) 138 rfl (fun h => absurd (by decide) h) (fun hc135 => ?_)
  refine g_aloadN w d3_138 rfl rfl 139 rfl ?_
  refine g_getf w d3_139 0 rfl 0 rfl 10 rfl Via.refl 142 rfl (fun T w => ?_)
  refine g_aloadN w d3_142 rfl rfl 143 rfl ?_
  refine g_getf w d3_143 0 rfl 4 rfl 19 rfl Via.refl 146 rfl (fun T w => ?_)
  refine g_iloadN w d3_146 rfl 147 rfl ?_
  refine g_iastore w d3_147 1 rfl 3 (by decide) (Nat.le_of_ble_eq_true rfl) (.int (2 : Int32)) rfl 148 rfl (fun T w => ?_)
  replace w := w.to (L' := [(d, O_Diagrams (.ref aV) (.ref aL) (.ref aH) (.ref aU) (.int (3 : Int32))), (aV, .inr (.int, own_A6)), (aL, .inr (.int, own_A3)), (aH, .inr (.int, own_A4)), (aU, .inr (.int, own_A5))]) rfl
  refine g_aloadN w d3_148 rfl rfl 149 rfl ?_
  refine g_getf w d3_149 0 rfl 1 rfl 12 rfl Via.refl 152 rfl (fun T w => ?_)
  refine g_aloadN w d3_152 rfl rfl 153 rfl ?_
  refine g_getf w d3_153 0 rfl 4 rfl 19 rfl Via.refl 156 rfl (fun T w => ?_)
  refine g_iloadN w d3_156 rfl 157 rfl ?_
  refine g_iastore w d3_157 2 rfl 3 (by decide) (Nat.le_of_ble_eq_true rfl) (.int (1 : Int32)) rfl 158 rfl (fun T w => ?_)
  replace w := w.to (L' := [(d, O_Diagrams (.ref aV) (.ref aL) (.ref aH) (.ref aU) (.int (3 : Int32))), (aV, .inr (.int, own_A6)), (aL, .inr (.int, own_A7)), (aH, .inr (.int, own_A4)), (aU, .inr (.int, own_A5))]) rfl
  refine g_aloadN w d3_158 rfl rfl 159 rfl ?_
  refine g_getf w d3_159 0 rfl 2 rfl 14 rfl Via.refl 162 rfl (fun T w => ?_)
  refine g_aloadN w d3_162 rfl rfl 163 rfl ?_
  refine g_getf w d3_163 0 rfl 4 rfl 19 rfl Via.refl 166 rfl (fun T w => ?_)
  refine g_iloadN w d3_166 rfl 167 rfl ?_
  refine g_iastore w d3_167 3 rfl 3 (by decide) (Nat.le_of_ble_eq_true rfl) (.int (0 : Int32)) rfl 168 rfl (fun T w => ?_)
  replace w := w.to (L' := [(d, O_Diagrams (.ref aV) (.ref aL) (.ref aH) (.ref aU) (.int (3 : Int32))), (aV, .inr (.int, own_A6)), (aL, .inr (.int, own_A7)), (aH, .inr (.int, own_A8)), (aU, .inr (.int, own_A5))]) rfl
  refine g_aloadN w d3_168 rfl rfl 169 rfl ?_
  refine g_getf w d3_169 0 rfl 3 rfl 16 rfl Via.refl 172 rfl (fun T w => ?_)
  refine g_iload w d3_172 rfl 174 rfl ?_
  refine g_aloadN w d3_174 rfl rfl 175 rfl ?_
  refine g_getf w d3_175 0 rfl 4 rfl 19 rfl Via.refl 178 rfl (fun T w => ?_)
  refine g_iastore w d3_178 4 rfl 17 (by decide) (Nat.le_of_ble_eq_true rfl) (.int (3 : Int32)) rfl 179 rfl (fun T w => ?_)
  replace w := w.to (L' := [(d, O_Diagrams (.ref aV) (.ref aL) (.ref aH) (.ref aU) (.int (3 : Int32))), (aV, .inr (.int, own_A6)), (aL, .inr (.int, own_A7)), (aH, .inr (.int, own_A8)), (aU, .inr (.int, own_A9))]) rfl
  refine g_aloadN w d3_179 rfl rfl 180 rfl ?_
  refine g_dup w d3_180 rfl 181 rfl ?_
  refine g_getf w d3_181 0 rfl 4 rfl 19 rfl Via.refl 184 rfl (fun T w => ?_)
  refine g_iconst w d3_184 (1 : Int32) rfl 185 rfl ?_
  refine g_iadd w d3_185 186 rfl ?_
  refine g_int (x' := (4 : Int32)) (by decide) ?_
  refine g_putf w d3_186 0 rfl 4 rfl 19 rfl Via.refl 20 (Or.inl rfl) 1 rfl (ty := .int) (by decide) rfl rfl 189 rfl (fun T w => ?_)
  replace w := w.to (L' := [(d, O_Diagrams (.ref aV) (.ref aL) (.ref aH) (.ref aU) (.int (4 : Int32))), (aV, .inr (.int, own_A6)), (aL, .inr (.int, own_A7)), (aH, .inr (.int, own_A8)), (aU, .inr (.int, own_A9))]) rfl
  refine g_aloadN w d3_189 rfl rfl 190 rfl ?_
  refine g_getf w d3_190 0 rfl 3 rfl 16 rfl Via.refl 193 rfl (fun T w => ?_)
  refine g_iload w d3_193 rfl 195 rfl ?_
  refine g_iaload w d3_195 4 rfl 17 (by decide) (show (own_A9 : List Value)[17]? = some (.int (3 : Int32)) from rfl) 196 rfl ?_
  refine g_istore w d3_196 198 rfl rfl #[.val (.ref d), .val (.int (2 : Int32)), .val (.int (1 : Int32)), .val (.int (0 : Int32)), .val (.int (3 : Int32)), .val (.int (17 : Int32))] rfl ?_
  refine g_iload w d3_198 rfl 200 rfl ?_
  exact g_ireti w d3_200 (by decide) (by decide) ⟨rfl, rfl⟩
set_option maxRecDepth 65536 in
set_option maxHeartbeats 40000000 in
theorem rmS_2 (l : Launch) (Z : State) (a0 : Array Value) (hw : ∀ d ∈ tables_1, d.before a0 Z = true) (n0 : Nat) (d aV aL aH aU : Addr)  :
    Con l (⟨"com/example/chancebound/chancebound/network/Diagrams", "slot", "(III)I"⟩ : MethodName) prog_35_method_8_code 6 (some .int) ({ frames := 1, cells := 0, slots := 0, locals := 15 } : Room) Z n0 #[(.ref d), (.int (1 : Int32)), (.int (2 : Int32)), (.int (3 : Int32))] ([(d, O_Diagrams (.ref aV) (.ref aL) (.ref aH) (.ref aU) (.int (4 : Int32))), (aV, .inr (.int, own_A6)), (aL, .inr (.int, own_A7)), (aH, .inr (.int, own_A8)), (aU, .inr (.int, own_A9))]) (fun v L' => v = some (.int (63 : Int32)) ∧ L' = [(d, O_Diagrams (.ref aV) (.ref aL) (.ref aH) (.ref aU) (.int (4 : Int32))), (aV, .inr (.int, own_A6)), (aL, .inr (.int, own_A7)), (aH, .inr (.int, own_A8)), (aU, .inr (.int, own_A9))]) := by
  refine Con.of (ws := tables_1) (a0 := a0) pn_4 hw ?_
  intro p e s m below meth cde T kb w
  refine g_entry #[.val (.ref d), .val (.int (1 : Int32)), .val (.int (2 : Int32)), .val (.int (3 : Int32)), .unset, .unset] (by first | (simp [entryFrame, mkF, argsToLocals, Value.category]; done) | rfl) ?_
  refine g_aloadN w d4_0 rfl rfl 1 rfl ?_
  refine g_getf w d4_1 0 rfl 3 rfl 16 rfl Via.refl 4 rfl (fun T w => ?_)
  refine g_alen w d4_4 4 rfl (64 : Int32) rfl 5 rfl ?_
  refine g_iconst w d4_5 (1 : Int32) rfl 6 rfl ?_
  refine g_isub w d4_6 7 rfl ?_
  refine g_int (x' := (63 : Int32)) (by decide) ?_
  refine g_istore w d4_7 9 rfl rfl #[.val (.ref d), .val (.int (1 : Int32)), .val (.int (2 : Int32)), .val (.int (3 : Int32)), .val (.int (63 : Int32)), .unset] rfl ?_
  refine g_iloadN w d4_9 rfl 10 rfl ?_
  refine g_i2l w d4_10 11 rfl ?_
  refine g_long (x' := (1 : Int64)) (by decide) ?_
  refine g_bipush w d4_11 (32 : Int32) rfl 13 rfl ?_
  refine g_lshl w d4_13 14 rfl ?_
  refine g_long (x' := (4294967296 : Int64)) (by decide) ?_
  refine g_iloadN w d4_14 rfl 15 rfl ?_
  refine g_i2l w d4_15 16 rfl ?_
  refine g_long (x' := (2 : Int64)) (by decide) ?_
  refine g_lor w d4_16 17 rfl ?_
  refine g_long (x' := (4294967298 : Int64)) (by decide) ?_
  refine g_ldcl w d4_17 30 rfl 20 rfl ?_
  refine g_lmul w d4_20 21 rfl ?_
  refine g_long (x' := (-4919778488043112406 : Int64)) (by decide) ?_
  refine g_iloadN w d4_21 rfl 22 rfl ?_
  refine g_i2l w d4_22 23 rfl ?_
  refine g_long (x' := (3 : Int64)) (by decide) ?_
  refine g_ladd w d4_23 24 rfl ?_
  refine g_long (x' := (-4919778488043112403 : Int64)) (by decide) ?_
  refine g_static w (argsL := [(.long (-4919778488043112403 : Int64))]) (rest := []) (rm5 l Z a0 hw n0 (-4919778488043112403 : Int64) ([(d, O_Diagrams (.ref aV) (.ref aL) (.ref aH) (.ref aU) (.int (4 : Int32))), (aV, .inr (.int, own_A6)), (aL, .inr (.int, own_A7)), (aH, .inr (.int, own_A8)), (aU, .inr (.int, own_A9))])) d4_24 31 rfl 32 rfl 2 rfl 33 rfl ⟨by decide, by decide⟩ pd_0 rfl rfl rfl 0 rfl (by decide) (by decide) (by decide) (by decide) 27 rfl (fun T v L w h => ?_)
  obtain ⟨rfl, hL⟩ := h
  replace w := w.to hL
  refine g_long (x' := (6302627139092300415 : Int64)) (by decide) ?_
  refine g_iload w d4_27 rfl 29 rfl ?_
  refine g_i2l w d4_29 30 rfl ?_
  refine g_long (x' := (63 : Int64)) (by decide) ?_
  refine g_land w d4_30 31 rfl ?_
  refine g_long (x' := (63 : Int64)) (by decide) ?_
  refine g_l2i w d4_31 32 rfl ?_
  refine g_int (x' := (63 : Int32)) (by decide) ?_
  refine g_istore w d4_32 34 rfl rfl #[.val (.ref d), .val (.int (1 : Int32)), .val (.int (2 : Int32)), .val (.int (3 : Int32)), .val (.int (63 : Int32)), .val (.int (63 : Int32))] rfl ?_
  refine g_aloadN w d4_34 rfl rfl 35 rfl ?_
  refine g_getf w d4_35 0 rfl 3 rfl 16 rfl Via.refl 38 rfl (fun T w => ?_)
  refine g_iload w d4_38 rfl 40 rfl ?_
  refine g_iaload w d4_40 4 rfl 63 (by decide) (show (own_A9 : List Value)[63]? = some (.int (0 : Int32)) from rfl) 41 rfl ?_
  refine g_if_eq w d4_41 104 (by decide) (by decide) 44 rfl (fun hc41 => ?_) (fun h => absurd (by decide) h)
  refine g_iload w d4_104 rfl 106 rfl ?_
  exact g_ireti w d4_106 (by decide) (by decide) ⟨rfl, rfl⟩
def own_A10 : List Value := own_A6.set 4 (.int (1 : Int32))
def own_A11 : List Value := own_A7.set 4 (.int (2 : Int32))
def own_A12 : List Value := own_A8.set 4 (.int (3 : Int32))
def own_A13 : List Value := own_A9.set 63 (.int (4 : Int32))
set_option maxRecDepth 65536 in
set_option maxHeartbeats 40000000 in
theorem rmN_2 (l : Launch) (Z : State) (a0 : Array Value) (hw : ∀ d ∈ tables_1, d.before a0 Z = true) (n0 : Nat) (d aV aL aH aU : Addr)  :
    Con l (⟨"com/example/chancebound/chancebound/network/Diagrams", "node", "(III)I"⟩ : MethodName) prog_35_method_7_code 6 (some .int) ({ frames := 2, cells := 0, slots := 0, locals := 32 } : Room) Z n0 #[(.ref d), (.int (1 : Int32)), (.int (2 : Int32)), (.int (3 : Int32))] ([(d, O_Diagrams (.ref aV) (.ref aL) (.ref aH) (.ref aU) (.int (4 : Int32))), (aV, .inr (.int, own_A6)), (aL, .inr (.int, own_A7)), (aH, .inr (.int, own_A8)), (aU, .inr (.int, own_A9))]) (fun v L' => v = some (.int (4 : Int32)) ∧ L' = [(d, O_Diagrams (.ref aV) (.ref aL) (.ref aH) (.ref aU) (.int (5 : Int32))), (aV, .inr (.int, own_A10)), (aL, .inr (.int, own_A11)), (aH, .inr (.int, own_A12)), (aU, .inr (.int, own_A13))]) := by
  refine Con.of (ws := tables_1) (a0 := a0) pn_3 hw ?_
  intro p e s m below meth cde T kb w
  refine g_entry #[.val (.ref d), .val (.int (1 : Int32)), .val (.int (2 : Int32)), .val (.int (3 : Int32)), .unset, .unset] (by first | (simp [entryFrame, mkF, argsToLocals, Value.category]; done) | rfl) ?_
  refine g_iloadN w d3_0 rfl 1 rfl ?_
  refine g_if_lt w d3_1 24 (by decide) (by decide) 4 rfl (fun h => absurd h (by decide)) (fun hc1 => ?_)
  refine g_iloadN w d3_4 rfl 5 rfl ?_
  refine g_aloadN w d3_5 rfl rfl 6 rfl ?_
  refine g_getf w d3_6 0 rfl 4 rfl 19 rfl Via.refl 9 rfl (fun T w => ?_)
  refine g_icmp_ge w d3_9 24 (by decide) (by decide) 12 rfl (fun h => absurd (by decide) h) (fun hc9 => ?_)
  refine g_iloadN w d3_12 rfl 13 rfl ?_
  refine g_if_lt w d3_13 24 (by decide) (by decide) 16 rfl (fun h => absurd h (by decide)) (fun hc13 => ?_)
  refine g_iloadN w d3_16 rfl 17 rfl ?_
  refine g_aloadN w d3_17 rfl rfl 18 rfl ?_
  refine g_getf w d3_18 0 rfl 4 rfl 19 rfl Via.refl 21 rfl (fun T w => ?_)
  refine g_icmp_lt w d3_21 54 (by decide) (by decide) 24 rfl (fun hc21 => ?_) (fun h => absurd (by decide) h)
  refine g_iloadN w d3_54 rfl 55 rfl ?_
  refine g_if_lt w d3_55 78 (by decide) (by decide) 58 rfl (fun h => absurd h (by decide)) (fun hc55 => ?_)
  refine g_iloadN w d3_58 rfl 59 rfl ?_
  refine g_aloadN w d3_59 rfl rfl 60 rfl ?_
  refine g_getf w d3_60 0 rfl 0 rfl 10 rfl Via.refl 63 rfl (fun T w => ?_)
  refine g_iloadN w d3_63 rfl 64 rfl ?_
  refine g_iaload w d3_64 1 rfl 2 (by decide) (show (own_A6 : List Value)[2]? = some (.int (2 : Int32)) from rfl) 65 rfl ?_
  refine g_icmp_ge w d3_65 78 (by decide) (by decide) 68 rfl (fun h => absurd (by decide) h) (fun hc65 => ?_)
  refine g_iloadN w d3_68 rfl 69 rfl ?_
  refine g_aloadN w d3_69 rfl rfl 70 rfl ?_
  refine g_getf w d3_70 0 rfl 0 rfl 10 rfl Via.refl 73 rfl (fun T w => ?_)
  refine g_iloadN w d3_73 rfl 74 rfl ?_
  refine g_iaload w d3_74 1 rfl 3 (by decide) (show (own_A6 : List Value)[3]? = some (.int (2 : Int32)) from rfl) 75 rfl ?_
  refine g_icmp_lt w d3_75 92 (by decide) (by decide) 78 rfl (fun hc75 => ?_) (fun h => absurd (by decide) h)
  refine g_iloadN w d3_92 rfl 93 rfl ?_
  refine g_iloadN w d3_93 rfl 94 rfl ?_
  refine g_icmp_ne w d3_94 103 (by decide) (by decide) 97 rfl (fun hc94 => ?_) (fun h => absurd h (by decide))
  refine g_aloadN w d3_103 rfl rfl 104 rfl ?_
  refine g_getf w d3_104 0 rfl 4 rfl 19 rfl Via.refl 107 rfl (fun T w => ?_)
  refine g_aloadN w d3_107 rfl rfl 108 rfl ?_
  refine g_getf w d3_108 0 rfl 0 rfl 10 rfl Via.refl 111 rfl (fun T w => ?_)
  refine g_alen w d3_111 1 rfl (64 : Int32) rfl 112 rfl ?_
  refine g_icmp_ne w d3_112 119 (by decide) (by decide) 115 rfl (fun hc112 => ?_) (fun h => absurd h (by decide))
  refine g_aloadN w d3_119 rfl rfl 120 rfl ?_
  refine g_iloadN w d3_120 rfl 121 rfl ?_
  refine g_iloadN w d3_121 rfl 122 rfl ?_
  refine g_iloadN w d3_122 rfl 123 rfl ?_
  refine g_priv w (argsL := [(.int (1 : Int32)), (.int (2 : Int32)), (.int (3 : Int32))]) (rest := []) (rmS_2 l Z a0 hw n0 d aV aL aH aU) d3_123 0 rfl 26 rfl 27 rfl 2 rfl 29 rfl 28 rfl 1 rfl ⟨by decide, by decide⟩ pd_1 rfl rfl rfl 0 rfl (by decide) (by decide) (by decide) (by decide) 126 rfl (fun T v L w h => ?_)
  obtain ⟨rfl, hL⟩ := h
  replace w := w.to hL
  refine g_istore w d3_126 128 rfl rfl #[.val (.ref d), .val (.int (1 : Int32)), .val (.int (2 : Int32)), .val (.int (3 : Int32)), .unset, .val (.int (63 : Int32))] rfl ?_
  refine g_aloadN w d3_128 rfl rfl 129 rfl ?_
  refine g_getf w d3_129 0 rfl 3 rfl 16 rfl Via.refl 132 rfl (fun T w => ?_)
  refine g_iload w d3_132 rfl 134 rfl ?_
  refine g_iaload w d3_134 4 rfl 63 (by decide) (show (own_A9 : List Value)[63]? = some (.int (0 : Int32)) from rfl) 135 rfl ?_
  refine g_if_ne w d3_135 189 (by decide) (by decide) 138 rfl (fun h => absurd (by decide) h) (fun hc135 => ?_)
  refine g_aloadN w d3_138 rfl rfl 139 rfl ?_
  refine g_getf w d3_139 0 rfl 0 rfl 10 rfl Via.refl 142 rfl (fun T w => ?_)
  refine g_aloadN w d3_142 rfl rfl 143 rfl ?_
  refine g_getf w d3_143 0 rfl 4 rfl 19 rfl Via.refl 146 rfl (fun T w => ?_)
  refine g_iloadN w d3_146 rfl 147 rfl ?_
  refine g_iastore w d3_147 1 rfl 4 (by decide) (Nat.le_of_ble_eq_true rfl) (.int (1 : Int32)) rfl 148 rfl (fun T w => ?_)
  replace w := w.to (L' := [(d, O_Diagrams (.ref aV) (.ref aL) (.ref aH) (.ref aU) (.int (4 : Int32))), (aV, .inr (.int, own_A10)), (aL, .inr (.int, own_A7)), (aH, .inr (.int, own_A8)), (aU, .inr (.int, own_A9))]) rfl
  refine g_aloadN w d3_148 rfl rfl 149 rfl ?_
  refine g_getf w d3_149 0 rfl 1 rfl 12 rfl Via.refl 152 rfl (fun T w => ?_)
  refine g_aloadN w d3_152 rfl rfl 153 rfl ?_
  refine g_getf w d3_153 0 rfl 4 rfl 19 rfl Via.refl 156 rfl (fun T w => ?_)
  refine g_iloadN w d3_156 rfl 157 rfl ?_
  refine g_iastore w d3_157 2 rfl 4 (by decide) (Nat.le_of_ble_eq_true rfl) (.int (2 : Int32)) rfl 158 rfl (fun T w => ?_)
  replace w := w.to (L' := [(d, O_Diagrams (.ref aV) (.ref aL) (.ref aH) (.ref aU) (.int (4 : Int32))), (aV, .inr (.int, own_A10)), (aL, .inr (.int, own_A11)), (aH, .inr (.int, own_A8)), (aU, .inr (.int, own_A9))]) rfl
  refine g_aloadN w d3_158 rfl rfl 159 rfl ?_
  refine g_getf w d3_159 0 rfl 2 rfl 14 rfl Via.refl 162 rfl (fun T w => ?_)
  refine g_aloadN w d3_162 rfl rfl 163 rfl ?_
  refine g_getf w d3_163 0 rfl 4 rfl 19 rfl Via.refl 166 rfl (fun T w => ?_)
  refine g_iloadN w d3_166 rfl 167 rfl ?_
  refine g_iastore w d3_167 3 rfl 4 (by decide) (Nat.le_of_ble_eq_true rfl) (.int (3 : Int32)) rfl 168 rfl (fun T w => ?_)
  replace w := w.to (L' := [(d, O_Diagrams (.ref aV) (.ref aL) (.ref aH) (.ref aU) (.int (4 : Int32))), (aV, .inr (.int, own_A10)), (aL, .inr (.int, own_A11)), (aH, .inr (.int, own_A12)), (aU, .inr (.int, own_A9))]) rfl
  refine g_aloadN w d3_168 rfl rfl 169 rfl ?_
  refine g_getf w d3_169 0 rfl 3 rfl 16 rfl Via.refl 172 rfl (fun T w => ?_)
  refine g_iload w d3_172 rfl 174 rfl ?_
  refine g_aloadN w d3_174 rfl rfl 175 rfl ?_
  refine g_getf w d3_175 0 rfl 4 rfl 19 rfl Via.refl 178 rfl (fun T w => ?_)
  refine g_iastore w d3_178 4 rfl 63 (by decide) (Nat.le_of_ble_eq_true rfl) (.int (4 : Int32)) rfl 179 rfl (fun T w => ?_)
  replace w := w.to (L' := [(d, O_Diagrams (.ref aV) (.ref aL) (.ref aH) (.ref aU) (.int (4 : Int32))), (aV, .inr (.int, own_A10)), (aL, .inr (.int, own_A11)), (aH, .inr (.int, own_A12)), (aU, .inr (.int, own_A13))]) rfl
  refine g_aloadN w d3_179 rfl rfl 180 rfl ?_
  refine g_dup w d3_180 rfl 181 rfl ?_
  refine g_getf w d3_181 0 rfl 4 rfl 19 rfl Via.refl 184 rfl (fun T w => ?_)
  refine g_iconst w d3_184 (1 : Int32) rfl 185 rfl ?_
  refine g_iadd w d3_185 186 rfl ?_
  refine g_int (x' := (5 : Int32)) (by decide) ?_
  refine g_putf w d3_186 0 rfl 4 rfl 19 rfl Via.refl 20 (Or.inl rfl) 1 rfl (ty := .int) (by decide) rfl rfl 189 rfl (fun T w => ?_)
  replace w := w.to (L' := [(d, O_Diagrams (.ref aV) (.ref aL) (.ref aH) (.ref aU) (.int (5 : Int32))), (aV, .inr (.int, own_A10)), (aL, .inr (.int, own_A11)), (aH, .inr (.int, own_A12)), (aU, .inr (.int, own_A13))]) rfl
  refine g_aloadN w d3_189 rfl rfl 190 rfl ?_
  refine g_getf w d3_190 0 rfl 3 rfl 16 rfl Via.refl 193 rfl (fun T w => ?_)
  refine g_iload w d3_193 rfl 195 rfl ?_
  refine g_iaload w d3_195 4 rfl 63 (by decide) (show (own_A13 : List Value)[63]? = some (.int (4 : Int32)) from rfl) 196 rfl ?_
  refine g_istore w d3_196 198 rfl rfl #[.val (.ref d), .val (.int (1 : Int32)), .val (.int (2 : Int32)), .val (.int (3 : Int32)), .val (.int (4 : Int32)), .val (.int (63 : Int32))] rfl ?_
  refine g_iload w d3_198 rfl 200 rfl ?_
  exact g_ireti w d3_200 (by decide) (by decide) ⟨rfl, rfl⟩
set_option maxRecDepth 65536 in
set_option maxHeartbeats 40000000 in
theorem rmS_3 (l : Launch) (Z : State) (a0 : Array Value) (hw : ∀ d ∈ tables_1, d.before a0 Z = true) (n0 : Nat) (d aV aL aH aU : Addr)  :
    Con l (⟨"com/example/chancebound/chancebound/network/Diagrams", "slot", "(III)I"⟩ : MethodName) prog_35_method_8_code 6 (some .int) ({ frames := 1, cells := 0, slots := 0, locals := 15 } : Room) Z n0 #[(.ref d), (.int (1 : Int32)), (.int (0 : Int32)), (.int (2 : Int32))] ([(d, O_Diagrams (.ref aV) (.ref aL) (.ref aH) (.ref aU) (.int (5 : Int32))), (aV, .inr (.int, own_A10)), (aL, .inr (.int, own_A11)), (aH, .inr (.int, own_A12)), (aU, .inr (.int, own_A13))]) (fun v L' => v = some (.int (60 : Int32)) ∧ L' = [(d, O_Diagrams (.ref aV) (.ref aL) (.ref aH) (.ref aU) (.int (5 : Int32))), (aV, .inr (.int, own_A10)), (aL, .inr (.int, own_A11)), (aH, .inr (.int, own_A12)), (aU, .inr (.int, own_A13))]) := by
  refine Con.of (ws := tables_1) (a0 := a0) pn_4 hw ?_
  intro p e s m below meth cde T kb w
  refine g_entry #[.val (.ref d), .val (.int (1 : Int32)), .val (.int (0 : Int32)), .val (.int (2 : Int32)), .unset, .unset] (by first | (simp [entryFrame, mkF, argsToLocals, Value.category]; done) | rfl) ?_
  refine g_aloadN w d4_0 rfl rfl 1 rfl ?_
  refine g_getf w d4_1 0 rfl 3 rfl 16 rfl Via.refl 4 rfl (fun T w => ?_)
  refine g_alen w d4_4 4 rfl (64 : Int32) rfl 5 rfl ?_
  refine g_iconst w d4_5 (1 : Int32) rfl 6 rfl ?_
  refine g_isub w d4_6 7 rfl ?_
  refine g_int (x' := (63 : Int32)) (by decide) ?_
  refine g_istore w d4_7 9 rfl rfl #[.val (.ref d), .val (.int (1 : Int32)), .val (.int (0 : Int32)), .val (.int (2 : Int32)), .val (.int (63 : Int32)), .unset] rfl ?_
  refine g_iloadN w d4_9 rfl 10 rfl ?_
  refine g_i2l w d4_10 11 rfl ?_
  refine g_long (x' := (1 : Int64)) (by decide) ?_
  refine g_bipush w d4_11 (32 : Int32) rfl 13 rfl ?_
  refine g_lshl w d4_13 14 rfl ?_
  refine g_long (x' := (4294967296 : Int64)) (by decide) ?_
  refine g_iloadN w d4_14 rfl 15 rfl ?_
  refine g_i2l w d4_15 16 rfl ?_
  refine g_long (x' := (0 : Int64)) (by decide) ?_
  refine g_lor w d4_16 17 rfl ?_
  refine g_long (x' := (4294967296 : Int64)) (by decide) ?_
  refine g_ldcl w d4_17 30 rfl 20 rfl ?_
  refine g_lmul w d4_20 21 rfl ?_
  refine g_long (x' := (9172280020729593856 : Int64)) (by decide) ?_
  refine g_iloadN w d4_21 rfl 22 rfl ?_
  refine g_i2l w d4_22 23 rfl ?_
  refine g_long (x' := (2 : Int64)) (by decide) ?_
  refine g_ladd w d4_23 24 rfl ?_
  refine g_long (x' := (9172280020729593858 : Int64)) (by decide) ?_
  refine g_static w (argsL := [(.long (9172280020729593858 : Int64))]) (rest := []) (rm5 l Z a0 hw n0 (9172280020729593858 : Int64) ([(d, O_Diagrams (.ref aV) (.ref aL) (.ref aH) (.ref aU) (.int (5 : Int32))), (aV, .inr (.int, own_A10)), (aL, .inr (.int, own_A11)), (aH, .inr (.int, own_A12)), (aU, .inr (.int, own_A13))])) d4_24 31 rfl 32 rfl 2 rfl 33 rfl ⟨by decide, by decide⟩ pd_0 rfl rfl rfl 0 rfl (by decide) (by decide) (by decide) (by decide) 27 rfl (fun T v L w h => ?_)
  obtain ⟨rfl, hL⟩ := h
  replace w := w.to hL
  refine g_long (x' := (-1497725022751961732 : Int64)) (by decide) ?_
  refine g_iload w d4_27 rfl 29 rfl ?_
  refine g_i2l w d4_29 30 rfl ?_
  refine g_long (x' := (63 : Int64)) (by decide) ?_
  refine g_land w d4_30 31 rfl ?_
  refine g_long (x' := (60 : Int64)) (by decide) ?_
  refine g_l2i w d4_31 32 rfl ?_
  refine g_int (x' := (60 : Int32)) (by decide) ?_
  refine g_istore w d4_32 34 rfl rfl #[.val (.ref d), .val (.int (1 : Int32)), .val (.int (0 : Int32)), .val (.int (2 : Int32)), .val (.int (63 : Int32)), .val (.int (60 : Int32))] rfl ?_
  refine g_aloadN w d4_34 rfl rfl 35 rfl ?_
  refine g_getf w d4_35 0 rfl 3 rfl 16 rfl Via.refl 38 rfl (fun T w => ?_)
  refine g_iload w d4_38 rfl 40 rfl ?_
  refine g_iaload w d4_40 4 rfl 60 (by decide) (show (own_A13 : List Value)[60]? = some (.int (0 : Int32)) from rfl) 41 rfl ?_
  refine g_if_eq w d4_41 104 (by decide) (by decide) 44 rfl (fun hc41 => ?_) (fun h => absurd (by decide) h)
  refine g_iload w d4_104 rfl 106 rfl ?_
  exact g_ireti w d4_106 (by decide) (by decide) ⟨rfl, rfl⟩
def own_A14 : List Value := own_A10.set 5 (.int (1 : Int32))
def own_A15 : List Value := own_A11.set 5 (.int (0 : Int32))
def own_A16 : List Value := own_A12.set 5 (.int (2 : Int32))
def own_A17 : List Value := own_A13.set 60 (.int (5 : Int32))
set_option maxRecDepth 65536 in
set_option maxHeartbeats 40000000 in
theorem rmN_3 (l : Launch) (Z : State) (a0 : Array Value) (hw : ∀ d ∈ tables_1, d.before a0 Z = true) (n0 : Nat) (d aV aL aH aU : Addr)  :
    Con l (⟨"com/example/chancebound/chancebound/network/Diagrams", "node", "(III)I"⟩ : MethodName) prog_35_method_7_code 6 (some .int) ({ frames := 2, cells := 0, slots := 0, locals := 32 } : Room) Z n0 #[(.ref d), (.int (1 : Int32)), (.int (0 : Int32)), (.int (2 : Int32))] ([(d, O_Diagrams (.ref aV) (.ref aL) (.ref aH) (.ref aU) (.int (5 : Int32))), (aV, .inr (.int, own_A10)), (aL, .inr (.int, own_A11)), (aH, .inr (.int, own_A12)), (aU, .inr (.int, own_A13))]) (fun v L' => v = some (.int (5 : Int32)) ∧ L' = [(d, O_Diagrams (.ref aV) (.ref aL) (.ref aH) (.ref aU) (.int (6 : Int32))), (aV, .inr (.int, own_A14)), (aL, .inr (.int, own_A15)), (aH, .inr (.int, own_A16)), (aU, .inr (.int, own_A17))]) := by
  refine Con.of (ws := tables_1) (a0 := a0) pn_3 hw ?_
  intro p e s m below meth cde T kb w
  refine g_entry #[.val (.ref d), .val (.int (1 : Int32)), .val (.int (0 : Int32)), .val (.int (2 : Int32)), .unset, .unset] (by first | (simp [entryFrame, mkF, argsToLocals, Value.category]; done) | rfl) ?_
  refine g_iloadN w d3_0 rfl 1 rfl ?_
  refine g_if_lt w d3_1 24 (by decide) (by decide) 4 rfl (fun h => absurd h (by decide)) (fun hc1 => ?_)
  refine g_iloadN w d3_4 rfl 5 rfl ?_
  refine g_aloadN w d3_5 rfl rfl 6 rfl ?_
  refine g_getf w d3_6 0 rfl 4 rfl 19 rfl Via.refl 9 rfl (fun T w => ?_)
  refine g_icmp_ge w d3_9 24 (by decide) (by decide) 12 rfl (fun h => absurd (by decide) h) (fun hc9 => ?_)
  refine g_iloadN w d3_12 rfl 13 rfl ?_
  refine g_if_lt w d3_13 24 (by decide) (by decide) 16 rfl (fun h => absurd h (by decide)) (fun hc13 => ?_)
  refine g_iloadN w d3_16 rfl 17 rfl ?_
  refine g_aloadN w d3_17 rfl rfl 18 rfl ?_
  refine g_getf w d3_18 0 rfl 4 rfl 19 rfl Via.refl 21 rfl (fun T w => ?_)
  refine g_icmp_lt w d3_21 54 (by decide) (by decide) 24 rfl (fun hc21 => ?_) (fun h => absurd (by decide) h)
  refine g_iloadN w d3_54 rfl 55 rfl ?_
  refine g_if_lt w d3_55 78 (by decide) (by decide) 58 rfl (fun h => absurd h (by decide)) (fun hc55 => ?_)
  refine g_iloadN w d3_58 rfl 59 rfl ?_
  refine g_aloadN w d3_59 rfl rfl 60 rfl ?_
  refine g_getf w d3_60 0 rfl 0 rfl 10 rfl Via.refl 63 rfl (fun T w => ?_)
  refine g_iloadN w d3_63 rfl 64 rfl ?_
  refine g_iaload w d3_64 1 rfl 0 (by decide) (show (own_A10 : List Value)[0]? = some (.int (2147483647 : Int32)) from rfl) 65 rfl ?_
  refine g_icmp_ge w d3_65 78 (by decide) (by decide) 68 rfl (fun h => absurd (by decide) h) (fun hc65 => ?_)
  refine g_iloadN w d3_68 rfl 69 rfl ?_
  refine g_aloadN w d3_69 rfl rfl 70 rfl ?_
  refine g_getf w d3_70 0 rfl 0 rfl 10 rfl Via.refl 73 rfl (fun T w => ?_)
  refine g_iloadN w d3_73 rfl 74 rfl ?_
  refine g_iaload w d3_74 1 rfl 2 (by decide) (show (own_A10 : List Value)[2]? = some (.int (2 : Int32)) from rfl) 75 rfl ?_
  refine g_icmp_lt w d3_75 92 (by decide) (by decide) 78 rfl (fun hc75 => ?_) (fun h => absurd (by decide) h)
  refine g_iloadN w d3_92 rfl 93 rfl ?_
  refine g_iloadN w d3_93 rfl 94 rfl ?_
  refine g_icmp_ne w d3_94 103 (by decide) (by decide) 97 rfl (fun hc94 => ?_) (fun h => absurd h (by decide))
  refine g_aloadN w d3_103 rfl rfl 104 rfl ?_
  refine g_getf w d3_104 0 rfl 4 rfl 19 rfl Via.refl 107 rfl (fun T w => ?_)
  refine g_aloadN w d3_107 rfl rfl 108 rfl ?_
  refine g_getf w d3_108 0 rfl 0 rfl 10 rfl Via.refl 111 rfl (fun T w => ?_)
  refine g_alen w d3_111 1 rfl (64 : Int32) rfl 112 rfl ?_
  refine g_icmp_ne w d3_112 119 (by decide) (by decide) 115 rfl (fun hc112 => ?_) (fun h => absurd h (by decide))
  refine g_aloadN w d3_119 rfl rfl 120 rfl ?_
  refine g_iloadN w d3_120 rfl 121 rfl ?_
  refine g_iloadN w d3_121 rfl 122 rfl ?_
  refine g_iloadN w d3_122 rfl 123 rfl ?_
  refine g_priv w (argsL := [(.int (1 : Int32)), (.int (0 : Int32)), (.int (2 : Int32))]) (rest := []) (rmS_3 l Z a0 hw n0 d aV aL aH aU) d3_123 0 rfl 26 rfl 27 rfl 2 rfl 29 rfl 28 rfl 1 rfl ⟨by decide, by decide⟩ pd_1 rfl rfl rfl 0 rfl (by decide) (by decide) (by decide) (by decide) 126 rfl (fun T v L w h => ?_)
  obtain ⟨rfl, hL⟩ := h
  replace w := w.to hL
  refine g_istore w d3_126 128 rfl rfl #[.val (.ref d), .val (.int (1 : Int32)), .val (.int (0 : Int32)), .val (.int (2 : Int32)), .unset, .val (.int (60 : Int32))] rfl ?_
  refine g_aloadN w d3_128 rfl rfl 129 rfl ?_
  refine g_getf w d3_129 0 rfl 3 rfl 16 rfl Via.refl 132 rfl (fun T w => ?_)
  refine g_iload w d3_132 rfl 134 rfl ?_
  refine g_iaload w d3_134 4 rfl 60 (by decide) (show (own_A13 : List Value)[60]? = some (.int (0 : Int32)) from rfl) 135 rfl ?_
  refine g_if_ne w d3_135 189 (by decide) (by decide) 138 rfl (fun h => absurd (by decide) h) (fun hc135 => ?_)
  refine g_aloadN w d3_138 rfl rfl 139 rfl ?_
  refine g_getf w d3_139 0 rfl 0 rfl 10 rfl Via.refl 142 rfl (fun T w => ?_)
  refine g_aloadN w d3_142 rfl rfl 143 rfl ?_
  refine g_getf w d3_143 0 rfl 4 rfl 19 rfl Via.refl 146 rfl (fun T w => ?_)
  refine g_iloadN w d3_146 rfl 147 rfl ?_
  refine g_iastore w d3_147 1 rfl 5 (by decide) (Nat.le_of_ble_eq_true rfl) (.int (1 : Int32)) rfl 148 rfl (fun T w => ?_)
  replace w := w.to (L' := [(d, O_Diagrams (.ref aV) (.ref aL) (.ref aH) (.ref aU) (.int (5 : Int32))), (aV, .inr (.int, own_A14)), (aL, .inr (.int, own_A11)), (aH, .inr (.int, own_A12)), (aU, .inr (.int, own_A13))]) rfl
  refine g_aloadN w d3_148 rfl rfl 149 rfl ?_
  refine g_getf w d3_149 0 rfl 1 rfl 12 rfl Via.refl 152 rfl (fun T w => ?_)
  refine g_aloadN w d3_152 rfl rfl 153 rfl ?_
  refine g_getf w d3_153 0 rfl 4 rfl 19 rfl Via.refl 156 rfl (fun T w => ?_)
  refine g_iloadN w d3_156 rfl 157 rfl ?_
  refine g_iastore w d3_157 2 rfl 5 (by decide) (Nat.le_of_ble_eq_true rfl) (.int (0 : Int32)) rfl 158 rfl (fun T w => ?_)
  replace w := w.to (L' := [(d, O_Diagrams (.ref aV) (.ref aL) (.ref aH) (.ref aU) (.int (5 : Int32))), (aV, .inr (.int, own_A14)), (aL, .inr (.int, own_A15)), (aH, .inr (.int, own_A12)), (aU, .inr (.int, own_A13))]) rfl
  refine g_aloadN w d3_158 rfl rfl 159 rfl ?_
  refine g_getf w d3_159 0 rfl 2 rfl 14 rfl Via.refl 162 rfl (fun T w => ?_)
  refine g_aloadN w d3_162 rfl rfl 163 rfl ?_
  refine g_getf w d3_163 0 rfl 4 rfl 19 rfl Via.refl 166 rfl (fun T w => ?_)
  refine g_iloadN w d3_166 rfl 167 rfl ?_
  refine g_iastore w d3_167 3 rfl 5 (by decide) (Nat.le_of_ble_eq_true rfl) (.int (2 : Int32)) rfl 168 rfl (fun T w => ?_)
  replace w := w.to (L' := [(d, O_Diagrams (.ref aV) (.ref aL) (.ref aH) (.ref aU) (.int (5 : Int32))), (aV, .inr (.int, own_A14)), (aL, .inr (.int, own_A15)), (aH, .inr (.int, own_A16)), (aU, .inr (.int, own_A13))]) rfl
  refine g_aloadN w d3_168 rfl rfl 169 rfl ?_
  refine g_getf w d3_169 0 rfl 3 rfl 16 rfl Via.refl 172 rfl (fun T w => ?_)
  refine g_iload w d3_172 rfl 174 rfl ?_
  refine g_aloadN w d3_174 rfl rfl 175 rfl ?_
  refine g_getf w d3_175 0 rfl 4 rfl 19 rfl Via.refl 178 rfl (fun T w => ?_)
  refine g_iastore w d3_178 4 rfl 60 (by decide) (Nat.le_of_ble_eq_true rfl) (.int (5 : Int32)) rfl 179 rfl (fun T w => ?_)
  replace w := w.to (L' := [(d, O_Diagrams (.ref aV) (.ref aL) (.ref aH) (.ref aU) (.int (5 : Int32))), (aV, .inr (.int, own_A14)), (aL, .inr (.int, own_A15)), (aH, .inr (.int, own_A16)), (aU, .inr (.int, own_A17))]) rfl
  refine g_aloadN w d3_179 rfl rfl 180 rfl ?_
  refine g_dup w d3_180 rfl 181 rfl ?_
  refine g_getf w d3_181 0 rfl 4 rfl 19 rfl Via.refl 184 rfl (fun T w => ?_)
  refine g_iconst w d3_184 (1 : Int32) rfl 185 rfl ?_
  refine g_iadd w d3_185 186 rfl ?_
  refine g_int (x' := (6 : Int32)) (by decide) ?_
  refine g_putf w d3_186 0 rfl 4 rfl 19 rfl Via.refl 20 (Or.inl rfl) 1 rfl (ty := .int) (by decide) rfl rfl 189 rfl (fun T w => ?_)
  replace w := w.to (L' := [(d, O_Diagrams (.ref aV) (.ref aL) (.ref aH) (.ref aU) (.int (6 : Int32))), (aV, .inr (.int, own_A14)), (aL, .inr (.int, own_A15)), (aH, .inr (.int, own_A16)), (aU, .inr (.int, own_A17))]) rfl
  refine g_aloadN w d3_189 rfl rfl 190 rfl ?_
  refine g_getf w d3_190 0 rfl 3 rfl 16 rfl Via.refl 193 rfl (fun T w => ?_)
  refine g_iload w d3_193 rfl 195 rfl ?_
  refine g_iaload w d3_195 4 rfl 60 (by decide) (show (own_A17 : List Value)[60]? = some (.int (5 : Int32)) from rfl) 196 rfl ?_
  refine g_istore w d3_196 198 rfl rfl #[.val (.ref d), .val (.int (1 : Int32)), .val (.int (0 : Int32)), .val (.int (2 : Int32)), .val (.int (5 : Int32)), .val (.int (60 : Int32))] rfl ?_
  refine g_iload w d3_198 rfl 200 rfl ?_
  exact g_ireti w d3_200 (by decide) (by decide) ⟨rfl, rfl⟩
set_option maxRecDepth 65536 in
set_option maxHeartbeats 40000000 in
theorem rmS_4 (l : Launch) (Z : State) (a0 : Array Value) (hw : ∀ d ∈ tables_1, d.before a0 Z = true) (n0 : Nat) (d aV aL aH aU : Addr)  :
    Con l (⟨"com/example/chancebound/chancebound/network/Diagrams", "slot", "(III)I"⟩ : MethodName) prog_35_method_8_code 6 (some .int) ({ frames := 1, cells := 0, slots := 0, locals := 15 } : Room) Z n0 #[(.ref d), (.int (0 : Int32)), (.int (4 : Int32)), (.int (5 : Int32))] ([(d, O_Diagrams (.ref aV) (.ref aL) (.ref aH) (.ref aU) (.int (6 : Int32))), (aV, .inr (.int, own_A14)), (aL, .inr (.int, own_A15)), (aH, .inr (.int, own_A16)), (aU, .inr (.int, own_A17))]) (fun v L' => v = some (.int (56 : Int32)) ∧ L' = [(d, O_Diagrams (.ref aV) (.ref aL) (.ref aH) (.ref aU) (.int (6 : Int32))), (aV, .inr (.int, own_A14)), (aL, .inr (.int, own_A15)), (aH, .inr (.int, own_A16)), (aU, .inr (.int, own_A17))]) := by
  refine Con.of (ws := tables_1) (a0 := a0) pn_4 hw ?_
  intro p e s m below meth cde T kb w
  refine g_entry #[.val (.ref d), .val (.int (0 : Int32)), .val (.int (4 : Int32)), .val (.int (5 : Int32)), .unset, .unset] (by first | (simp [entryFrame, mkF, argsToLocals, Value.category]; done) | rfl) ?_
  refine g_aloadN w d4_0 rfl rfl 1 rfl ?_
  refine g_getf w d4_1 0 rfl 3 rfl 16 rfl Via.refl 4 rfl (fun T w => ?_)
  refine g_alen w d4_4 4 rfl (64 : Int32) rfl 5 rfl ?_
  refine g_iconst w d4_5 (1 : Int32) rfl 6 rfl ?_
  refine g_isub w d4_6 7 rfl ?_
  refine g_int (x' := (63 : Int32)) (by decide) ?_
  refine g_istore w d4_7 9 rfl rfl #[.val (.ref d), .val (.int (0 : Int32)), .val (.int (4 : Int32)), .val (.int (5 : Int32)), .val (.int (63 : Int32)), .unset] rfl ?_
  refine g_iloadN w d4_9 rfl 10 rfl ?_
  refine g_i2l w d4_10 11 rfl ?_
  refine g_long (x' := (0 : Int64)) (by decide) ?_
  refine g_bipush w d4_11 (32 : Int32) rfl 13 rfl ?_
  refine g_lshl w d4_13 14 rfl ?_
  refine g_long (x' := (0 : Int64)) (by decide) ?_
  refine g_iloadN w d4_14 rfl 15 rfl ?_
  refine g_i2l w d4_15 16 rfl ?_
  refine g_long (x' := (4 : Int64)) (by decide) ?_
  refine g_lor w d4_16 17 rfl ?_
  refine g_long (x' := (4 : Int64)) (by decide) ?_
  refine g_ldcl w d4_17 30 rfl 20 rfl ?_
  refine g_lmul w d4_20 21 rfl ?_
  refine g_long (x' := (8709371129873690708 : Int64)) (by decide) ?_
  refine g_iloadN w d4_21 rfl 22 rfl ?_
  refine g_i2l w d4_22 23 rfl ?_
  refine g_long (x' := (5 : Int64)) (by decide) ?_
  refine g_ladd w d4_23 24 rfl ?_
  refine g_long (x' := (8709371129873690713 : Int64)) (by decide) ?_
  refine g_static w (argsL := [(.long (8709371129873690713 : Int64))]) (rest := []) (rm5 l Z a0 hw n0 (8709371129873690713 : Int64) ([(d, O_Diagrams (.ref aV) (.ref aL) (.ref aH) (.ref aU) (.int (6 : Int32))), (aV, .inr (.int, own_A14)), (aL, .inr (.int, own_A15)), (aH, .inr (.int, own_A16)), (aU, .inr (.int, own_A17))])) d4_24 31 rfl 32 rfl 2 rfl 33 rfl ⟨by decide, by decide⟩ pd_0 rfl rfl rfl 0 rfl (by decide) (by decide) (by decide) (by decide) 27 rfl (fun T v L w h => ?_)
  obtain ⟨rfl, hL⟩ := h
  replace w := w.to hL
  refine g_long (x' := (1624018477557814583 : Int64)) (by decide) ?_
  refine g_iload w d4_27 rfl 29 rfl ?_
  refine g_i2l w d4_29 30 rfl ?_
  refine g_long (x' := (63 : Int64)) (by decide) ?_
  refine g_land w d4_30 31 rfl ?_
  refine g_long (x' := (55 : Int64)) (by decide) ?_
  refine g_l2i w d4_31 32 rfl ?_
  refine g_int (x' := (55 : Int32)) (by decide) ?_
  refine g_istore w d4_32 34 rfl rfl #[.val (.ref d), .val (.int (0 : Int32)), .val (.int (4 : Int32)), .val (.int (5 : Int32)), .val (.int (63 : Int32)), .val (.int (55 : Int32))] rfl ?_
  refine g_aloadN w d4_34 rfl rfl 35 rfl ?_
  refine g_getf w d4_35 0 rfl 3 rfl 16 rfl Via.refl 38 rfl (fun T w => ?_)
  refine g_iload w d4_38 rfl 40 rfl ?_
  refine g_iaload w d4_40 4 rfl 55 (by decide) (show (own_A17 : List Value)[55]? = some (.int (2 : Int32)) from rfl) 41 rfl ?_
  refine g_if_eq w d4_41 104 (by decide) (by decide) 44 rfl (fun h => absurd h (by decide)) (fun hc41 => ?_)
  refine g_aloadN w d4_44 rfl rfl 45 rfl ?_
  refine g_getf w d4_45 0 rfl 0 rfl 10 rfl Via.refl 48 rfl (fun T w => ?_)
  refine g_aloadN w d4_48 rfl rfl 49 rfl ?_
  refine g_getf w d4_49 0 rfl 3 rfl 16 rfl Via.refl 52 rfl (fun T w => ?_)
  refine g_iload w d4_52 rfl 54 rfl ?_
  refine g_iaload w d4_54 4 rfl 55 (by decide) (show (own_A17 : List Value)[55]? = some (.int (2 : Int32)) from rfl) 55 rfl ?_
  refine g_iaload w d4_55 1 rfl 2 (by decide) (show (own_A14 : List Value)[2]? = some (.int (2 : Int32)) from rfl) 56 rfl ?_
  refine g_iloadN w d4_56 rfl 57 rfl ?_
  refine g_icmp_ne w d4_57 92 (by decide) (by decide) 60 rfl (fun hc57 => ?_) (fun h => absurd h (by decide))
  refine g_iload w d4_92 rfl 94 rfl ?_
  refine g_iconst w d4_94 (1 : Int32) rfl 95 rfl ?_
  refine g_iadd w d4_95 96 rfl ?_
  refine g_int (x' := (56 : Int32)) (by decide) ?_
  refine g_iload w d4_96 rfl 98 rfl ?_
  refine g_iand w d4_98 99 rfl ?_
  refine g_int (x' := (56 : Int32)) (by decide) ?_
  refine g_istore w d4_99 101 rfl rfl #[.val (.ref d), .val (.int (0 : Int32)), .val (.int (4 : Int32)), .val (.int (5 : Int32)), .val (.int (63 : Int32)), .val (.int (56 : Int32))] rfl ?_
  refine g_goto w d4_101 34 (by decide) (by decide) ?_
  refine g_aloadN w d4_34 rfl rfl 35 rfl ?_
  refine g_getf w d4_35 0 rfl 3 rfl 16 rfl Via.refl 38 rfl (fun T w => ?_)
  refine g_iload w d4_38 rfl 40 rfl ?_
  refine g_iaload w d4_40 4 rfl 56 (by decide) (show (own_A17 : List Value)[56]? = some (.int (0 : Int32)) from rfl) 41 rfl ?_
  refine g_if_eq w d4_41 104 (by decide) (by decide) 44 rfl (fun hc41 => ?_) (fun h => absurd (by decide) h)
  refine g_iload w d4_104 rfl 106 rfl ?_
  exact g_ireti w d4_106 (by decide) (by decide) ⟨rfl, rfl⟩
def own_A18 : List Value := own_A14.set 6 (.int (0 : Int32))
def own_A19 : List Value := own_A15.set 6 (.int (4 : Int32))
def own_A20 : List Value := own_A16.set 6 (.int (5 : Int32))
def own_A21 : List Value := own_A17.set 56 (.int (6 : Int32))
set_option maxRecDepth 65536 in
set_option maxHeartbeats 40000000 in
theorem rmN_4 (l : Launch) (Z : State) (a0 : Array Value) (hw : ∀ d ∈ tables_1, d.before a0 Z = true) (n0 : Nat) (d aV aL aH aU : Addr)  :
    Con l (⟨"com/example/chancebound/chancebound/network/Diagrams", "node", "(III)I"⟩ : MethodName) prog_35_method_7_code 6 (some .int) ({ frames := 2, cells := 0, slots := 0, locals := 32 } : Room) Z n0 #[(.ref d), (.int (0 : Int32)), (.int (4 : Int32)), (.int (5 : Int32))] ([(d, O_Diagrams (.ref aV) (.ref aL) (.ref aH) (.ref aU) (.int (6 : Int32))), (aV, .inr (.int, own_A14)), (aL, .inr (.int, own_A15)), (aH, .inr (.int, own_A16)), (aU, .inr (.int, own_A17))]) (fun v L' => v = some (.int (6 : Int32)) ∧ L' = [(d, O_Diagrams (.ref aV) (.ref aL) (.ref aH) (.ref aU) (.int (7 : Int32))), (aV, .inr (.int, own_A18)), (aL, .inr (.int, own_A19)), (aH, .inr (.int, own_A20)), (aU, .inr (.int, own_A21))]) := by
  refine Con.of (ws := tables_1) (a0 := a0) pn_3 hw ?_
  intro p e s m below meth cde T kb w
  refine g_entry #[.val (.ref d), .val (.int (0 : Int32)), .val (.int (4 : Int32)), .val (.int (5 : Int32)), .unset, .unset] (by first | (simp [entryFrame, mkF, argsToLocals, Value.category]; done) | rfl) ?_
  refine g_iloadN w d3_0 rfl 1 rfl ?_
  refine g_if_lt w d3_1 24 (by decide) (by decide) 4 rfl (fun h => absurd h (by decide)) (fun hc1 => ?_)
  refine g_iloadN w d3_4 rfl 5 rfl ?_
  refine g_aloadN w d3_5 rfl rfl 6 rfl ?_
  refine g_getf w d3_6 0 rfl 4 rfl 19 rfl Via.refl 9 rfl (fun T w => ?_)
  refine g_icmp_ge w d3_9 24 (by decide) (by decide) 12 rfl (fun h => absurd (by decide) h) (fun hc9 => ?_)
  refine g_iloadN w d3_12 rfl 13 rfl ?_
  refine g_if_lt w d3_13 24 (by decide) (by decide) 16 rfl (fun h => absurd h (by decide)) (fun hc13 => ?_)
  refine g_iloadN w d3_16 rfl 17 rfl ?_
  refine g_aloadN w d3_17 rfl rfl 18 rfl ?_
  refine g_getf w d3_18 0 rfl 4 rfl 19 rfl Via.refl 21 rfl (fun T w => ?_)
  refine g_icmp_lt w d3_21 54 (by decide) (by decide) 24 rfl (fun hc21 => ?_) (fun h => absurd (by decide) h)
  refine g_iloadN w d3_54 rfl 55 rfl ?_
  refine g_if_lt w d3_55 78 (by decide) (by decide) 58 rfl (fun h => absurd h (by decide)) (fun hc55 => ?_)
  refine g_iloadN w d3_58 rfl 59 rfl ?_
  refine g_aloadN w d3_59 rfl rfl 60 rfl ?_
  refine g_getf w d3_60 0 rfl 0 rfl 10 rfl Via.refl 63 rfl (fun T w => ?_)
  refine g_iloadN w d3_63 rfl 64 rfl ?_
  refine g_iaload w d3_64 1 rfl 4 (by decide) (show (own_A14 : List Value)[4]? = some (.int (1 : Int32)) from rfl) 65 rfl ?_
  refine g_icmp_ge w d3_65 78 (by decide) (by decide) 68 rfl (fun h => absurd (by decide) h) (fun hc65 => ?_)
  refine g_iloadN w d3_68 rfl 69 rfl ?_
  refine g_aloadN w d3_69 rfl rfl 70 rfl ?_
  refine g_getf w d3_70 0 rfl 0 rfl 10 rfl Via.refl 73 rfl (fun T w => ?_)
  refine g_iloadN w d3_73 rfl 74 rfl ?_
  refine g_iaload w d3_74 1 rfl 5 (by decide) (show (own_A14 : List Value)[5]? = some (.int (1 : Int32)) from rfl) 75 rfl ?_
  refine g_icmp_lt w d3_75 92 (by decide) (by decide) 78 rfl (fun hc75 => ?_) (fun h => absurd (by decide) h)
  refine g_iloadN w d3_92 rfl 93 rfl ?_
  refine g_iloadN w d3_93 rfl 94 rfl ?_
  refine g_icmp_ne w d3_94 103 (by decide) (by decide) 97 rfl (fun hc94 => ?_) (fun h => absurd h (by decide))
  refine g_aloadN w d3_103 rfl rfl 104 rfl ?_
  refine g_getf w d3_104 0 rfl 4 rfl 19 rfl Via.refl 107 rfl (fun T w => ?_)
  refine g_aloadN w d3_107 rfl rfl 108 rfl ?_
  refine g_getf w d3_108 0 rfl 0 rfl 10 rfl Via.refl 111 rfl (fun T w => ?_)
  refine g_alen w d3_111 1 rfl (64 : Int32) rfl 112 rfl ?_
  refine g_icmp_ne w d3_112 119 (by decide) (by decide) 115 rfl (fun hc112 => ?_) (fun h => absurd h (by decide))
  refine g_aloadN w d3_119 rfl rfl 120 rfl ?_
  refine g_iloadN w d3_120 rfl 121 rfl ?_
  refine g_iloadN w d3_121 rfl 122 rfl ?_
  refine g_iloadN w d3_122 rfl 123 rfl ?_
  refine g_priv w (argsL := [(.int (0 : Int32)), (.int (4 : Int32)), (.int (5 : Int32))]) (rest := []) (rmS_4 l Z a0 hw n0 d aV aL aH aU) d3_123 0 rfl 26 rfl 27 rfl 2 rfl 29 rfl 28 rfl 1 rfl ⟨by decide, by decide⟩ pd_1 rfl rfl rfl 0 rfl (by decide) (by decide) (by decide) (by decide) 126 rfl (fun T v L w h => ?_)
  obtain ⟨rfl, hL⟩ := h
  replace w := w.to hL
  refine g_istore w d3_126 128 rfl rfl #[.val (.ref d), .val (.int (0 : Int32)), .val (.int (4 : Int32)), .val (.int (5 : Int32)), .unset, .val (.int (56 : Int32))] rfl ?_
  refine g_aloadN w d3_128 rfl rfl 129 rfl ?_
  refine g_getf w d3_129 0 rfl 3 rfl 16 rfl Via.refl 132 rfl (fun T w => ?_)
  refine g_iload w d3_132 rfl 134 rfl ?_
  refine g_iaload w d3_134 4 rfl 56 (by decide) (show (own_A17 : List Value)[56]? = some (.int (0 : Int32)) from rfl) 135 rfl ?_
  refine g_if_ne w d3_135 189 (by decide) (by decide) 138 rfl (fun h => absurd (by decide) h) (fun hc135 => ?_)
  refine g_aloadN w d3_138 rfl rfl 139 rfl ?_
  refine g_getf w d3_139 0 rfl 0 rfl 10 rfl Via.refl 142 rfl (fun T w => ?_)
  refine g_aloadN w d3_142 rfl rfl 143 rfl ?_
  refine g_getf w d3_143 0 rfl 4 rfl 19 rfl Via.refl 146 rfl (fun T w => ?_)
  refine g_iloadN w d3_146 rfl 147 rfl ?_
  refine g_iastore w d3_147 1 rfl 6 (by decide) (Nat.le_of_ble_eq_true rfl) (.int (0 : Int32)) rfl 148 rfl (fun T w => ?_)
  replace w := w.to (L' := [(d, O_Diagrams (.ref aV) (.ref aL) (.ref aH) (.ref aU) (.int (6 : Int32))), (aV, .inr (.int, own_A18)), (aL, .inr (.int, own_A15)), (aH, .inr (.int, own_A16)), (aU, .inr (.int, own_A17))]) rfl
  refine g_aloadN w d3_148 rfl rfl 149 rfl ?_
  refine g_getf w d3_149 0 rfl 1 rfl 12 rfl Via.refl 152 rfl (fun T w => ?_)
  refine g_aloadN w d3_152 rfl rfl 153 rfl ?_
  refine g_getf w d3_153 0 rfl 4 rfl 19 rfl Via.refl 156 rfl (fun T w => ?_)
  refine g_iloadN w d3_156 rfl 157 rfl ?_
  refine g_iastore w d3_157 2 rfl 6 (by decide) (Nat.le_of_ble_eq_true rfl) (.int (4 : Int32)) rfl 158 rfl (fun T w => ?_)
  replace w := w.to (L' := [(d, O_Diagrams (.ref aV) (.ref aL) (.ref aH) (.ref aU) (.int (6 : Int32))), (aV, .inr (.int, own_A18)), (aL, .inr (.int, own_A19)), (aH, .inr (.int, own_A16)), (aU, .inr (.int, own_A17))]) rfl
  refine g_aloadN w d3_158 rfl rfl 159 rfl ?_
  refine g_getf w d3_159 0 rfl 2 rfl 14 rfl Via.refl 162 rfl (fun T w => ?_)
  refine g_aloadN w d3_162 rfl rfl 163 rfl ?_
  refine g_getf w d3_163 0 rfl 4 rfl 19 rfl Via.refl 166 rfl (fun T w => ?_)
  refine g_iloadN w d3_166 rfl 167 rfl ?_
  refine g_iastore w d3_167 3 rfl 6 (by decide) (Nat.le_of_ble_eq_true rfl) (.int (5 : Int32)) rfl 168 rfl (fun T w => ?_)
  replace w := w.to (L' := [(d, O_Diagrams (.ref aV) (.ref aL) (.ref aH) (.ref aU) (.int (6 : Int32))), (aV, .inr (.int, own_A18)), (aL, .inr (.int, own_A19)), (aH, .inr (.int, own_A20)), (aU, .inr (.int, own_A17))]) rfl
  refine g_aloadN w d3_168 rfl rfl 169 rfl ?_
  refine g_getf w d3_169 0 rfl 3 rfl 16 rfl Via.refl 172 rfl (fun T w => ?_)
  refine g_iload w d3_172 rfl 174 rfl ?_
  refine g_aloadN w d3_174 rfl rfl 175 rfl ?_
  refine g_getf w d3_175 0 rfl 4 rfl 19 rfl Via.refl 178 rfl (fun T w => ?_)
  refine g_iastore w d3_178 4 rfl 56 (by decide) (Nat.le_of_ble_eq_true rfl) (.int (6 : Int32)) rfl 179 rfl (fun T w => ?_)
  replace w := w.to (L' := [(d, O_Diagrams (.ref aV) (.ref aL) (.ref aH) (.ref aU) (.int (6 : Int32))), (aV, .inr (.int, own_A18)), (aL, .inr (.int, own_A19)), (aH, .inr (.int, own_A20)), (aU, .inr (.int, own_A21))]) rfl
  refine g_aloadN w d3_179 rfl rfl 180 rfl ?_
  refine g_dup w d3_180 rfl 181 rfl ?_
  refine g_getf w d3_181 0 rfl 4 rfl 19 rfl Via.refl 184 rfl (fun T w => ?_)
  refine g_iconst w d3_184 (1 : Int32) rfl 185 rfl ?_
  refine g_iadd w d3_185 186 rfl ?_
  refine g_int (x' := (7 : Int32)) (by decide) ?_
  refine g_putf w d3_186 0 rfl 4 rfl 19 rfl Via.refl 20 (Or.inl rfl) 1 rfl (ty := .int) (by decide) rfl rfl 189 rfl (fun T w => ?_)
  replace w := w.to (L' := [(d, O_Diagrams (.ref aV) (.ref aL) (.ref aH) (.ref aU) (.int (7 : Int32))), (aV, .inr (.int, own_A18)), (aL, .inr (.int, own_A19)), (aH, .inr (.int, own_A20)), (aU, .inr (.int, own_A21))]) rfl
  refine g_aloadN w d3_189 rfl rfl 190 rfl ?_
  refine g_getf w d3_190 0 rfl 3 rfl 16 rfl Via.refl 193 rfl (fun T w => ?_)
  refine g_iload w d3_193 rfl 195 rfl ?_
  refine g_iaload w d3_195 4 rfl 56 (by decide) (show (own_A21 : List Value)[56]? = some (.int (6 : Int32)) from rfl) 196 rfl ?_
  refine g_istore w d3_196 198 rfl rfl #[.val (.ref d), .val (.int (0 : Int32)), .val (.int (4 : Int32)), .val (.int (5 : Int32)), .val (.int (6 : Int32)), .val (.int (56 : Int32))] rfl ?_
  refine g_iload w d3_198 rfl 200 rfl ?_
  exact g_ireti w d3_200 (by decide) (by decide) ⟨rfl, rfl⟩
set_option maxRecDepth 65536 in
set_option maxHeartbeats 40000000 in
theorem rmS_5 (l : Launch) (Z : State) (a0 : Array Value) (hw : ∀ d ∈ tables_1, d.before a0 Z = true) (n0 : Nat) (d aV aL aH aU : Addr)  :
    Con l (⟨"com/example/chancebound/chancebound/network/Diagrams", "slot", "(III)I"⟩ : MethodName) prog_35_method_8_code 6 (some .int) ({ frames := 1, cells := 0, slots := 0, locals := 15 } : Room) Z n0 #[(.ref d), (.int (0 : Int32)), (.int (5 : Int32)), (.int (1 : Int32))] ([(d, O_Diagrams (.ref aV) (.ref aL) (.ref aH) (.ref aU) (.int (7 : Int32))), (aV, .inr (.int, own_A18)), (aL, .inr (.int, own_A19)), (aH, .inr (.int, own_A20)), (aU, .inr (.int, own_A21))]) (fun v L' => v = some (.int (28 : Int32)) ∧ L' = [(d, O_Diagrams (.ref aV) (.ref aL) (.ref aH) (.ref aU) (.int (7 : Int32))), (aV, .inr (.int, own_A18)), (aL, .inr (.int, own_A19)), (aH, .inr (.int, own_A20)), (aU, .inr (.int, own_A21))]) := by
  refine Con.of (ws := tables_1) (a0 := a0) pn_4 hw ?_
  intro p e s m below meth cde T kb w
  refine g_entry #[.val (.ref d), .val (.int (0 : Int32)), .val (.int (5 : Int32)), .val (.int (1 : Int32)), .unset, .unset] (by first | (simp [entryFrame, mkF, argsToLocals, Value.category]; done) | rfl) ?_
  refine g_aloadN w d4_0 rfl rfl 1 rfl ?_
  refine g_getf w d4_1 0 rfl 3 rfl 16 rfl Via.refl 4 rfl (fun T w => ?_)
  refine g_alen w d4_4 4 rfl (64 : Int32) rfl 5 rfl ?_
  refine g_iconst w d4_5 (1 : Int32) rfl 6 rfl ?_
  refine g_isub w d4_6 7 rfl ?_
  refine g_int (x' := (63 : Int32)) (by decide) ?_
  refine g_istore w d4_7 9 rfl rfl #[.val (.ref d), .val (.int (0 : Int32)), .val (.int (5 : Int32)), .val (.int (1 : Int32)), .val (.int (63 : Int32)), .unset] rfl ?_
  refine g_iloadN w d4_9 rfl 10 rfl ?_
  refine g_i2l w d4_10 11 rfl ?_
  refine g_long (x' := (0 : Int64)) (by decide) ?_
  refine g_bipush w d4_11 (32 : Int32) rfl 13 rfl ?_
  refine g_lshl w d4_13 14 rfl ?_
  refine g_long (x' := (0 : Int64)) (by decide) ?_
  refine g_iloadN w d4_14 rfl 15 rfl ?_
  refine g_i2l w d4_15 16 rfl ?_
  refine g_long (x' := (5 : Int64)) (by decide) ?_
  refine g_lor w d4_16 17 rfl ?_
  refine g_long (x' := (5 : Int64)) (by decide) ?_
  refine g_ldcl w d4_17 30 rfl 20 rfl ?_
  refine g_lmul w d4_20 21 rfl ?_
  refine g_long (x' := (1663341875487337577 : Int64)) (by decide) ?_
  refine g_iloadN w d4_21 rfl 22 rfl ?_
  refine g_i2l w d4_22 23 rfl ?_
  refine g_long (x' := (1 : Int64)) (by decide) ?_
  refine g_ladd w d4_23 24 rfl ?_
  refine g_long (x' := (1663341875487337578 : Int64)) (by decide) ?_
  refine g_static w (argsL := [(.long (1663341875487337578 : Int64))]) (rest := []) (rm5 l Z a0 hw n0 (1663341875487337578 : Int64) ([(d, O_Diagrams (.ref aV) (.ref aL) (.ref aH) (.ref aU) (.int (7 : Int32))), (aV, .inr (.int, own_A18)), (aL, .inr (.int, own_A19)), (aH, .inr (.int, own_A20)), (aU, .inr (.int, own_A21))])) d4_24 31 rfl 32 rfl 2 rfl 33 rfl ⟨by decide, by decide⟩ pd_0 rfl rfl rfl 0 rfl (by decide) (by decide) (by decide) (by decide) 27 rfl (fun T v L w h => ?_)
  obtain ⟨rfl, hL⟩ := h
  replace w := w.to hL
  refine g_long (x' := (-1180892793112073700 : Int64)) (by decide) ?_
  refine g_iload w d4_27 rfl 29 rfl ?_
  refine g_i2l w d4_29 30 rfl ?_
  refine g_long (x' := (63 : Int64)) (by decide) ?_
  refine g_land w d4_30 31 rfl ?_
  refine g_long (x' := (28 : Int64)) (by decide) ?_
  refine g_l2i w d4_31 32 rfl ?_
  refine g_int (x' := (28 : Int32)) (by decide) ?_
  refine g_istore w d4_32 34 rfl rfl #[.val (.ref d), .val (.int (0 : Int32)), .val (.int (5 : Int32)), .val (.int (1 : Int32)), .val (.int (63 : Int32)), .val (.int (28 : Int32))] rfl ?_
  refine g_aloadN w d4_34 rfl rfl 35 rfl ?_
  refine g_getf w d4_35 0 rfl 3 rfl 16 rfl Via.refl 38 rfl (fun T w => ?_)
  refine g_iload w d4_38 rfl 40 rfl ?_
  refine g_iaload w d4_40 4 rfl 28 (by decide) (show (own_A21 : List Value)[28]? = some (.int (0 : Int32)) from rfl) 41 rfl ?_
  refine g_if_eq w d4_41 104 (by decide) (by decide) 44 rfl (fun hc41 => ?_) (fun h => absurd (by decide) h)
  refine g_iload w d4_104 rfl 106 rfl ?_
  exact g_ireti w d4_106 (by decide) (by decide) ⟨rfl, rfl⟩
def own_A22 : List Value := own_A18.set 7 (.int (0 : Int32))
def own_A23 : List Value := own_A19.set 7 (.int (5 : Int32))
def own_A24 : List Value := own_A20.set 7 (.int (1 : Int32))
def own_A25 : List Value := own_A21.set 28 (.int (7 : Int32))
set_option maxRecDepth 65536 in
set_option maxHeartbeats 40000000 in
theorem rmN_5 (l : Launch) (Z : State) (a0 : Array Value) (hw : ∀ d ∈ tables_1, d.before a0 Z = true) (n0 : Nat) (d aV aL aH aU : Addr)  :
    Con l (⟨"com/example/chancebound/chancebound/network/Diagrams", "node", "(III)I"⟩ : MethodName) prog_35_method_7_code 6 (some .int) ({ frames := 2, cells := 0, slots := 0, locals := 32 } : Room) Z n0 #[(.ref d), (.int (0 : Int32)), (.int (5 : Int32)), (.int (1 : Int32))] ([(d, O_Diagrams (.ref aV) (.ref aL) (.ref aH) (.ref aU) (.int (7 : Int32))), (aV, .inr (.int, own_A18)), (aL, .inr (.int, own_A19)), (aH, .inr (.int, own_A20)), (aU, .inr (.int, own_A21))]) (fun v L' => v = some (.int (7 : Int32)) ∧ L' = [(d, O_Diagrams (.ref aV) (.ref aL) (.ref aH) (.ref aU) (.int (8 : Int32))), (aV, .inr (.int, own_A22)), (aL, .inr (.int, own_A23)), (aH, .inr (.int, own_A24)), (aU, .inr (.int, own_A25))]) := by
  refine Con.of (ws := tables_1) (a0 := a0) pn_3 hw ?_
  intro p e s m below meth cde T kb w
  refine g_entry #[.val (.ref d), .val (.int (0 : Int32)), .val (.int (5 : Int32)), .val (.int (1 : Int32)), .unset, .unset] (by first | (simp [entryFrame, mkF, argsToLocals, Value.category]; done) | rfl) ?_
  refine g_iloadN w d3_0 rfl 1 rfl ?_
  refine g_if_lt w d3_1 24 (by decide) (by decide) 4 rfl (fun h => absurd h (by decide)) (fun hc1 => ?_)
  refine g_iloadN w d3_4 rfl 5 rfl ?_
  refine g_aloadN w d3_5 rfl rfl 6 rfl ?_
  refine g_getf w d3_6 0 rfl 4 rfl 19 rfl Via.refl 9 rfl (fun T w => ?_)
  refine g_icmp_ge w d3_9 24 (by decide) (by decide) 12 rfl (fun h => absurd (by decide) h) (fun hc9 => ?_)
  refine g_iloadN w d3_12 rfl 13 rfl ?_
  refine g_if_lt w d3_13 24 (by decide) (by decide) 16 rfl (fun h => absurd h (by decide)) (fun hc13 => ?_)
  refine g_iloadN w d3_16 rfl 17 rfl ?_
  refine g_aloadN w d3_17 rfl rfl 18 rfl ?_
  refine g_getf w d3_18 0 rfl 4 rfl 19 rfl Via.refl 21 rfl (fun T w => ?_)
  refine g_icmp_lt w d3_21 54 (by decide) (by decide) 24 rfl (fun hc21 => ?_) (fun h => absurd (by decide) h)
  refine g_iloadN w d3_54 rfl 55 rfl ?_
  refine g_if_lt w d3_55 78 (by decide) (by decide) 58 rfl (fun h => absurd h (by decide)) (fun hc55 => ?_)
  refine g_iloadN w d3_58 rfl 59 rfl ?_
  refine g_aloadN w d3_59 rfl rfl 60 rfl ?_
  refine g_getf w d3_60 0 rfl 0 rfl 10 rfl Via.refl 63 rfl (fun T w => ?_)
  refine g_iloadN w d3_63 rfl 64 rfl ?_
  refine g_iaload w d3_64 1 rfl 5 (by decide) (show (own_A18 : List Value)[5]? = some (.int (1 : Int32)) from rfl) 65 rfl ?_
  refine g_icmp_ge w d3_65 78 (by decide) (by decide) 68 rfl (fun h => absurd (by decide) h) (fun hc65 => ?_)
  refine g_iloadN w d3_68 rfl 69 rfl ?_
  refine g_aloadN w d3_69 rfl rfl 70 rfl ?_
  refine g_getf w d3_70 0 rfl 0 rfl 10 rfl Via.refl 73 rfl (fun T w => ?_)
  refine g_iloadN w d3_73 rfl 74 rfl ?_
  refine g_iaload w d3_74 1 rfl 1 (by decide) (show (own_A18 : List Value)[1]? = some (.int (2147483647 : Int32)) from rfl) 75 rfl ?_
  refine g_icmp_lt w d3_75 92 (by decide) (by decide) 78 rfl (fun hc75 => ?_) (fun h => absurd (by decide) h)
  refine g_iloadN w d3_92 rfl 93 rfl ?_
  refine g_iloadN w d3_93 rfl 94 rfl ?_
  refine g_icmp_ne w d3_94 103 (by decide) (by decide) 97 rfl (fun hc94 => ?_) (fun h => absurd h (by decide))
  refine g_aloadN w d3_103 rfl rfl 104 rfl ?_
  refine g_getf w d3_104 0 rfl 4 rfl 19 rfl Via.refl 107 rfl (fun T w => ?_)
  refine g_aloadN w d3_107 rfl rfl 108 rfl ?_
  refine g_getf w d3_108 0 rfl 0 rfl 10 rfl Via.refl 111 rfl (fun T w => ?_)
  refine g_alen w d3_111 1 rfl (64 : Int32) rfl 112 rfl ?_
  refine g_icmp_ne w d3_112 119 (by decide) (by decide) 115 rfl (fun hc112 => ?_) (fun h => absurd h (by decide))
  refine g_aloadN w d3_119 rfl rfl 120 rfl ?_
  refine g_iloadN w d3_120 rfl 121 rfl ?_
  refine g_iloadN w d3_121 rfl 122 rfl ?_
  refine g_iloadN w d3_122 rfl 123 rfl ?_
  refine g_priv w (argsL := [(.int (0 : Int32)), (.int (5 : Int32)), (.int (1 : Int32))]) (rest := []) (rmS_5 l Z a0 hw n0 d aV aL aH aU) d3_123 0 rfl 26 rfl 27 rfl 2 rfl 29 rfl 28 rfl 1 rfl ⟨by decide, by decide⟩ pd_1 rfl rfl rfl 0 rfl (by decide) (by decide) (by decide) (by decide) 126 rfl (fun T v L w h => ?_)
  obtain ⟨rfl, hL⟩ := h
  replace w := w.to hL
  refine g_istore w d3_126 128 rfl rfl #[.val (.ref d), .val (.int (0 : Int32)), .val (.int (5 : Int32)), .val (.int (1 : Int32)), .unset, .val (.int (28 : Int32))] rfl ?_
  refine g_aloadN w d3_128 rfl rfl 129 rfl ?_
  refine g_getf w d3_129 0 rfl 3 rfl 16 rfl Via.refl 132 rfl (fun T w => ?_)
  refine g_iload w d3_132 rfl 134 rfl ?_
  refine g_iaload w d3_134 4 rfl 28 (by decide) (show (own_A21 : List Value)[28]? = some (.int (0 : Int32)) from rfl) 135 rfl ?_
  refine g_if_ne w d3_135 189 (by decide) (by decide) 138 rfl (fun h => absurd (by decide) h) (fun hc135 => ?_)
  refine g_aloadN w d3_138 rfl rfl 139 rfl ?_
  refine g_getf w d3_139 0 rfl 0 rfl 10 rfl Via.refl 142 rfl (fun T w => ?_)
  refine g_aloadN w d3_142 rfl rfl 143 rfl ?_
  refine g_getf w d3_143 0 rfl 4 rfl 19 rfl Via.refl 146 rfl (fun T w => ?_)
  refine g_iloadN w d3_146 rfl 147 rfl ?_
  refine g_iastore w d3_147 1 rfl 7 (by decide) (Nat.le_of_ble_eq_true rfl) (.int (0 : Int32)) rfl 148 rfl (fun T w => ?_)
  replace w := w.to (L' := [(d, O_Diagrams (.ref aV) (.ref aL) (.ref aH) (.ref aU) (.int (7 : Int32))), (aV, .inr (.int, own_A22)), (aL, .inr (.int, own_A19)), (aH, .inr (.int, own_A20)), (aU, .inr (.int, own_A21))]) rfl
  refine g_aloadN w d3_148 rfl rfl 149 rfl ?_
  refine g_getf w d3_149 0 rfl 1 rfl 12 rfl Via.refl 152 rfl (fun T w => ?_)
  refine g_aloadN w d3_152 rfl rfl 153 rfl ?_
  refine g_getf w d3_153 0 rfl 4 rfl 19 rfl Via.refl 156 rfl (fun T w => ?_)
  refine g_iloadN w d3_156 rfl 157 rfl ?_
  refine g_iastore w d3_157 2 rfl 7 (by decide) (Nat.le_of_ble_eq_true rfl) (.int (5 : Int32)) rfl 158 rfl (fun T w => ?_)
  replace w := w.to (L' := [(d, O_Diagrams (.ref aV) (.ref aL) (.ref aH) (.ref aU) (.int (7 : Int32))), (aV, .inr (.int, own_A22)), (aL, .inr (.int, own_A23)), (aH, .inr (.int, own_A20)), (aU, .inr (.int, own_A21))]) rfl
  refine g_aloadN w d3_158 rfl rfl 159 rfl ?_
  refine g_getf w d3_159 0 rfl 2 rfl 14 rfl Via.refl 162 rfl (fun T w => ?_)
  refine g_aloadN w d3_162 rfl rfl 163 rfl ?_
  refine g_getf w d3_163 0 rfl 4 rfl 19 rfl Via.refl 166 rfl (fun T w => ?_)
  refine g_iloadN w d3_166 rfl 167 rfl ?_
  refine g_iastore w d3_167 3 rfl 7 (by decide) (Nat.le_of_ble_eq_true rfl) (.int (1 : Int32)) rfl 168 rfl (fun T w => ?_)
  replace w := w.to (L' := [(d, O_Diagrams (.ref aV) (.ref aL) (.ref aH) (.ref aU) (.int (7 : Int32))), (aV, .inr (.int, own_A22)), (aL, .inr (.int, own_A23)), (aH, .inr (.int, own_A24)), (aU, .inr (.int, own_A21))]) rfl
  refine g_aloadN w d3_168 rfl rfl 169 rfl ?_
  refine g_getf w d3_169 0 rfl 3 rfl 16 rfl Via.refl 172 rfl (fun T w => ?_)
  refine g_iload w d3_172 rfl 174 rfl ?_
  refine g_aloadN w d3_174 rfl rfl 175 rfl ?_
  refine g_getf w d3_175 0 rfl 4 rfl 19 rfl Via.refl 178 rfl (fun T w => ?_)
  refine g_iastore w d3_178 4 rfl 28 (by decide) (Nat.le_of_ble_eq_true rfl) (.int (7 : Int32)) rfl 179 rfl (fun T w => ?_)
  replace w := w.to (L' := [(d, O_Diagrams (.ref aV) (.ref aL) (.ref aH) (.ref aU) (.int (7 : Int32))), (aV, .inr (.int, own_A22)), (aL, .inr (.int, own_A23)), (aH, .inr (.int, own_A24)), (aU, .inr (.int, own_A25))]) rfl
  refine g_aloadN w d3_179 rfl rfl 180 rfl ?_
  refine g_dup w d3_180 rfl 181 rfl ?_
  refine g_getf w d3_181 0 rfl 4 rfl 19 rfl Via.refl 184 rfl (fun T w => ?_)
  refine g_iconst w d3_184 (1 : Int32) rfl 185 rfl ?_
  refine g_iadd w d3_185 186 rfl ?_
  refine g_int (x' := (8 : Int32)) (by decide) ?_
  refine g_putf w d3_186 0 rfl 4 rfl 19 rfl Via.refl 20 (Or.inl rfl) 1 rfl (ty := .int) (by decide) rfl rfl 189 rfl (fun T w => ?_)
  replace w := w.to (L' := [(d, O_Diagrams (.ref aV) (.ref aL) (.ref aH) (.ref aU) (.int (8 : Int32))), (aV, .inr (.int, own_A22)), (aL, .inr (.int, own_A23)), (aH, .inr (.int, own_A24)), (aU, .inr (.int, own_A25))]) rfl
  refine g_aloadN w d3_189 rfl rfl 190 rfl ?_
  refine g_getf w d3_190 0 rfl 3 rfl 16 rfl Via.refl 193 rfl (fun T w => ?_)
  refine g_iload w d3_193 rfl 195 rfl ?_
  refine g_iaload w d3_195 4 rfl 28 (by decide) (show (own_A25 : List Value)[28]? = some (.int (7 : Int32)) from rfl) 196 rfl ?_
  refine g_istore w d3_196 198 rfl rfl #[.val (.ref d), .val (.int (0 : Int32)), .val (.int (5 : Int32)), .val (.int (1 : Int32)), .val (.int (7 : Int32)), .val (.int (28 : Int32))] rfl ?_
  refine g_iload w d3_198 rfl 200 rfl ?_
  exact g_ireti w d3_200 (by decide) (by decide) ⟨rfl, rfl⟩
def own_lows : List Nat := [0, 0, 0, 1, 2, 0, 4, 5]
def own_highs : List Nat := [0, 0, 1, 0, 3, 2, 5, 1]
def own_one : Value := .int (1 : Int32)
/-- the second loop's count from i on -/
def own_run : Nat → List Value → Int32 → Int32
  | 0, _, c => c
  | 1, _, c => c
  | i + 2, vs, c => if vs[i + 2]? = some (.int (0 : Int32)) then own_run (i + 1) vs c else own_run (i + 1) ((vs.set (own_lows.getD (i + 2) 0) own_one).set (own_highs.getD (i + 2) 0) own_one) (c + 1)
/-- the first loop: the roots are reached -/
def own_seed : List Nat → List Value → List Value
  | [], vs => vs
  | r :: rs, vs => own_seed rs (vs.set r own_one)
def own_zero : List Value := List.replicate 8 (.int (0 : Int32))
def own_cnt (rs : List Nat) : Int32 := own_run 7 (own_seed rs own_zero) 0
/-- eight values, each 0 or 1 -/
def own_ok (vs : List Value) : Prop := vs.length = 8 ∧ ∀ i, i < 8 → ∃ z : Int32, vs[i]? = some (.int z)
theorem own_ok_set {vs : List Value} (h : own_ok vs) (i : Nat) : own_ok (vs.set i own_one) := by
  refine ⟨by simpa using h.1, fun j hj => ?_⟩
  by_cases e : i = j
  · subst e; exact ⟨1, List.getElem?_set_self (by rw [h.1]; exact hj)⟩
  · rw [List.getElem?_set_ne e]; exact h.2 j hj
theorem own_ok_zero : own_ok own_zero := ⟨rfl, fun i hi => ⟨0, by unfold own_zero; exact List.getElem?_replicate_of_lt hi⟩⟩
theorem own_run_0 {i : Nat} {vs : List Value} {c : Int32} (hi : 2 ≤ i) (h : vs[i]? = some (.int (0 : Int32))) : own_run i vs c = own_run (i - 1) vs c := by
  obtain ⟨j, rfl⟩ : ∃ j, i = j + 2 := ⟨i - 2, by omega⟩
  show own_run (j + 2) vs c = own_run (j + 1) vs c
  rw [own_run, if_pos h]
theorem own_run_1 {i : Nat} {vs : List Value} {c z : Int32} (hi : 2 ≤ i) (h : vs[i]? = some (.int z)) (hz : ¬ z = 0) : own_run i vs c = own_run (i - 1) ((vs.set (own_lows.getD i 0) own_one).set (own_highs.getD i 0) own_one) (c + 1) := by
  obtain ⟨j, rfl⟩ : ∃ j, i = j + 2 := ⟨i - 2, by omega⟩
  show own_run (j + 2) vs c = own_run (j + 1) _ _
  rw [own_run, if_neg (by rw [h]; intro q; exact hz (Value.int.inj (Option.some.inj q)))]
theorem own_low {i : Nat} (h : i < 8) : ∃ z : Int32, own_A23[i]? = some (.int z) ∧ z.toInt = ((own_lows.getD i 0 : Nat) : Int) ∧ own_lows.getD i 0 < 8 := by
  rcases i with _ | _ | _ | _ | _ | _ | _ | _ | i
  all_goals first | (exfalso; omega) | exact ⟨_, rfl, rfl, by decide⟩
theorem own_high {i : Nat} (h : i < 8) : ∃ z : Int32, own_A24[i]? = some (.int z) ∧ z.toInt = ((own_highs.getD i 0 : Nat) : Int) ∧ own_highs.getD i 0 < 8 := by
  rcases i with _ | _ | _ | _ | _ | _ | _ | _ | i
  all_goals first | (exfalso; omega) | exact ⟨_, rfl, rfl, by decide⟩
theorem own_dec {i : Int32} {n : Nat} (h : i.toInt = (n : Int)) (h0 : 1 ≤ n) : (i + (-1)).toInt = ((n - 1 : Nat) : Int) := by
  have a := c_iadd i (-1)
  have b := (i + (-1)).toInt_lt
  have c := (i + (-1)).le_toInt
  have d := i.toInt_lt
  have k1 : (-1 : Int32).toInt = -1 := rfl
  omega
theorem own_ge1 {i : Int32} {n : Nat} (h : i.toInt = (n : Int)) : (1 : Int32) < i ↔ 2 ≤ n := by
  rw [Int32.lt_iff_toInt_lt, h]
  have k1 : (1 : Int32).toInt = 1 := rfl
  omega
def own_mk (j : Nat) : Int32 := ([0, 0, 1, 2, 7, 9, 31, 41] : List Int32).getD j 0
theorem own_all1 : ∀ a : Fin 8, own_cnt [a.val] = own_bits (own_mk a.val) := by decide +kernel
theorem own_all2 : ∀ a b : Fin 8, own_cnt [a.val, b.val] = own_bits (own_mk a.val ||| own_mk b.val) := by decide +kernel
theorem own_all3 : ∀ a b c : Fin 8, own_cnt [a.val, b.val, c.val] = own_bits ((own_mk a.val ||| own_mk b.val) ||| own_mk c.val) := by decide +kernel
theorem own_all0 : own_cnt [] = own_bits 0 := by decide +kernel
theorem own_ix (u : Int32) : ∃ j : Nat, (u &&& 7).toInt = (j : Int) ∧ j < 8 := by
  have h := c_mask u 7 3 (by decide) (by decide)
  rw [show ((2 ^ 3 : Nat) : Int) = 8 from rfl] at h
  exact ⟨(u &&& 7).toInt.toNat, by omega, by omega⟩
theorem own_id {j : Nat} (h : j < 8) : ∃ z : Int32, ([(.int (0 : Int32)), (.int (1 : Int32)), (.int (2 : Int32)), (.int (3 : Int32)), (.int (4 : Int32)), (.int (5 : Int32)), (.int (6 : Int32)), (.int (7 : Int32))] : List Value)[j]? = some (.int z) ∧ z.toInt = (j : Int) := by
  rcases j with _ | _ | _ | _ | _ | _ | _ | _ | j
  all_goals first | (exfalso; omega) | exact ⟨_, rfl, rfl⟩
theorem own_mkv {j : Nat} (h : j < 8) : ([(.int (0 : Int32)), (.int (0 : Int32)), (.int (1 : Int32)), (.int (2 : Int32)), (.int (7 : Int32)), (.int (9 : Int32)), (.int (31 : Int32)), (.int (41 : Int32))] : List Value)[j]? = some (.int (own_mk j)) := by
  rcases j with _ | _ | _ | _ | _ | _ | _ | _ | j
  all_goals first | (exfalso; omega) | rfl
theorem own_n (a : Int32) : a &&& 3 = 0 ∨ a &&& 3 = 1 ∨ a &&& 3 = 2 ∨ a &&& 3 = 3 := by
  have h := c_mask a 3 2 (by decide) (by decide)
  rw [show ((2 ^ 2 : Nat) : Int) = 4 from rfl] at h
  have k0 : (0 : Int32).toInt = 0 := rfl
  have k1 : (1 : Int32).toInt = 1 := rfl
  have k2 : (2 : Int32).toInt = 2 := rfl
  have k3 : (3 : Int32).toInt = 3 := rfl
  simp only [← Int32.toInt_inj, k0, k1, k2, k3]
  omega

theorem d6_0 : decode prog_35_method_6_code 0 = .ok (.aload_n 0, 1) := by decide +kernel
theorem d6_1 : decode prog_35_method_6_code 1 = .ok (.getfield 25, 3) := by decide +kernel
theorem d6_4 : decode prog_35_method_6_code 4 = .ok (.newarray .boolean, 2) := by decide +kernel
theorem d6_6 : decode prog_35_method_6_code 6 = .ok (.astore_n 2, 1) := by decide +kernel
theorem d6_7 : decode prog_35_method_6_code 7 = .ok (.aload_n 1, 1) := by decide +kernel
theorem d6_8 : decode prog_35_method_6_code 8 = .ok (.astore_n 3, 1) := by decide +kernel
theorem d6_9 : decode prog_35_method_6_code 9 = .ok (.aload_n 3, 1) := by decide +kernel
theorem d6_10 : decode prog_35_method_6_code 10 = .ok (.arraylength, 1) := by decide +kernel
theorem d6_11 : decode prog_35_method_6_code 11 = .ok (.istore 4, 2) := by decide +kernel
theorem d6_13 : decode prog_35_method_6_code 13 = .ok (.iconst 0, 1) := by decide +kernel
theorem d6_14 : decode prog_35_method_6_code 14 = .ok (.istore 5, 2) := by decide +kernel
theorem d6_16 : decode prog_35_method_6_code 16 = .ok (.iload 5, 2) := by decide +kernel
theorem d6_18 : decode prog_35_method_6_code 18 = .ok (.iload 4, 2) := by decide +kernel
theorem d6_20 : decode prog_35_method_6_code 20 = .ok (.if_icmp .ge 20, 3) := by decide +kernel
theorem d6_23 : decode prog_35_method_6_code 23 = .ok (.aload_n 3, 1) := by decide +kernel
theorem d6_24 : decode prog_35_method_6_code 24 = .ok (.iload 5, 2) := by decide +kernel
theorem d6_26 : decode prog_35_method_6_code 26 = .ok (.iaload, 1) := by decide +kernel
theorem d6_27 : decode prog_35_method_6_code 27 = .ok (.istore 6, 2) := by decide +kernel
theorem d6_29 : decode prog_35_method_6_code 29 = .ok (.aload_n 2, 1) := by decide +kernel
theorem d6_30 : decode prog_35_method_6_code 30 = .ok (.iload 6, 2) := by decide +kernel
theorem d6_32 : decode prog_35_method_6_code 32 = .ok (.iconst 1, 1) := by decide +kernel
theorem d6_33 : decode prog_35_method_6_code 33 = .ok (.bastore, 1) := by decide +kernel
theorem d6_34 : decode prog_35_method_6_code 34 = .ok (.iinc 5 1, 3) := by decide +kernel
theorem d6_37 : decode prog_35_method_6_code 37 = .ok (.goto (-21), 3) := by decide +kernel
theorem d6_40 : decode prog_35_method_6_code 40 = .ok (.iconst 0, 1) := by decide +kernel
theorem d6_41 : decode prog_35_method_6_code 41 = .ok (.istore_n 3, 1) := by decide +kernel
theorem d6_42 : decode prog_35_method_6_code 42 = .ok (.aload_n 0, 1) := by decide +kernel
theorem d6_43 : decode prog_35_method_6_code 43 = .ok (.getfield 25, 3) := by decide +kernel
theorem d6_46 : decode prog_35_method_6_code 46 = .ok (.iconst 1, 1) := by decide +kernel
theorem d6_47 : decode prog_35_method_6_code 47 = .ok (.isub, 1) := by decide +kernel
theorem d6_48 : decode prog_35_method_6_code 48 = .ok (.istore 4, 2) := by decide +kernel
theorem d6_50 : decode prog_35_method_6_code 50 = .ok (.iload 4, 2) := by decide +kernel
theorem d6_52 : decode prog_35_method_6_code 52 = .ok (.iconst 1, 1) := by decide +kernel
theorem d6_53 : decode prog_35_method_6_code 53 = .ok (.if_icmp .le 39, 3) := by decide +kernel
theorem d6_56 : decode prog_35_method_6_code 56 = .ok (.aload_n 2, 1) := by decide +kernel
theorem d6_57 : decode prog_35_method_6_code 57 = .ok (.iload 4, 2) := by decide +kernel
theorem d6_59 : decode prog_35_method_6_code 59 = .ok (.baload, 1) := by decide +kernel
theorem d6_60 : decode prog_35_method_6_code 60 = .ok (.ifCond .eq 26, 3) := by decide +kernel
theorem d6_63 : decode prog_35_method_6_code 63 = .ok (.aload_n 2, 1) := by decide +kernel
theorem d6_64 : decode prog_35_method_6_code 64 = .ok (.aload_n 0, 1) := by decide +kernel
theorem d6_65 : decode prog_35_method_6_code 65 = .ok (.getfield 15, 3) := by decide +kernel
theorem d6_68 : decode prog_35_method_6_code 68 = .ok (.iload 4, 2) := by decide +kernel
theorem d6_70 : decode prog_35_method_6_code 70 = .ok (.iaload, 1) := by decide +kernel
theorem d6_71 : decode prog_35_method_6_code 71 = .ok (.iconst 1, 1) := by decide +kernel
theorem d6_72 : decode prog_35_method_6_code 72 = .ok (.bastore, 1) := by decide +kernel
theorem d6_73 : decode prog_35_method_6_code 73 = .ok (.aload_n 2, 1) := by decide +kernel
theorem d6_74 : decode prog_35_method_6_code 74 = .ok (.aload_n 0, 1) := by decide +kernel
theorem d6_75 : decode prog_35_method_6_code 75 = .ok (.getfield 18, 3) := by decide +kernel
theorem d6_78 : decode prog_35_method_6_code 78 = .ok (.iload 4, 2) := by decide +kernel
theorem d6_80 : decode prog_35_method_6_code 80 = .ok (.iaload, 1) := by decide +kernel
theorem d6_81 : decode prog_35_method_6_code 81 = .ok (.iconst 1, 1) := by decide +kernel
theorem d6_82 : decode prog_35_method_6_code 82 = .ok (.bastore, 1) := by decide +kernel
theorem d6_83 : decode prog_35_method_6_code 83 = .ok (.iinc 3 1, 3) := by decide +kernel
theorem d6_86 : decode prog_35_method_6_code 86 = .ok (.iinc 4 (-1), 3) := by decide +kernel
theorem d6_89 : decode prog_35_method_6_code 89 = .ok (.goto (-39), 3) := by decide +kernel
theorem d6_92 : decode prog_35_method_6_code 92 = .ok (.iload_n 3, 1) := by decide +kernel
theorem d6_93 : decode prog_35_method_6_code 93 = .ok (.ireturn, 1) := by decide +kernel
theorem pn_6 : plainFor (⟨"com/example/chancebound/chancebound/network/Diagrams", "count", "([I)I"⟩ : MethodName) = true := plainFor_of_name (by first | (simp [plainName, overriddenIn]; done) | decide +kernel)
set_option maxRecDepth 65536 in
set_option maxHeartbeats 40000000 in
theorem rmT_0 (l : Launch) (Z : State) (a0 : Array Value) (hw : ∀ d ∈ tables_1, d.before a0 Z = true) (n0 : Nat) (d aV aL aH aU : Addr) (xi xm ro : Addr)   :
    Con l (⟨"com/example/chancebound/chancebound/network/Diagrams", "count", "([I)I"⟩ : MethodName) prog_35_method_6_code 7 (some .int) ({ frames := 0, cells := 1, slots := 8, locals := 0 } : Room) Z n0 #[(.ref d), (.ref ro)] ([(d, O_Diagrams (.ref aV) (.ref aL) (.ref aH) (.ref aU) (.int (8 : Int32))), (aV, .inr (.int, own_A22)), (aL, .inr (.int, own_A23)), (aH, .inr (.int, own_A24)), (aU, .inr (.int, own_A25)), (xi, .inr (.int, [(.int (0 : Int32)), (.int (1 : Int32)), (.int (2 : Int32)), (.int (3 : Int32)), (.int (4 : Int32)), (.int (5 : Int32)), (.int (6 : Int32)), (.int (7 : Int32))])), (xm, .inr (.int, [(.int (0 : Int32)), (.int (0 : Int32)), (.int (1 : Int32)), (.int (2 : Int32)), (.int (7 : Int32)), (.int (9 : Int32)), (.int (31 : Int32)), (.int (41 : Int32))])), (ro, .inr (.int, []))]) (fun v L' => v = some (.int (own_cnt [])) ∧ ∃ re vs, L' = [(d, O_Diagrams (.ref aV) (.ref aL) (.ref aH) (.ref aU) (.int (8 : Int32))), (aV, .inr (.int, own_A22)), (aL, .inr (.int, own_A23)), (aH, .inr (.int, own_A24)), (aU, .inr (.int, own_A25)), (xi, .inr (.int, [(.int (0 : Int32)), (.int (1 : Int32)), (.int (2 : Int32)), (.int (3 : Int32)), (.int (4 : Int32)), (.int (5 : Int32)), (.int (6 : Int32)), (.int (7 : Int32))])), (xm, .inr (.int, [(.int (0 : Int32)), (.int (0 : Int32)), (.int (1 : Int32)), (.int (2 : Int32)), (.int (7 : Int32)), (.int (9 : Int32)), (.int (31 : Int32)), (.int (41 : Int32))])), (ro, .inr (.int, [])), (re, .inr (.boolean, vs))]) := by
  refine Con.of (ws := tables_1) (a0 := a0) pn_6 hw ?_
  intro p e s m below meth cde T kb w
  refine g_entry #[.val (.ref d), .val (.ref ro), .unset, .unset, .unset, .unset, .unset] (by first | (simp [entryFrame, mkF, argsToLocals, Value.category]; done) | rfl) ?_
  refine g_aloadN w d6_0 rfl rfl 1 rfl ?_
  refine g_getf w d6_1 0 rfl 4 rfl 19 rfl Via.refl 4 rfl (fun T w => ?_)
  refine g_newarr w d6_4 40 rfl 8 8 (by decide) (by decide) (by decide) own_zero rfl (by decide) (by decide) 6 rfl (fun T re w => ?_)
  replace w := w.to (L' := [(d, O_Diagrams (.ref aV) (.ref aL) (.ref aH) (.ref aU) (.int (8 : Int32))), (aV, .inr (.int, own_A22)), (aL, .inr (.int, own_A23)), (aH, .inr (.int, own_A24)), (aU, .inr (.int, own_A25)), (xi, .inr (.int, [(.int (0 : Int32)), (.int (1 : Int32)), (.int (2 : Int32)), (.int (3 : Int32)), (.int (4 : Int32)), (.int (5 : Int32)), (.int (6 : Int32)), (.int (7 : Int32))])), (xm, .inr (.int, [(.int (0 : Int32)), (.int (0 : Int32)), (.int (1 : Int32)), (.int (2 : Int32)), (.int (7 : Int32)), (.int (9 : Int32)), (.int (31 : Int32)), (.int (41 : Int32))])), (ro, .inr (.int, [])), (re, .inr (.boolean, own_seed [] own_zero))]) rfl
  refine g_astoreN w d6_6 7 rfl rfl #[.val (.ref d), .val (.ref ro), .val (.ref re), .unset, .unset, .unset, .unset] rfl ?_
  refine g_aloadN w d6_7 rfl rfl 8 rfl ?_
  refine g_astoreN w d6_8 9 rfl rfl #[.val (.ref d), .val (.ref ro), .val (.ref re), .val (.ref ro), .unset, .unset, .unset] rfl ?_
  refine g_aloadN w d6_9 rfl rfl 10 rfl ?_
  refine g_alen w d6_10 7 rfl (0 : Int32) rfl 11 rfl ?_
  refine g_istore w d6_11 13 rfl rfl #[.val (.ref d), .val (.ref ro), .val (.ref re), .val (.ref ro), .val (.int (0 : Int32)), .unset, .unset] rfl ?_
  refine g_iconst w d6_13 (0 : Int32) rfl 14 rfl ?_
  refine g_istore w d6_14 16 rfl rfl #[.val (.ref d), .val (.ref ro), .val (.ref re), .val (.ref ro), .val (.int (0 : Int32)), .val (.int (0 : Int32)), .unset] rfl ?_
  refine g_iload w d6_16 rfl 18 rfl ?_
  refine g_iload w d6_18 rfl 20 rfl ?_
  refine g_icmp_ge w d6_20 40 (by decide) (by decide) 23 rfl (fun hc20 => ?_) (fun h => absurd h (by decide))
  refine g_iconst w d6_40 (0 : Int32) rfl 41 rfl ?_
  refine g_istoreN w d6_41 42 rfl rfl #[.val (.ref d), .val (.ref ro), .val (.ref re), .val (.int (0 : Int32)), .val (.int (0 : Int32)), .val (.int (0 : Int32)), .unset] rfl ?_
  refine g_aloadN w d6_42 rfl rfl 43 rfl ?_
  refine g_getf w d6_43 0 rfl 4 rfl 19 rfl Via.refl 46 rfl (fun T w => ?_)
  refine g_iconst w d6_46 (1 : Int32) rfl 47 rfl ?_
  refine g_isub w d6_47 48 rfl ?_
  refine g_int (x' := (7 : Int32)) (by decide) ?_
  refine g_istore w d6_48 50 rfl rfl #[.val (.ref d), .val (.ref ro), .val (.ref re), .val (.int (0 : Int32)), .val (.int (7 : Int32)), .val (.int (0 : Int32)), .unset] rfl ?_
  replace w := w.to (L' := [(d, O_Diagrams (.ref aV) (.ref aL) (.ref aH) (.ref aU) (.int (8 : Int32))), (aV, .inr (.int, own_A22)), (aL, .inr (.int, own_A23)), (aH, .inr (.int, own_A24)), (aU, .inr (.int, own_A25)), (xi, .inr (.int, [(.int (0 : Int32)), (.int (1 : Int32)), (.int (2 : Int32)), (.int (3 : Int32)), (.int (4 : Int32)), (.int (5 : Int32)), (.int (6 : Int32)), (.int (7 : Int32))])), (xm, .inr (.int, [(.int (0 : Int32)), (.int (0 : Int32)), (.int (1 : Int32)), (.int (2 : Int32)), (.int (7 : Int32)), (.int (9 : Int32)), (.int (31 : Int32)), (.int (41 : Int32))])), (ro, .inr (.int, [])), (re, .inr (.boolean, own_seed [] own_zero))]) rfl
  have hok : own_ok (own_seed [] own_zero) := by
    simp only [own_seed]
    exact own_ok_zero
  have LB : ∀ (n : Nat) (T : State) (i cc : Int32) (vs : List Value), i.toInt = (n : Int) → n < 8 → 1 ≤ n → own_ok vs → own_run n vs cc = own_cnt [] → Wd p l e ({ frames := 0, cells := 1, slots := 8, locals := 0 } : Room) s m #[(.ref d), (.ref ro)] below meth cde Z a0 n0 kb tables_1 (⟨"com/example/chancebound/chancebound/network/Diagrams", "count", "([I)I"⟩ : MethodName) prog_35_method_6_code 7 (some .int) T ([(d, O_Diagrams (.ref aV) (.ref aL) (.ref aH) (.ref aU) (.int (8 : Int32))), (aV, .inr (.int, own_A22)), (aL, .inr (.int, own_A23)), (aH, .inr (.int, own_A24)), (aU, .inr (.int, own_A25)), (xi, .inr (.int, [(.int (0 : Int32)), (.int (1 : Int32)), (.int (2 : Int32)), (.int (3 : Int32)), (.int (4 : Int32)), (.int (5 : Int32)), (.int (6 : Int32)), (.int (7 : Int32))])), (xm, .inr (.int, [(.int (0 : Int32)), (.int (0 : Int32)), (.int (1 : Int32)), (.int (2 : Int32)), (.int (7 : Int32)), (.int (9 : Int32)), (.int (31 : Int32)), (.int (41 : Int32))])), (ro, .inr (.int, [])), (re, .inr (.boolean, vs))]) (0 + 1) (0 + 8) → Go p e below Z n0 kb (EndN s ({ frames := 0, cells := 1, slots := 8, locals := 0 } : Room).cells ({ frames := 0, cells := 1, slots := 8, locals := 0 } : Room).slots) (fun v L' => v = some (.int (own_cnt [])) ∧ ∃ re vs, L' = [(d, O_Diagrams (.ref aV) (.ref aL) (.ref aH) (.ref aU) (.int (8 : Int32))), (aV, .inr (.int, own_A22)), (aL, .inr (.int, own_A23)), (aH, .inr (.int, own_A24)), (aU, .inr (.int, own_A25)), (xi, .inr (.int, [(.int (0 : Int32)), (.int (1 : Int32)), (.int (2 : Int32)), (.int (3 : Int32)), (.int (4 : Int32)), (.int (5 : Int32)), (.int (6 : Int32)), (.int (7 : Int32))])), (xm, .inr (.int, [(.int (0 : Int32)), (.int (0 : Int32)), (.int (1 : Int32)), (.int (2 : Int32)), (.int (7 : Int32)), (.int (9 : Int32)), (.int (31 : Int32)), (.int (41 : Int32))])), (ro, .inr (.int, [])), (re, .inr (.boolean, vs))]) T (mkF m 50 #[.val (.ref d), .val (.ref ro), .val (.ref re), .val (.int cc), .val (.int i), .val (.int (0 : Int32)), .unset] []) := by
    intro n
    induction n with
    | zero =>
      intro T i cc vs hi h8 h1 hok hrun w
      exfalso; omega
    | succ n ih =>
      intro T i cc vs hi h8 h1 hok hrun w
      by_cases hn1 : n = 0
      · subst hn1
        refine g_iload w d6_50 rfl 52 rfl ?_
        refine g_iconst w d6_52 (1 : Int32) rfl 53 rfl ?_
        refine g_icmp_le w d6_53 92 (by decide) (by decide) 56 rfl (fun hc53 => ?_) (fun h => absurd h (fun q => by have := (own_ge1 hi).mp q; omega))
        refine g_iloadN w d6_92 rfl 93 rfl ?_
        exact g_ireti w d6_93 (by decide) (by decide) ⟨by rw [← hrun]; rfl, re, vs, rfl⟩
      · obtain ⟨zb, hzb⟩ := hok.2 (n + 1) h8
        obtain ⟨zl, hzl1, hzl2, hzl3⟩ := own_low h8
        obtain ⟨zh, hzh1, hzh2, hzh3⟩ := own_high h8
        refine g_iload w d6_50 rfl 52 rfl ?_
        refine g_iconst w d6_52 (1 : Int32) rfl 53 rfl ?_
        refine g_icmp_le w d6_53 92 (by decide) (by decide) 56 rfl (fun h => absurd ((own_ge1 hi).mpr (by omega)) h) (fun hc53 => ?_)
        refine g_aloadN w d6_56 rfl rfl 57 rfl ?_
        refine g_iload w d6_57 rfl 59 rfl ?_
        refine g_zaload w d6_59 8 rfl (n + 1) hi hzb 60 rfl ?_
        refine g_if_eq w d6_60 86 (by decide) (by decide) 63 rfl (fun hc60 => ?_) (fun hc60 => ?_)
        · -- pc 86 (taken: zb = (0 : Int32))
          refine g_iinc w d6_86 89 rfl rfl rfl #[.val (.ref d), .val (.ref ro), .val (.ref re), .val (.int cc), .val (.int (i + (-1 : Int32))), .val (.int (0 : Int32)), .unset] rfl ?_
          refine g_goto w d6_89 50 (by decide) (by decide) ?_
          exact ih T (i + (-1)) cc vs (own_dec hi (by omega)) (by omega) (by omega) hok (by rw [← hrun, own_run_0 (i := n + 1) (by omega) (by rw [hzb, hc60])]; rfl) w
        · -- pc 63 (on: not zb = (0 : Int32))
          refine g_aloadN w d6_63 rfl rfl 64 rfl ?_
          refine g_aloadN w d6_64 rfl rfl 65 rfl ?_
          refine g_getf w d6_65 0 rfl 1 rfl 12 rfl Via.refl 68 rfl (fun T w => ?_)
          refine g_iload w d6_68 rfl 70 rfl ?_
          refine g_iaload w d6_70 2 rfl (n + 1) hi hzl1 71 rfl ?_
          refine g_iconst w d6_71 (1 : Int32) rfl 72 rfl ?_
          refine g_zastore w d6_72 8 rfl (own_lows.getD (n + 1) 0) hzl2 (by rw [hok.1]; exact hzl3) own_one rfl 73 rfl (fun T w => ?_)
          replace w := w.to (L' := [(d, O_Diagrams (.ref aV) (.ref aL) (.ref aH) (.ref aU) (.int (8 : Int32))), (aV, .inr (.int, own_A22)), (aL, .inr (.int, own_A23)), (aH, .inr (.int, own_A24)), (aU, .inr (.int, own_A25)), (xi, .inr (.int, [(.int (0 : Int32)), (.int (1 : Int32)), (.int (2 : Int32)), (.int (3 : Int32)), (.int (4 : Int32)), (.int (5 : Int32)), (.int (6 : Int32)), (.int (7 : Int32))])), (xm, .inr (.int, [(.int (0 : Int32)), (.int (0 : Int32)), (.int (1 : Int32)), (.int (2 : Int32)), (.int (7 : Int32)), (.int (9 : Int32)), (.int (31 : Int32)), (.int (41 : Int32))])), (ro, .inr (.int, [])), (re, .inr (.boolean, vs.set (own_lows.getD (n + 1) 0) own_one))]) rfl
          refine g_aloadN w d6_73 rfl rfl 74 rfl ?_
          refine g_aloadN w d6_74 rfl rfl 75 rfl ?_
          refine g_getf w d6_75 0 rfl 2 rfl 14 rfl Via.refl 78 rfl (fun T w => ?_)
          refine g_iload w d6_78 rfl 80 rfl ?_
          refine g_iaload w d6_80 3 rfl (n + 1) hi hzh1 81 rfl ?_
          refine g_iconst w d6_81 (1 : Int32) rfl 82 rfl ?_
          refine g_zastore w d6_82 8 rfl (own_highs.getD (n + 1) 0) hzh2 (by rw [List.length_set, hok.1]; exact hzh3) own_one rfl 83 rfl (fun T w => ?_)
          replace w := w.to (L' := [(d, O_Diagrams (.ref aV) (.ref aL) (.ref aH) (.ref aU) (.int (8 : Int32))), (aV, .inr (.int, own_A22)), (aL, .inr (.int, own_A23)), (aH, .inr (.int, own_A24)), (aU, .inr (.int, own_A25)), (xi, .inr (.int, [(.int (0 : Int32)), (.int (1 : Int32)), (.int (2 : Int32)), (.int (3 : Int32)), (.int (4 : Int32)), (.int (5 : Int32)), (.int (6 : Int32)), (.int (7 : Int32))])), (xm, .inr (.int, [(.int (0 : Int32)), (.int (0 : Int32)), (.int (1 : Int32)), (.int (2 : Int32)), (.int (7 : Int32)), (.int (9 : Int32)), (.int (31 : Int32)), (.int (41 : Int32))])), (ro, .inr (.int, [])), (re, .inr (.boolean, (vs.set (own_lows.getD (n + 1) 0) own_one).set (own_highs.getD (n + 1) 0) own_one))]) rfl
          refine g_iinc w d6_83 86 rfl rfl rfl #[.val (.ref d), .val (.ref ro), .val (.ref re), .val (.int (cc + (1 : Int32))), .val (.int i), .val (.int (0 : Int32)), .unset] rfl ?_
          refine g_iinc w d6_86 89 rfl rfl rfl #[.val (.ref d), .val (.ref ro), .val (.ref re), .val (.int (cc + (1 : Int32))), .val (.int (i + (-1 : Int32))), .val (.int (0 : Int32)), .unset] rfl ?_
          refine g_goto w d6_89 50 (by decide) (by decide) ?_
          exact ih T (i + (-1)) (cc + 1) _ (own_dec hi (by omega)) (by omega) (by omega) (own_ok_set (own_ok_set hok _) _) (by rw [← hrun, own_run_1 (i := n + 1) (by omega) hzb hc60]; rfl) w
  exact LB 7 T 7 0 _ rfl (by decide) (by decide) hok rfl w
set_option maxRecDepth 65536 in
set_option maxHeartbeats 40000000 in
theorem rmT_1 (l : Launch) (Z : State) (a0 : Array Value) (hw : ∀ d ∈ tables_1, d.before a0 Z = true) (n0 : Nat) (d aV aL aH aU : Addr) (xi xm ro : Addr) (z0 : Int32) (j0 : Nat) (hj0 : z0.toInt = (j0 : Int)) (hl0 : j0 < 8) :
    Con l (⟨"com/example/chancebound/chancebound/network/Diagrams", "count", "([I)I"⟩ : MethodName) prog_35_method_6_code 7 (some .int) ({ frames := 0, cells := 1, slots := 8, locals := 0 } : Room) Z n0 #[(.ref d), (.ref ro)] ([(d, O_Diagrams (.ref aV) (.ref aL) (.ref aH) (.ref aU) (.int (8 : Int32))), (aV, .inr (.int, own_A22)), (aL, .inr (.int, own_A23)), (aH, .inr (.int, own_A24)), (aU, .inr (.int, own_A25)), (xi, .inr (.int, [(.int (0 : Int32)), (.int (1 : Int32)), (.int (2 : Int32)), (.int (3 : Int32)), (.int (4 : Int32)), (.int (5 : Int32)), (.int (6 : Int32)), (.int (7 : Int32))])), (xm, .inr (.int, [(.int (0 : Int32)), (.int (0 : Int32)), (.int (1 : Int32)), (.int (2 : Int32)), (.int (7 : Int32)), (.int (9 : Int32)), (.int (31 : Int32)), (.int (41 : Int32))])), (ro, .inr (.int, [(.int z0)]))]) (fun v L' => v = some (.int (own_cnt [j0])) ∧ ∃ re vs, L' = [(d, O_Diagrams (.ref aV) (.ref aL) (.ref aH) (.ref aU) (.int (8 : Int32))), (aV, .inr (.int, own_A22)), (aL, .inr (.int, own_A23)), (aH, .inr (.int, own_A24)), (aU, .inr (.int, own_A25)), (xi, .inr (.int, [(.int (0 : Int32)), (.int (1 : Int32)), (.int (2 : Int32)), (.int (3 : Int32)), (.int (4 : Int32)), (.int (5 : Int32)), (.int (6 : Int32)), (.int (7 : Int32))])), (xm, .inr (.int, [(.int (0 : Int32)), (.int (0 : Int32)), (.int (1 : Int32)), (.int (2 : Int32)), (.int (7 : Int32)), (.int (9 : Int32)), (.int (31 : Int32)), (.int (41 : Int32))])), (ro, .inr (.int, [(.int z0)])), (re, .inr (.boolean, vs))]) := by
  refine Con.of (ws := tables_1) (a0 := a0) pn_6 hw ?_
  intro p e s m below meth cde T kb w
  refine g_entry #[.val (.ref d), .val (.ref ro), .unset, .unset, .unset, .unset, .unset] (by first | (simp [entryFrame, mkF, argsToLocals, Value.category]; done) | rfl) ?_
  refine g_aloadN w d6_0 rfl rfl 1 rfl ?_
  refine g_getf w d6_1 0 rfl 4 rfl 19 rfl Via.refl 4 rfl (fun T w => ?_)
  refine g_newarr w d6_4 40 rfl 8 8 (by decide) (by decide) (by decide) own_zero rfl (by decide) (by decide) 6 rfl (fun T re w => ?_)
  replace w := w.to (L' := [(d, O_Diagrams (.ref aV) (.ref aL) (.ref aH) (.ref aU) (.int (8 : Int32))), (aV, .inr (.int, own_A22)), (aL, .inr (.int, own_A23)), (aH, .inr (.int, own_A24)), (aU, .inr (.int, own_A25)), (xi, .inr (.int, [(.int (0 : Int32)), (.int (1 : Int32)), (.int (2 : Int32)), (.int (3 : Int32)), (.int (4 : Int32)), (.int (5 : Int32)), (.int (6 : Int32)), (.int (7 : Int32))])), (xm, .inr (.int, [(.int (0 : Int32)), (.int (0 : Int32)), (.int (1 : Int32)), (.int (2 : Int32)), (.int (7 : Int32)), (.int (9 : Int32)), (.int (31 : Int32)), (.int (41 : Int32))])), (ro, .inr (.int, [(.int z0)])), (re, .inr (.boolean, own_seed [] own_zero))]) rfl
  refine g_astoreN w d6_6 7 rfl rfl #[.val (.ref d), .val (.ref ro), .val (.ref re), .unset, .unset, .unset, .unset] rfl ?_
  refine g_aloadN w d6_7 rfl rfl 8 rfl ?_
  refine g_astoreN w d6_8 9 rfl rfl #[.val (.ref d), .val (.ref ro), .val (.ref re), .val (.ref ro), .unset, .unset, .unset] rfl ?_
  refine g_aloadN w d6_9 rfl rfl 10 rfl ?_
  refine g_alen w d6_10 7 rfl (1 : Int32) rfl 11 rfl ?_
  refine g_istore w d6_11 13 rfl rfl #[.val (.ref d), .val (.ref ro), .val (.ref re), .val (.ref ro), .val (.int (1 : Int32)), .unset, .unset] rfl ?_
  refine g_iconst w d6_13 (0 : Int32) rfl 14 rfl ?_
  refine g_istore w d6_14 16 rfl rfl #[.val (.ref d), .val (.ref ro), .val (.ref re), .val (.ref ro), .val (.int (1 : Int32)), .val (.int (0 : Int32)), .unset] rfl ?_
  refine g_iload w d6_16 rfl 18 rfl ?_
  refine g_iload w d6_18 rfl 20 rfl ?_
  refine g_icmp_ge w d6_20 40 (by decide) (by decide) 23 rfl (fun h => absurd (by decide) h) (fun hc20 => ?_)
  refine g_aloadN w d6_23 rfl rfl 24 rfl ?_
  refine g_iload w d6_24 rfl 26 rfl ?_
  refine g_iaload w d6_26 7 rfl 0 (by decide) rfl 27 rfl ?_
  refine g_istore w d6_27 29 rfl rfl #[.val (.ref d), .val (.ref ro), .val (.ref re), .val (.ref ro), .val (.int (1 : Int32)), .val (.int (0 : Int32)), .val (.int z0)] rfl ?_
  refine g_aloadN w d6_29 rfl rfl 30 rfl ?_
  refine g_iload w d6_30 rfl 32 rfl ?_
  refine g_iconst w d6_32 (1 : Int32) rfl 33 rfl ?_
  refine g_zastore w d6_33 8 rfl j0 hj0 (by first | exact hl0 | (simp only [own_seed, List.length_set]; exact hl0)) own_one rfl 34 rfl (fun T w => ?_)
  replace w := w.to (L' := [(d, O_Diagrams (.ref aV) (.ref aL) (.ref aH) (.ref aU) (.int (8 : Int32))), (aV, .inr (.int, own_A22)), (aL, .inr (.int, own_A23)), (aH, .inr (.int, own_A24)), (aU, .inr (.int, own_A25)), (xi, .inr (.int, [(.int (0 : Int32)), (.int (1 : Int32)), (.int (2 : Int32)), (.int (3 : Int32)), (.int (4 : Int32)), (.int (5 : Int32)), (.int (6 : Int32)), (.int (7 : Int32))])), (xm, .inr (.int, [(.int (0 : Int32)), (.int (0 : Int32)), (.int (1 : Int32)), (.int (2 : Int32)), (.int (7 : Int32)), (.int (9 : Int32)), (.int (31 : Int32)), (.int (41 : Int32))])), (ro, .inr (.int, [(.int z0)])), (re, .inr (.boolean, (own_seed [] own_zero).set j0 own_one))]) rfl
  refine g_iinc w d6_34 37 rfl rfl (by decide) #[.val (.ref d), .val (.ref ro), .val (.ref re), .val (.ref ro), .val (.int (1 : Int32)), .val (.int (1 : Int32)), .val (.int z0)] rfl ?_
  refine g_goto w d6_37 16 (by decide) (by decide) ?_
  refine g_iload w d6_16 rfl 18 rfl ?_
  refine g_iload w d6_18 rfl 20 rfl ?_
  refine g_icmp_ge w d6_20 40 (by decide) (by decide) 23 rfl (fun hc20 => ?_) (fun h => absurd h (by decide))
  refine g_iconst w d6_40 (0 : Int32) rfl 41 rfl ?_
  refine g_istoreN w d6_41 42 rfl rfl #[.val (.ref d), .val (.ref ro), .val (.ref re), .val (.int (0 : Int32)), .val (.int (1 : Int32)), .val (.int (1 : Int32)), .val (.int z0)] rfl ?_
  refine g_aloadN w d6_42 rfl rfl 43 rfl ?_
  refine g_getf w d6_43 0 rfl 4 rfl 19 rfl Via.refl 46 rfl (fun T w => ?_)
  refine g_iconst w d6_46 (1 : Int32) rfl 47 rfl ?_
  refine g_isub w d6_47 48 rfl ?_
  refine g_int (x' := (7 : Int32)) (by decide) ?_
  refine g_istore w d6_48 50 rfl rfl #[.val (.ref d), .val (.ref ro), .val (.ref re), .val (.int (0 : Int32)), .val (.int (7 : Int32)), .val (.int (1 : Int32)), .val (.int z0)] rfl ?_
  replace w := w.to (L' := [(d, O_Diagrams (.ref aV) (.ref aL) (.ref aH) (.ref aU) (.int (8 : Int32))), (aV, .inr (.int, own_A22)), (aL, .inr (.int, own_A23)), (aH, .inr (.int, own_A24)), (aU, .inr (.int, own_A25)), (xi, .inr (.int, [(.int (0 : Int32)), (.int (1 : Int32)), (.int (2 : Int32)), (.int (3 : Int32)), (.int (4 : Int32)), (.int (5 : Int32)), (.int (6 : Int32)), (.int (7 : Int32))])), (xm, .inr (.int, [(.int (0 : Int32)), (.int (0 : Int32)), (.int (1 : Int32)), (.int (2 : Int32)), (.int (7 : Int32)), (.int (9 : Int32)), (.int (31 : Int32)), (.int (41 : Int32))])), (ro, .inr (.int, [(.int z0)])), (re, .inr (.boolean, own_seed [j0] own_zero))]) rfl
  have hok : own_ok (own_seed [j0] own_zero) := by
    simp only [own_seed]
    exact own_ok_set own_ok_zero _
  have LB : ∀ (n : Nat) (T : State) (i cc : Int32) (vs : List Value), i.toInt = (n : Int) → n < 8 → 1 ≤ n → own_ok vs → own_run n vs cc = own_cnt [j0] → Wd p l e ({ frames := 0, cells := 1, slots := 8, locals := 0 } : Room) s m #[(.ref d), (.ref ro)] below meth cde Z a0 n0 kb tables_1 (⟨"com/example/chancebound/chancebound/network/Diagrams", "count", "([I)I"⟩ : MethodName) prog_35_method_6_code 7 (some .int) T ([(d, O_Diagrams (.ref aV) (.ref aL) (.ref aH) (.ref aU) (.int (8 : Int32))), (aV, .inr (.int, own_A22)), (aL, .inr (.int, own_A23)), (aH, .inr (.int, own_A24)), (aU, .inr (.int, own_A25)), (xi, .inr (.int, [(.int (0 : Int32)), (.int (1 : Int32)), (.int (2 : Int32)), (.int (3 : Int32)), (.int (4 : Int32)), (.int (5 : Int32)), (.int (6 : Int32)), (.int (7 : Int32))])), (xm, .inr (.int, [(.int (0 : Int32)), (.int (0 : Int32)), (.int (1 : Int32)), (.int (2 : Int32)), (.int (7 : Int32)), (.int (9 : Int32)), (.int (31 : Int32)), (.int (41 : Int32))])), (ro, .inr (.int, [(.int z0)])), (re, .inr (.boolean, vs))]) (0 + 1) (0 + 8) → Go p e below Z n0 kb (EndN s ({ frames := 0, cells := 1, slots := 8, locals := 0 } : Room).cells ({ frames := 0, cells := 1, slots := 8, locals := 0 } : Room).slots) (fun v L' => v = some (.int (own_cnt [j0])) ∧ ∃ re vs, L' = [(d, O_Diagrams (.ref aV) (.ref aL) (.ref aH) (.ref aU) (.int (8 : Int32))), (aV, .inr (.int, own_A22)), (aL, .inr (.int, own_A23)), (aH, .inr (.int, own_A24)), (aU, .inr (.int, own_A25)), (xi, .inr (.int, [(.int (0 : Int32)), (.int (1 : Int32)), (.int (2 : Int32)), (.int (3 : Int32)), (.int (4 : Int32)), (.int (5 : Int32)), (.int (6 : Int32)), (.int (7 : Int32))])), (xm, .inr (.int, [(.int (0 : Int32)), (.int (0 : Int32)), (.int (1 : Int32)), (.int (2 : Int32)), (.int (7 : Int32)), (.int (9 : Int32)), (.int (31 : Int32)), (.int (41 : Int32))])), (ro, .inr (.int, [(.int z0)])), (re, .inr (.boolean, vs))]) T (mkF m 50 #[.val (.ref d), .val (.ref ro), .val (.ref re), .val (.int cc), .val (.int i), .val (.int (1 : Int32)), .val (.int z0)] []) := by
    intro n
    induction n with
    | zero =>
      intro T i cc vs hi h8 h1 hok hrun w
      exfalso; omega
    | succ n ih =>
      intro T i cc vs hi h8 h1 hok hrun w
      by_cases hn1 : n = 0
      · subst hn1
        refine g_iload w d6_50 rfl 52 rfl ?_
        refine g_iconst w d6_52 (1 : Int32) rfl 53 rfl ?_
        refine g_icmp_le w d6_53 92 (by decide) (by decide) 56 rfl (fun hc53 => ?_) (fun h => absurd h (fun q => by have := (own_ge1 hi).mp q; omega))
        refine g_iloadN w d6_92 rfl 93 rfl ?_
        exact g_ireti w d6_93 (by decide) (by decide) ⟨by rw [← hrun]; rfl, re, vs, rfl⟩
      · obtain ⟨zb, hzb⟩ := hok.2 (n + 1) h8
        obtain ⟨zl, hzl1, hzl2, hzl3⟩ := own_low h8
        obtain ⟨zh, hzh1, hzh2, hzh3⟩ := own_high h8
        refine g_iload w d6_50 rfl 52 rfl ?_
        refine g_iconst w d6_52 (1 : Int32) rfl 53 rfl ?_
        refine g_icmp_le w d6_53 92 (by decide) (by decide) 56 rfl (fun h => absurd ((own_ge1 hi).mpr (by omega)) h) (fun hc53 => ?_)
        refine g_aloadN w d6_56 rfl rfl 57 rfl ?_
        refine g_iload w d6_57 rfl 59 rfl ?_
        refine g_zaload w d6_59 8 rfl (n + 1) hi hzb 60 rfl ?_
        refine g_if_eq w d6_60 86 (by decide) (by decide) 63 rfl (fun hc60 => ?_) (fun hc60 => ?_)
        · -- pc 86 (taken: zb = (0 : Int32))
          refine g_iinc w d6_86 89 rfl rfl rfl #[.val (.ref d), .val (.ref ro), .val (.ref re), .val (.int cc), .val (.int (i + (-1 : Int32))), .val (.int (1 : Int32)), .val (.int z0)] rfl ?_
          refine g_goto w d6_89 50 (by decide) (by decide) ?_
          exact ih T (i + (-1)) cc vs (own_dec hi (by omega)) (by omega) (by omega) hok (by rw [← hrun, own_run_0 (i := n + 1) (by omega) (by rw [hzb, hc60])]; rfl) w
        · -- pc 63 (on: not zb = (0 : Int32))
          refine g_aloadN w d6_63 rfl rfl 64 rfl ?_
          refine g_aloadN w d6_64 rfl rfl 65 rfl ?_
          refine g_getf w d6_65 0 rfl 1 rfl 12 rfl Via.refl 68 rfl (fun T w => ?_)
          refine g_iload w d6_68 rfl 70 rfl ?_
          refine g_iaload w d6_70 2 rfl (n + 1) hi hzl1 71 rfl ?_
          refine g_iconst w d6_71 (1 : Int32) rfl 72 rfl ?_
          refine g_zastore w d6_72 8 rfl (own_lows.getD (n + 1) 0) hzl2 (by rw [hok.1]; exact hzl3) own_one rfl 73 rfl (fun T w => ?_)
          replace w := w.to (L' := [(d, O_Diagrams (.ref aV) (.ref aL) (.ref aH) (.ref aU) (.int (8 : Int32))), (aV, .inr (.int, own_A22)), (aL, .inr (.int, own_A23)), (aH, .inr (.int, own_A24)), (aU, .inr (.int, own_A25)), (xi, .inr (.int, [(.int (0 : Int32)), (.int (1 : Int32)), (.int (2 : Int32)), (.int (3 : Int32)), (.int (4 : Int32)), (.int (5 : Int32)), (.int (6 : Int32)), (.int (7 : Int32))])), (xm, .inr (.int, [(.int (0 : Int32)), (.int (0 : Int32)), (.int (1 : Int32)), (.int (2 : Int32)), (.int (7 : Int32)), (.int (9 : Int32)), (.int (31 : Int32)), (.int (41 : Int32))])), (ro, .inr (.int, [(.int z0)])), (re, .inr (.boolean, vs.set (own_lows.getD (n + 1) 0) own_one))]) rfl
          refine g_aloadN w d6_73 rfl rfl 74 rfl ?_
          refine g_aloadN w d6_74 rfl rfl 75 rfl ?_
          refine g_getf w d6_75 0 rfl 2 rfl 14 rfl Via.refl 78 rfl (fun T w => ?_)
          refine g_iload w d6_78 rfl 80 rfl ?_
          refine g_iaload w d6_80 3 rfl (n + 1) hi hzh1 81 rfl ?_
          refine g_iconst w d6_81 (1 : Int32) rfl 82 rfl ?_
          refine g_zastore w d6_82 8 rfl (own_highs.getD (n + 1) 0) hzh2 (by rw [List.length_set, hok.1]; exact hzh3) own_one rfl 83 rfl (fun T w => ?_)
          replace w := w.to (L' := [(d, O_Diagrams (.ref aV) (.ref aL) (.ref aH) (.ref aU) (.int (8 : Int32))), (aV, .inr (.int, own_A22)), (aL, .inr (.int, own_A23)), (aH, .inr (.int, own_A24)), (aU, .inr (.int, own_A25)), (xi, .inr (.int, [(.int (0 : Int32)), (.int (1 : Int32)), (.int (2 : Int32)), (.int (3 : Int32)), (.int (4 : Int32)), (.int (5 : Int32)), (.int (6 : Int32)), (.int (7 : Int32))])), (xm, .inr (.int, [(.int (0 : Int32)), (.int (0 : Int32)), (.int (1 : Int32)), (.int (2 : Int32)), (.int (7 : Int32)), (.int (9 : Int32)), (.int (31 : Int32)), (.int (41 : Int32))])), (ro, .inr (.int, [(.int z0)])), (re, .inr (.boolean, (vs.set (own_lows.getD (n + 1) 0) own_one).set (own_highs.getD (n + 1) 0) own_one))]) rfl
          refine g_iinc w d6_83 86 rfl rfl rfl #[.val (.ref d), .val (.ref ro), .val (.ref re), .val (.int (cc + (1 : Int32))), .val (.int i), .val (.int (1 : Int32)), .val (.int z0)] rfl ?_
          refine g_iinc w d6_86 89 rfl rfl rfl #[.val (.ref d), .val (.ref ro), .val (.ref re), .val (.int (cc + (1 : Int32))), .val (.int (i + (-1 : Int32))), .val (.int (1 : Int32)), .val (.int z0)] rfl ?_
          refine g_goto w d6_89 50 (by decide) (by decide) ?_
          exact ih T (i + (-1)) (cc + 1) _ (own_dec hi (by omega)) (by omega) (by omega) (own_ok_set (own_ok_set hok _) _) (by rw [← hrun, own_run_1 (i := n + 1) (by omega) hzb hc60]; rfl) w
  exact LB 7 T 7 0 _ rfl (by decide) (by decide) hok rfl w
set_option maxRecDepth 65536 in
set_option maxHeartbeats 40000000 in
theorem rmT_2 (l : Launch) (Z : State) (a0 : Array Value) (hw : ∀ d ∈ tables_1, d.before a0 Z = true) (n0 : Nat) (d aV aL aH aU : Addr) (xi xm ro : Addr) (z0 : Int32) (j0 : Nat) (z1 : Int32) (j1 : Nat) (hj0 : z0.toInt = (j0 : Int)) (hl0 : j0 < 8) (hj1 : z1.toInt = (j1 : Int)) (hl1 : j1 < 8) :
    Con l (⟨"com/example/chancebound/chancebound/network/Diagrams", "count", "([I)I"⟩ : MethodName) prog_35_method_6_code 7 (some .int) ({ frames := 0, cells := 1, slots := 8, locals := 0 } : Room) Z n0 #[(.ref d), (.ref ro)] ([(d, O_Diagrams (.ref aV) (.ref aL) (.ref aH) (.ref aU) (.int (8 : Int32))), (aV, .inr (.int, own_A22)), (aL, .inr (.int, own_A23)), (aH, .inr (.int, own_A24)), (aU, .inr (.int, own_A25)), (xi, .inr (.int, [(.int (0 : Int32)), (.int (1 : Int32)), (.int (2 : Int32)), (.int (3 : Int32)), (.int (4 : Int32)), (.int (5 : Int32)), (.int (6 : Int32)), (.int (7 : Int32))])), (xm, .inr (.int, [(.int (0 : Int32)), (.int (0 : Int32)), (.int (1 : Int32)), (.int (2 : Int32)), (.int (7 : Int32)), (.int (9 : Int32)), (.int (31 : Int32)), (.int (41 : Int32))])), (ro, .inr (.int, [(.int z0), (.int z1)]))]) (fun v L' => v = some (.int (own_cnt [j0, j1])) ∧ ∃ re vs, L' = [(d, O_Diagrams (.ref aV) (.ref aL) (.ref aH) (.ref aU) (.int (8 : Int32))), (aV, .inr (.int, own_A22)), (aL, .inr (.int, own_A23)), (aH, .inr (.int, own_A24)), (aU, .inr (.int, own_A25)), (xi, .inr (.int, [(.int (0 : Int32)), (.int (1 : Int32)), (.int (2 : Int32)), (.int (3 : Int32)), (.int (4 : Int32)), (.int (5 : Int32)), (.int (6 : Int32)), (.int (7 : Int32))])), (xm, .inr (.int, [(.int (0 : Int32)), (.int (0 : Int32)), (.int (1 : Int32)), (.int (2 : Int32)), (.int (7 : Int32)), (.int (9 : Int32)), (.int (31 : Int32)), (.int (41 : Int32))])), (ro, .inr (.int, [(.int z0), (.int z1)])), (re, .inr (.boolean, vs))]) := by
  refine Con.of (ws := tables_1) (a0 := a0) pn_6 hw ?_
  intro p e s m below meth cde T kb w
  refine g_entry #[.val (.ref d), .val (.ref ro), .unset, .unset, .unset, .unset, .unset] (by first | (simp [entryFrame, mkF, argsToLocals, Value.category]; done) | rfl) ?_
  refine g_aloadN w d6_0 rfl rfl 1 rfl ?_
  refine g_getf w d6_1 0 rfl 4 rfl 19 rfl Via.refl 4 rfl (fun T w => ?_)
  refine g_newarr w d6_4 40 rfl 8 8 (by decide) (by decide) (by decide) own_zero rfl (by decide) (by decide) 6 rfl (fun T re w => ?_)
  replace w := w.to (L' := [(d, O_Diagrams (.ref aV) (.ref aL) (.ref aH) (.ref aU) (.int (8 : Int32))), (aV, .inr (.int, own_A22)), (aL, .inr (.int, own_A23)), (aH, .inr (.int, own_A24)), (aU, .inr (.int, own_A25)), (xi, .inr (.int, [(.int (0 : Int32)), (.int (1 : Int32)), (.int (2 : Int32)), (.int (3 : Int32)), (.int (4 : Int32)), (.int (5 : Int32)), (.int (6 : Int32)), (.int (7 : Int32))])), (xm, .inr (.int, [(.int (0 : Int32)), (.int (0 : Int32)), (.int (1 : Int32)), (.int (2 : Int32)), (.int (7 : Int32)), (.int (9 : Int32)), (.int (31 : Int32)), (.int (41 : Int32))])), (ro, .inr (.int, [(.int z0), (.int z1)])), (re, .inr (.boolean, own_seed [] own_zero))]) rfl
  refine g_astoreN w d6_6 7 rfl rfl #[.val (.ref d), .val (.ref ro), .val (.ref re), .unset, .unset, .unset, .unset] rfl ?_
  refine g_aloadN w d6_7 rfl rfl 8 rfl ?_
  refine g_astoreN w d6_8 9 rfl rfl #[.val (.ref d), .val (.ref ro), .val (.ref re), .val (.ref ro), .unset, .unset, .unset] rfl ?_
  refine g_aloadN w d6_9 rfl rfl 10 rfl ?_
  refine g_alen w d6_10 7 rfl (2 : Int32) rfl 11 rfl ?_
  refine g_istore w d6_11 13 rfl rfl #[.val (.ref d), .val (.ref ro), .val (.ref re), .val (.ref ro), .val (.int (2 : Int32)), .unset, .unset] rfl ?_
  refine g_iconst w d6_13 (0 : Int32) rfl 14 rfl ?_
  refine g_istore w d6_14 16 rfl rfl #[.val (.ref d), .val (.ref ro), .val (.ref re), .val (.ref ro), .val (.int (2 : Int32)), .val (.int (0 : Int32)), .unset] rfl ?_
  refine g_iload w d6_16 rfl 18 rfl ?_
  refine g_iload w d6_18 rfl 20 rfl ?_
  refine g_icmp_ge w d6_20 40 (by decide) (by decide) 23 rfl (fun h => absurd (by decide) h) (fun hc20 => ?_)
  refine g_aloadN w d6_23 rfl rfl 24 rfl ?_
  refine g_iload w d6_24 rfl 26 rfl ?_
  refine g_iaload w d6_26 7 rfl 0 (by decide) rfl 27 rfl ?_
  refine g_istore w d6_27 29 rfl rfl #[.val (.ref d), .val (.ref ro), .val (.ref re), .val (.ref ro), .val (.int (2 : Int32)), .val (.int (0 : Int32)), .val (.int z0)] rfl ?_
  refine g_aloadN w d6_29 rfl rfl 30 rfl ?_
  refine g_iload w d6_30 rfl 32 rfl ?_
  refine g_iconst w d6_32 (1 : Int32) rfl 33 rfl ?_
  refine g_zastore w d6_33 8 rfl j0 hj0 (by first | exact hl0 | (simp only [own_seed, List.length_set]; exact hl0)) own_one rfl 34 rfl (fun T w => ?_)
  replace w := w.to (L' := [(d, O_Diagrams (.ref aV) (.ref aL) (.ref aH) (.ref aU) (.int (8 : Int32))), (aV, .inr (.int, own_A22)), (aL, .inr (.int, own_A23)), (aH, .inr (.int, own_A24)), (aU, .inr (.int, own_A25)), (xi, .inr (.int, [(.int (0 : Int32)), (.int (1 : Int32)), (.int (2 : Int32)), (.int (3 : Int32)), (.int (4 : Int32)), (.int (5 : Int32)), (.int (6 : Int32)), (.int (7 : Int32))])), (xm, .inr (.int, [(.int (0 : Int32)), (.int (0 : Int32)), (.int (1 : Int32)), (.int (2 : Int32)), (.int (7 : Int32)), (.int (9 : Int32)), (.int (31 : Int32)), (.int (41 : Int32))])), (ro, .inr (.int, [(.int z0), (.int z1)])), (re, .inr (.boolean, (own_seed [] own_zero).set j0 own_one))]) rfl
  refine g_iinc w d6_34 37 rfl rfl (by decide) #[.val (.ref d), .val (.ref ro), .val (.ref re), .val (.ref ro), .val (.int (2 : Int32)), .val (.int (1 : Int32)), .val (.int z0)] rfl ?_
  refine g_goto w d6_37 16 (by decide) (by decide) ?_
  refine g_iload w d6_16 rfl 18 rfl ?_
  refine g_iload w d6_18 rfl 20 rfl ?_
  refine g_icmp_ge w d6_20 40 (by decide) (by decide) 23 rfl (fun h => absurd (by decide) h) (fun hc20 => ?_)
  refine g_aloadN w d6_23 rfl rfl 24 rfl ?_
  refine g_iload w d6_24 rfl 26 rfl ?_
  refine g_iaload w d6_26 7 rfl 1 (by decide) rfl 27 rfl ?_
  refine g_istore w d6_27 29 rfl rfl #[.val (.ref d), .val (.ref ro), .val (.ref re), .val (.ref ro), .val (.int (2 : Int32)), .val (.int (1 : Int32)), .val (.int z1)] rfl ?_
  refine g_aloadN w d6_29 rfl rfl 30 rfl ?_
  refine g_iload w d6_30 rfl 32 rfl ?_
  refine g_iconst w d6_32 (1 : Int32) rfl 33 rfl ?_
  refine g_zastore w d6_33 8 rfl j1 hj1 (by first | exact hl1 | (simp only [own_seed, List.length_set]; exact hl1)) own_one rfl 34 rfl (fun T w => ?_)
  replace w := w.to (L' := [(d, O_Diagrams (.ref aV) (.ref aL) (.ref aH) (.ref aU) (.int (8 : Int32))), (aV, .inr (.int, own_A22)), (aL, .inr (.int, own_A23)), (aH, .inr (.int, own_A24)), (aU, .inr (.int, own_A25)), (xi, .inr (.int, [(.int (0 : Int32)), (.int (1 : Int32)), (.int (2 : Int32)), (.int (3 : Int32)), (.int (4 : Int32)), (.int (5 : Int32)), (.int (6 : Int32)), (.int (7 : Int32))])), (xm, .inr (.int, [(.int (0 : Int32)), (.int (0 : Int32)), (.int (1 : Int32)), (.int (2 : Int32)), (.int (7 : Int32)), (.int (9 : Int32)), (.int (31 : Int32)), (.int (41 : Int32))])), (ro, .inr (.int, [(.int z0), (.int z1)])), (re, .inr (.boolean, ((own_seed [] own_zero).set j0 own_one).set j1 own_one))]) rfl
  refine g_iinc w d6_34 37 rfl rfl (by decide) #[.val (.ref d), .val (.ref ro), .val (.ref re), .val (.ref ro), .val (.int (2 : Int32)), .val (.int (2 : Int32)), .val (.int z1)] rfl ?_
  refine g_goto w d6_37 16 (by decide) (by decide) ?_
  refine g_iload w d6_16 rfl 18 rfl ?_
  refine g_iload w d6_18 rfl 20 rfl ?_
  refine g_icmp_ge w d6_20 40 (by decide) (by decide) 23 rfl (fun hc20 => ?_) (fun h => absurd h (by decide))
  refine g_iconst w d6_40 (0 : Int32) rfl 41 rfl ?_
  refine g_istoreN w d6_41 42 rfl rfl #[.val (.ref d), .val (.ref ro), .val (.ref re), .val (.int (0 : Int32)), .val (.int (2 : Int32)), .val (.int (2 : Int32)), .val (.int z1)] rfl ?_
  refine g_aloadN w d6_42 rfl rfl 43 rfl ?_
  refine g_getf w d6_43 0 rfl 4 rfl 19 rfl Via.refl 46 rfl (fun T w => ?_)
  refine g_iconst w d6_46 (1 : Int32) rfl 47 rfl ?_
  refine g_isub w d6_47 48 rfl ?_
  refine g_int (x' := (7 : Int32)) (by decide) ?_
  refine g_istore w d6_48 50 rfl rfl #[.val (.ref d), .val (.ref ro), .val (.ref re), .val (.int (0 : Int32)), .val (.int (7 : Int32)), .val (.int (2 : Int32)), .val (.int z1)] rfl ?_
  replace w := w.to (L' := [(d, O_Diagrams (.ref aV) (.ref aL) (.ref aH) (.ref aU) (.int (8 : Int32))), (aV, .inr (.int, own_A22)), (aL, .inr (.int, own_A23)), (aH, .inr (.int, own_A24)), (aU, .inr (.int, own_A25)), (xi, .inr (.int, [(.int (0 : Int32)), (.int (1 : Int32)), (.int (2 : Int32)), (.int (3 : Int32)), (.int (4 : Int32)), (.int (5 : Int32)), (.int (6 : Int32)), (.int (7 : Int32))])), (xm, .inr (.int, [(.int (0 : Int32)), (.int (0 : Int32)), (.int (1 : Int32)), (.int (2 : Int32)), (.int (7 : Int32)), (.int (9 : Int32)), (.int (31 : Int32)), (.int (41 : Int32))])), (ro, .inr (.int, [(.int z0), (.int z1)])), (re, .inr (.boolean, own_seed [j0, j1] own_zero))]) rfl
  have hok : own_ok (own_seed [j0, j1] own_zero) := by
    simp only [own_seed]
    exact own_ok_set (own_ok_set own_ok_zero _) _
  have LB : ∀ (n : Nat) (T : State) (i cc : Int32) (vs : List Value), i.toInt = (n : Int) → n < 8 → 1 ≤ n → own_ok vs → own_run n vs cc = own_cnt [j0, j1] → Wd p l e ({ frames := 0, cells := 1, slots := 8, locals := 0 } : Room) s m #[(.ref d), (.ref ro)] below meth cde Z a0 n0 kb tables_1 (⟨"com/example/chancebound/chancebound/network/Diagrams", "count", "([I)I"⟩ : MethodName) prog_35_method_6_code 7 (some .int) T ([(d, O_Diagrams (.ref aV) (.ref aL) (.ref aH) (.ref aU) (.int (8 : Int32))), (aV, .inr (.int, own_A22)), (aL, .inr (.int, own_A23)), (aH, .inr (.int, own_A24)), (aU, .inr (.int, own_A25)), (xi, .inr (.int, [(.int (0 : Int32)), (.int (1 : Int32)), (.int (2 : Int32)), (.int (3 : Int32)), (.int (4 : Int32)), (.int (5 : Int32)), (.int (6 : Int32)), (.int (7 : Int32))])), (xm, .inr (.int, [(.int (0 : Int32)), (.int (0 : Int32)), (.int (1 : Int32)), (.int (2 : Int32)), (.int (7 : Int32)), (.int (9 : Int32)), (.int (31 : Int32)), (.int (41 : Int32))])), (ro, .inr (.int, [(.int z0), (.int z1)])), (re, .inr (.boolean, vs))]) (0 + 1) (0 + 8) → Go p e below Z n0 kb (EndN s ({ frames := 0, cells := 1, slots := 8, locals := 0 } : Room).cells ({ frames := 0, cells := 1, slots := 8, locals := 0 } : Room).slots) (fun v L' => v = some (.int (own_cnt [j0, j1])) ∧ ∃ re vs, L' = [(d, O_Diagrams (.ref aV) (.ref aL) (.ref aH) (.ref aU) (.int (8 : Int32))), (aV, .inr (.int, own_A22)), (aL, .inr (.int, own_A23)), (aH, .inr (.int, own_A24)), (aU, .inr (.int, own_A25)), (xi, .inr (.int, [(.int (0 : Int32)), (.int (1 : Int32)), (.int (2 : Int32)), (.int (3 : Int32)), (.int (4 : Int32)), (.int (5 : Int32)), (.int (6 : Int32)), (.int (7 : Int32))])), (xm, .inr (.int, [(.int (0 : Int32)), (.int (0 : Int32)), (.int (1 : Int32)), (.int (2 : Int32)), (.int (7 : Int32)), (.int (9 : Int32)), (.int (31 : Int32)), (.int (41 : Int32))])), (ro, .inr (.int, [(.int z0), (.int z1)])), (re, .inr (.boolean, vs))]) T (mkF m 50 #[.val (.ref d), .val (.ref ro), .val (.ref re), .val (.int cc), .val (.int i), .val (.int (2 : Int32)), .val (.int z1)] []) := by
    intro n
    induction n with
    | zero =>
      intro T i cc vs hi h8 h1 hok hrun w
      exfalso; omega
    | succ n ih =>
      intro T i cc vs hi h8 h1 hok hrun w
      by_cases hn1 : n = 0
      · subst hn1
        refine g_iload w d6_50 rfl 52 rfl ?_
        refine g_iconst w d6_52 (1 : Int32) rfl 53 rfl ?_
        refine g_icmp_le w d6_53 92 (by decide) (by decide) 56 rfl (fun hc53 => ?_) (fun h => absurd h (fun q => by have := (own_ge1 hi).mp q; omega))
        refine g_iloadN w d6_92 rfl 93 rfl ?_
        exact g_ireti w d6_93 (by decide) (by decide) ⟨by rw [← hrun]; rfl, re, vs, rfl⟩
      · obtain ⟨zb, hzb⟩ := hok.2 (n + 1) h8
        obtain ⟨zl, hzl1, hzl2, hzl3⟩ := own_low h8
        obtain ⟨zh, hzh1, hzh2, hzh3⟩ := own_high h8
        refine g_iload w d6_50 rfl 52 rfl ?_
        refine g_iconst w d6_52 (1 : Int32) rfl 53 rfl ?_
        refine g_icmp_le w d6_53 92 (by decide) (by decide) 56 rfl (fun h => absurd ((own_ge1 hi).mpr (by omega)) h) (fun hc53 => ?_)
        refine g_aloadN w d6_56 rfl rfl 57 rfl ?_
        refine g_iload w d6_57 rfl 59 rfl ?_
        refine g_zaload w d6_59 8 rfl (n + 1) hi hzb 60 rfl ?_
        refine g_if_eq w d6_60 86 (by decide) (by decide) 63 rfl (fun hc60 => ?_) (fun hc60 => ?_)
        · -- pc 86 (taken: zb = (0 : Int32))
          refine g_iinc w d6_86 89 rfl rfl rfl #[.val (.ref d), .val (.ref ro), .val (.ref re), .val (.int cc), .val (.int (i + (-1 : Int32))), .val (.int (2 : Int32)), .val (.int z1)] rfl ?_
          refine g_goto w d6_89 50 (by decide) (by decide) ?_
          exact ih T (i + (-1)) cc vs (own_dec hi (by omega)) (by omega) (by omega) hok (by rw [← hrun, own_run_0 (i := n + 1) (by omega) (by rw [hzb, hc60])]; rfl) w
        · -- pc 63 (on: not zb = (0 : Int32))
          refine g_aloadN w d6_63 rfl rfl 64 rfl ?_
          refine g_aloadN w d6_64 rfl rfl 65 rfl ?_
          refine g_getf w d6_65 0 rfl 1 rfl 12 rfl Via.refl 68 rfl (fun T w => ?_)
          refine g_iload w d6_68 rfl 70 rfl ?_
          refine g_iaload w d6_70 2 rfl (n + 1) hi hzl1 71 rfl ?_
          refine g_iconst w d6_71 (1 : Int32) rfl 72 rfl ?_
          refine g_zastore w d6_72 8 rfl (own_lows.getD (n + 1) 0) hzl2 (by rw [hok.1]; exact hzl3) own_one rfl 73 rfl (fun T w => ?_)
          replace w := w.to (L' := [(d, O_Diagrams (.ref aV) (.ref aL) (.ref aH) (.ref aU) (.int (8 : Int32))), (aV, .inr (.int, own_A22)), (aL, .inr (.int, own_A23)), (aH, .inr (.int, own_A24)), (aU, .inr (.int, own_A25)), (xi, .inr (.int, [(.int (0 : Int32)), (.int (1 : Int32)), (.int (2 : Int32)), (.int (3 : Int32)), (.int (4 : Int32)), (.int (5 : Int32)), (.int (6 : Int32)), (.int (7 : Int32))])), (xm, .inr (.int, [(.int (0 : Int32)), (.int (0 : Int32)), (.int (1 : Int32)), (.int (2 : Int32)), (.int (7 : Int32)), (.int (9 : Int32)), (.int (31 : Int32)), (.int (41 : Int32))])), (ro, .inr (.int, [(.int z0), (.int z1)])), (re, .inr (.boolean, vs.set (own_lows.getD (n + 1) 0) own_one))]) rfl
          refine g_aloadN w d6_73 rfl rfl 74 rfl ?_
          refine g_aloadN w d6_74 rfl rfl 75 rfl ?_
          refine g_getf w d6_75 0 rfl 2 rfl 14 rfl Via.refl 78 rfl (fun T w => ?_)
          refine g_iload w d6_78 rfl 80 rfl ?_
          refine g_iaload w d6_80 3 rfl (n + 1) hi hzh1 81 rfl ?_
          refine g_iconst w d6_81 (1 : Int32) rfl 82 rfl ?_
          refine g_zastore w d6_82 8 rfl (own_highs.getD (n + 1) 0) hzh2 (by rw [List.length_set, hok.1]; exact hzh3) own_one rfl 83 rfl (fun T w => ?_)
          replace w := w.to (L' := [(d, O_Diagrams (.ref aV) (.ref aL) (.ref aH) (.ref aU) (.int (8 : Int32))), (aV, .inr (.int, own_A22)), (aL, .inr (.int, own_A23)), (aH, .inr (.int, own_A24)), (aU, .inr (.int, own_A25)), (xi, .inr (.int, [(.int (0 : Int32)), (.int (1 : Int32)), (.int (2 : Int32)), (.int (3 : Int32)), (.int (4 : Int32)), (.int (5 : Int32)), (.int (6 : Int32)), (.int (7 : Int32))])), (xm, .inr (.int, [(.int (0 : Int32)), (.int (0 : Int32)), (.int (1 : Int32)), (.int (2 : Int32)), (.int (7 : Int32)), (.int (9 : Int32)), (.int (31 : Int32)), (.int (41 : Int32))])), (ro, .inr (.int, [(.int z0), (.int z1)])), (re, .inr (.boolean, (vs.set (own_lows.getD (n + 1) 0) own_one).set (own_highs.getD (n + 1) 0) own_one))]) rfl
          refine g_iinc w d6_83 86 rfl rfl rfl #[.val (.ref d), .val (.ref ro), .val (.ref re), .val (.int (cc + (1 : Int32))), .val (.int i), .val (.int (2 : Int32)), .val (.int z1)] rfl ?_
          refine g_iinc w d6_86 89 rfl rfl rfl #[.val (.ref d), .val (.ref ro), .val (.ref re), .val (.int (cc + (1 : Int32))), .val (.int (i + (-1 : Int32))), .val (.int (2 : Int32)), .val (.int z1)] rfl ?_
          refine g_goto w d6_89 50 (by decide) (by decide) ?_
          exact ih T (i + (-1)) (cc + 1) _ (own_dec hi (by omega)) (by omega) (by omega) (own_ok_set (own_ok_set hok _) _) (by rw [← hrun, own_run_1 (i := n + 1) (by omega) hzb hc60]; rfl) w
  exact LB 7 T 7 0 _ rfl (by decide) (by decide) hok rfl w
set_option maxRecDepth 65536 in
set_option maxHeartbeats 40000000 in
theorem rmT_3 (l : Launch) (Z : State) (a0 : Array Value) (hw : ∀ d ∈ tables_1, d.before a0 Z = true) (n0 : Nat) (d aV aL aH aU : Addr) (xi xm ro : Addr) (z0 : Int32) (j0 : Nat) (z1 : Int32) (j1 : Nat) (z2 : Int32) (j2 : Nat) (hj0 : z0.toInt = (j0 : Int)) (hl0 : j0 < 8) (hj1 : z1.toInt = (j1 : Int)) (hl1 : j1 < 8) (hj2 : z2.toInt = (j2 : Int)) (hl2 : j2 < 8) :
    Con l (⟨"com/example/chancebound/chancebound/network/Diagrams", "count", "([I)I"⟩ : MethodName) prog_35_method_6_code 7 (some .int) ({ frames := 0, cells := 1, slots := 8, locals := 0 } : Room) Z n0 #[(.ref d), (.ref ro)] ([(d, O_Diagrams (.ref aV) (.ref aL) (.ref aH) (.ref aU) (.int (8 : Int32))), (aV, .inr (.int, own_A22)), (aL, .inr (.int, own_A23)), (aH, .inr (.int, own_A24)), (aU, .inr (.int, own_A25)), (xi, .inr (.int, [(.int (0 : Int32)), (.int (1 : Int32)), (.int (2 : Int32)), (.int (3 : Int32)), (.int (4 : Int32)), (.int (5 : Int32)), (.int (6 : Int32)), (.int (7 : Int32))])), (xm, .inr (.int, [(.int (0 : Int32)), (.int (0 : Int32)), (.int (1 : Int32)), (.int (2 : Int32)), (.int (7 : Int32)), (.int (9 : Int32)), (.int (31 : Int32)), (.int (41 : Int32))])), (ro, .inr (.int, [(.int z0), (.int z1), (.int z2)]))]) (fun v L' => v = some (.int (own_cnt [j0, j1, j2])) ∧ ∃ re vs, L' = [(d, O_Diagrams (.ref aV) (.ref aL) (.ref aH) (.ref aU) (.int (8 : Int32))), (aV, .inr (.int, own_A22)), (aL, .inr (.int, own_A23)), (aH, .inr (.int, own_A24)), (aU, .inr (.int, own_A25)), (xi, .inr (.int, [(.int (0 : Int32)), (.int (1 : Int32)), (.int (2 : Int32)), (.int (3 : Int32)), (.int (4 : Int32)), (.int (5 : Int32)), (.int (6 : Int32)), (.int (7 : Int32))])), (xm, .inr (.int, [(.int (0 : Int32)), (.int (0 : Int32)), (.int (1 : Int32)), (.int (2 : Int32)), (.int (7 : Int32)), (.int (9 : Int32)), (.int (31 : Int32)), (.int (41 : Int32))])), (ro, .inr (.int, [(.int z0), (.int z1), (.int z2)])), (re, .inr (.boolean, vs))]) := by
  refine Con.of (ws := tables_1) (a0 := a0) pn_6 hw ?_
  intro p e s m below meth cde T kb w
  refine g_entry #[.val (.ref d), .val (.ref ro), .unset, .unset, .unset, .unset, .unset] (by first | (simp [entryFrame, mkF, argsToLocals, Value.category]; done) | rfl) ?_
  refine g_aloadN w d6_0 rfl rfl 1 rfl ?_
  refine g_getf w d6_1 0 rfl 4 rfl 19 rfl Via.refl 4 rfl (fun T w => ?_)
  refine g_newarr w d6_4 40 rfl 8 8 (by decide) (by decide) (by decide) own_zero rfl (by decide) (by decide) 6 rfl (fun T re w => ?_)
  replace w := w.to (L' := [(d, O_Diagrams (.ref aV) (.ref aL) (.ref aH) (.ref aU) (.int (8 : Int32))), (aV, .inr (.int, own_A22)), (aL, .inr (.int, own_A23)), (aH, .inr (.int, own_A24)), (aU, .inr (.int, own_A25)), (xi, .inr (.int, [(.int (0 : Int32)), (.int (1 : Int32)), (.int (2 : Int32)), (.int (3 : Int32)), (.int (4 : Int32)), (.int (5 : Int32)), (.int (6 : Int32)), (.int (7 : Int32))])), (xm, .inr (.int, [(.int (0 : Int32)), (.int (0 : Int32)), (.int (1 : Int32)), (.int (2 : Int32)), (.int (7 : Int32)), (.int (9 : Int32)), (.int (31 : Int32)), (.int (41 : Int32))])), (ro, .inr (.int, [(.int z0), (.int z1), (.int z2)])), (re, .inr (.boolean, own_seed [] own_zero))]) rfl
  refine g_astoreN w d6_6 7 rfl rfl #[.val (.ref d), .val (.ref ro), .val (.ref re), .unset, .unset, .unset, .unset] rfl ?_
  refine g_aloadN w d6_7 rfl rfl 8 rfl ?_
  refine g_astoreN w d6_8 9 rfl rfl #[.val (.ref d), .val (.ref ro), .val (.ref re), .val (.ref ro), .unset, .unset, .unset] rfl ?_
  refine g_aloadN w d6_9 rfl rfl 10 rfl ?_
  refine g_alen w d6_10 7 rfl (3 : Int32) rfl 11 rfl ?_
  refine g_istore w d6_11 13 rfl rfl #[.val (.ref d), .val (.ref ro), .val (.ref re), .val (.ref ro), .val (.int (3 : Int32)), .unset, .unset] rfl ?_
  refine g_iconst w d6_13 (0 : Int32) rfl 14 rfl ?_
  refine g_istore w d6_14 16 rfl rfl #[.val (.ref d), .val (.ref ro), .val (.ref re), .val (.ref ro), .val (.int (3 : Int32)), .val (.int (0 : Int32)), .unset] rfl ?_
  refine g_iload w d6_16 rfl 18 rfl ?_
  refine g_iload w d6_18 rfl 20 rfl ?_
  refine g_icmp_ge w d6_20 40 (by decide) (by decide) 23 rfl (fun h => absurd (by decide) h) (fun hc20 => ?_)
  refine g_aloadN w d6_23 rfl rfl 24 rfl ?_
  refine g_iload w d6_24 rfl 26 rfl ?_
  refine g_iaload w d6_26 7 rfl 0 (by decide) rfl 27 rfl ?_
  refine g_istore w d6_27 29 rfl rfl #[.val (.ref d), .val (.ref ro), .val (.ref re), .val (.ref ro), .val (.int (3 : Int32)), .val (.int (0 : Int32)), .val (.int z0)] rfl ?_
  refine g_aloadN w d6_29 rfl rfl 30 rfl ?_
  refine g_iload w d6_30 rfl 32 rfl ?_
  refine g_iconst w d6_32 (1 : Int32) rfl 33 rfl ?_
  refine g_zastore w d6_33 8 rfl j0 hj0 (by first | exact hl0 | (simp only [own_seed, List.length_set]; exact hl0)) own_one rfl 34 rfl (fun T w => ?_)
  replace w := w.to (L' := [(d, O_Diagrams (.ref aV) (.ref aL) (.ref aH) (.ref aU) (.int (8 : Int32))), (aV, .inr (.int, own_A22)), (aL, .inr (.int, own_A23)), (aH, .inr (.int, own_A24)), (aU, .inr (.int, own_A25)), (xi, .inr (.int, [(.int (0 : Int32)), (.int (1 : Int32)), (.int (2 : Int32)), (.int (3 : Int32)), (.int (4 : Int32)), (.int (5 : Int32)), (.int (6 : Int32)), (.int (7 : Int32))])), (xm, .inr (.int, [(.int (0 : Int32)), (.int (0 : Int32)), (.int (1 : Int32)), (.int (2 : Int32)), (.int (7 : Int32)), (.int (9 : Int32)), (.int (31 : Int32)), (.int (41 : Int32))])), (ro, .inr (.int, [(.int z0), (.int z1), (.int z2)])), (re, .inr (.boolean, (own_seed [] own_zero).set j0 own_one))]) rfl
  refine g_iinc w d6_34 37 rfl rfl (by decide) #[.val (.ref d), .val (.ref ro), .val (.ref re), .val (.ref ro), .val (.int (3 : Int32)), .val (.int (1 : Int32)), .val (.int z0)] rfl ?_
  refine g_goto w d6_37 16 (by decide) (by decide) ?_
  refine g_iload w d6_16 rfl 18 rfl ?_
  refine g_iload w d6_18 rfl 20 rfl ?_
  refine g_icmp_ge w d6_20 40 (by decide) (by decide) 23 rfl (fun h => absurd (by decide) h) (fun hc20 => ?_)
  refine g_aloadN w d6_23 rfl rfl 24 rfl ?_
  refine g_iload w d6_24 rfl 26 rfl ?_
  refine g_iaload w d6_26 7 rfl 1 (by decide) rfl 27 rfl ?_
  refine g_istore w d6_27 29 rfl rfl #[.val (.ref d), .val (.ref ro), .val (.ref re), .val (.ref ro), .val (.int (3 : Int32)), .val (.int (1 : Int32)), .val (.int z1)] rfl ?_
  refine g_aloadN w d6_29 rfl rfl 30 rfl ?_
  refine g_iload w d6_30 rfl 32 rfl ?_
  refine g_iconst w d6_32 (1 : Int32) rfl 33 rfl ?_
  refine g_zastore w d6_33 8 rfl j1 hj1 (by first | exact hl1 | (simp only [own_seed, List.length_set]; exact hl1)) own_one rfl 34 rfl (fun T w => ?_)
  replace w := w.to (L' := [(d, O_Diagrams (.ref aV) (.ref aL) (.ref aH) (.ref aU) (.int (8 : Int32))), (aV, .inr (.int, own_A22)), (aL, .inr (.int, own_A23)), (aH, .inr (.int, own_A24)), (aU, .inr (.int, own_A25)), (xi, .inr (.int, [(.int (0 : Int32)), (.int (1 : Int32)), (.int (2 : Int32)), (.int (3 : Int32)), (.int (4 : Int32)), (.int (5 : Int32)), (.int (6 : Int32)), (.int (7 : Int32))])), (xm, .inr (.int, [(.int (0 : Int32)), (.int (0 : Int32)), (.int (1 : Int32)), (.int (2 : Int32)), (.int (7 : Int32)), (.int (9 : Int32)), (.int (31 : Int32)), (.int (41 : Int32))])), (ro, .inr (.int, [(.int z0), (.int z1), (.int z2)])), (re, .inr (.boolean, ((own_seed [] own_zero).set j0 own_one).set j1 own_one))]) rfl
  refine g_iinc w d6_34 37 rfl rfl (by decide) #[.val (.ref d), .val (.ref ro), .val (.ref re), .val (.ref ro), .val (.int (3 : Int32)), .val (.int (2 : Int32)), .val (.int z1)] rfl ?_
  refine g_goto w d6_37 16 (by decide) (by decide) ?_
  refine g_iload w d6_16 rfl 18 rfl ?_
  refine g_iload w d6_18 rfl 20 rfl ?_
  refine g_icmp_ge w d6_20 40 (by decide) (by decide) 23 rfl (fun h => absurd (by decide) h) (fun hc20 => ?_)
  refine g_aloadN w d6_23 rfl rfl 24 rfl ?_
  refine g_iload w d6_24 rfl 26 rfl ?_
  refine g_iaload w d6_26 7 rfl 2 (by decide) rfl 27 rfl ?_
  refine g_istore w d6_27 29 rfl rfl #[.val (.ref d), .val (.ref ro), .val (.ref re), .val (.ref ro), .val (.int (3 : Int32)), .val (.int (2 : Int32)), .val (.int z2)] rfl ?_
  refine g_aloadN w d6_29 rfl rfl 30 rfl ?_
  refine g_iload w d6_30 rfl 32 rfl ?_
  refine g_iconst w d6_32 (1 : Int32) rfl 33 rfl ?_
  refine g_zastore w d6_33 8 rfl j2 hj2 (by first | exact hl2 | (simp only [own_seed, List.length_set]; exact hl2)) own_one rfl 34 rfl (fun T w => ?_)
  replace w := w.to (L' := [(d, O_Diagrams (.ref aV) (.ref aL) (.ref aH) (.ref aU) (.int (8 : Int32))), (aV, .inr (.int, own_A22)), (aL, .inr (.int, own_A23)), (aH, .inr (.int, own_A24)), (aU, .inr (.int, own_A25)), (xi, .inr (.int, [(.int (0 : Int32)), (.int (1 : Int32)), (.int (2 : Int32)), (.int (3 : Int32)), (.int (4 : Int32)), (.int (5 : Int32)), (.int (6 : Int32)), (.int (7 : Int32))])), (xm, .inr (.int, [(.int (0 : Int32)), (.int (0 : Int32)), (.int (1 : Int32)), (.int (2 : Int32)), (.int (7 : Int32)), (.int (9 : Int32)), (.int (31 : Int32)), (.int (41 : Int32))])), (ro, .inr (.int, [(.int z0), (.int z1), (.int z2)])), (re, .inr (.boolean, (((own_seed [] own_zero).set j0 own_one).set j1 own_one).set j2 own_one))]) rfl
  refine g_iinc w d6_34 37 rfl rfl (by decide) #[.val (.ref d), .val (.ref ro), .val (.ref re), .val (.ref ro), .val (.int (3 : Int32)), .val (.int (3 : Int32)), .val (.int z2)] rfl ?_
  refine g_goto w d6_37 16 (by decide) (by decide) ?_
  refine g_iload w d6_16 rfl 18 rfl ?_
  refine g_iload w d6_18 rfl 20 rfl ?_
  refine g_icmp_ge w d6_20 40 (by decide) (by decide) 23 rfl (fun hc20 => ?_) (fun h => absurd h (by decide))
  refine g_iconst w d6_40 (0 : Int32) rfl 41 rfl ?_
  refine g_istoreN w d6_41 42 rfl rfl #[.val (.ref d), .val (.ref ro), .val (.ref re), .val (.int (0 : Int32)), .val (.int (3 : Int32)), .val (.int (3 : Int32)), .val (.int z2)] rfl ?_
  refine g_aloadN w d6_42 rfl rfl 43 rfl ?_
  refine g_getf w d6_43 0 rfl 4 rfl 19 rfl Via.refl 46 rfl (fun T w => ?_)
  refine g_iconst w d6_46 (1 : Int32) rfl 47 rfl ?_
  refine g_isub w d6_47 48 rfl ?_
  refine g_int (x' := (7 : Int32)) (by decide) ?_
  refine g_istore w d6_48 50 rfl rfl #[.val (.ref d), .val (.ref ro), .val (.ref re), .val (.int (0 : Int32)), .val (.int (7 : Int32)), .val (.int (3 : Int32)), .val (.int z2)] rfl ?_
  replace w := w.to (L' := [(d, O_Diagrams (.ref aV) (.ref aL) (.ref aH) (.ref aU) (.int (8 : Int32))), (aV, .inr (.int, own_A22)), (aL, .inr (.int, own_A23)), (aH, .inr (.int, own_A24)), (aU, .inr (.int, own_A25)), (xi, .inr (.int, [(.int (0 : Int32)), (.int (1 : Int32)), (.int (2 : Int32)), (.int (3 : Int32)), (.int (4 : Int32)), (.int (5 : Int32)), (.int (6 : Int32)), (.int (7 : Int32))])), (xm, .inr (.int, [(.int (0 : Int32)), (.int (0 : Int32)), (.int (1 : Int32)), (.int (2 : Int32)), (.int (7 : Int32)), (.int (9 : Int32)), (.int (31 : Int32)), (.int (41 : Int32))])), (ro, .inr (.int, [(.int z0), (.int z1), (.int z2)])), (re, .inr (.boolean, own_seed [j0, j1, j2] own_zero))]) rfl
  have hok : own_ok (own_seed [j0, j1, j2] own_zero) := by
    simp only [own_seed]
    exact own_ok_set (own_ok_set (own_ok_set own_ok_zero _) _) _
  have LB : ∀ (n : Nat) (T : State) (i cc : Int32) (vs : List Value), i.toInt = (n : Int) → n < 8 → 1 ≤ n → own_ok vs → own_run n vs cc = own_cnt [j0, j1, j2] → Wd p l e ({ frames := 0, cells := 1, slots := 8, locals := 0 } : Room) s m #[(.ref d), (.ref ro)] below meth cde Z a0 n0 kb tables_1 (⟨"com/example/chancebound/chancebound/network/Diagrams", "count", "([I)I"⟩ : MethodName) prog_35_method_6_code 7 (some .int) T ([(d, O_Diagrams (.ref aV) (.ref aL) (.ref aH) (.ref aU) (.int (8 : Int32))), (aV, .inr (.int, own_A22)), (aL, .inr (.int, own_A23)), (aH, .inr (.int, own_A24)), (aU, .inr (.int, own_A25)), (xi, .inr (.int, [(.int (0 : Int32)), (.int (1 : Int32)), (.int (2 : Int32)), (.int (3 : Int32)), (.int (4 : Int32)), (.int (5 : Int32)), (.int (6 : Int32)), (.int (7 : Int32))])), (xm, .inr (.int, [(.int (0 : Int32)), (.int (0 : Int32)), (.int (1 : Int32)), (.int (2 : Int32)), (.int (7 : Int32)), (.int (9 : Int32)), (.int (31 : Int32)), (.int (41 : Int32))])), (ro, .inr (.int, [(.int z0), (.int z1), (.int z2)])), (re, .inr (.boolean, vs))]) (0 + 1) (0 + 8) → Go p e below Z n0 kb (EndN s ({ frames := 0, cells := 1, slots := 8, locals := 0 } : Room).cells ({ frames := 0, cells := 1, slots := 8, locals := 0 } : Room).slots) (fun v L' => v = some (.int (own_cnt [j0, j1, j2])) ∧ ∃ re vs, L' = [(d, O_Diagrams (.ref aV) (.ref aL) (.ref aH) (.ref aU) (.int (8 : Int32))), (aV, .inr (.int, own_A22)), (aL, .inr (.int, own_A23)), (aH, .inr (.int, own_A24)), (aU, .inr (.int, own_A25)), (xi, .inr (.int, [(.int (0 : Int32)), (.int (1 : Int32)), (.int (2 : Int32)), (.int (3 : Int32)), (.int (4 : Int32)), (.int (5 : Int32)), (.int (6 : Int32)), (.int (7 : Int32))])), (xm, .inr (.int, [(.int (0 : Int32)), (.int (0 : Int32)), (.int (1 : Int32)), (.int (2 : Int32)), (.int (7 : Int32)), (.int (9 : Int32)), (.int (31 : Int32)), (.int (41 : Int32))])), (ro, .inr (.int, [(.int z0), (.int z1), (.int z2)])), (re, .inr (.boolean, vs))]) T (mkF m 50 #[.val (.ref d), .val (.ref ro), .val (.ref re), .val (.int cc), .val (.int i), .val (.int (3 : Int32)), .val (.int z2)] []) := by
    intro n
    induction n with
    | zero =>
      intro T i cc vs hi h8 h1 hok hrun w
      exfalso; omega
    | succ n ih =>
      intro T i cc vs hi h8 h1 hok hrun w
      by_cases hn1 : n = 0
      · subst hn1
        refine g_iload w d6_50 rfl 52 rfl ?_
        refine g_iconst w d6_52 (1 : Int32) rfl 53 rfl ?_
        refine g_icmp_le w d6_53 92 (by decide) (by decide) 56 rfl (fun hc53 => ?_) (fun h => absurd h (fun q => by have := (own_ge1 hi).mp q; omega))
        refine g_iloadN w d6_92 rfl 93 rfl ?_
        exact g_ireti w d6_93 (by decide) (by decide) ⟨by rw [← hrun]; rfl, re, vs, rfl⟩
      · obtain ⟨zb, hzb⟩ := hok.2 (n + 1) h8
        obtain ⟨zl, hzl1, hzl2, hzl3⟩ := own_low h8
        obtain ⟨zh, hzh1, hzh2, hzh3⟩ := own_high h8
        refine g_iload w d6_50 rfl 52 rfl ?_
        refine g_iconst w d6_52 (1 : Int32) rfl 53 rfl ?_
        refine g_icmp_le w d6_53 92 (by decide) (by decide) 56 rfl (fun h => absurd ((own_ge1 hi).mpr (by omega)) h) (fun hc53 => ?_)
        refine g_aloadN w d6_56 rfl rfl 57 rfl ?_
        refine g_iload w d6_57 rfl 59 rfl ?_
        refine g_zaload w d6_59 8 rfl (n + 1) hi hzb 60 rfl ?_
        refine g_if_eq w d6_60 86 (by decide) (by decide) 63 rfl (fun hc60 => ?_) (fun hc60 => ?_)
        · -- pc 86 (taken: zb = (0 : Int32))
          refine g_iinc w d6_86 89 rfl rfl rfl #[.val (.ref d), .val (.ref ro), .val (.ref re), .val (.int cc), .val (.int (i + (-1 : Int32))), .val (.int (3 : Int32)), .val (.int z2)] rfl ?_
          refine g_goto w d6_89 50 (by decide) (by decide) ?_
          exact ih T (i + (-1)) cc vs (own_dec hi (by omega)) (by omega) (by omega) hok (by rw [← hrun, own_run_0 (i := n + 1) (by omega) (by rw [hzb, hc60])]; rfl) w
        · -- pc 63 (on: not zb = (0 : Int32))
          refine g_aloadN w d6_63 rfl rfl 64 rfl ?_
          refine g_aloadN w d6_64 rfl rfl 65 rfl ?_
          refine g_getf w d6_65 0 rfl 1 rfl 12 rfl Via.refl 68 rfl (fun T w => ?_)
          refine g_iload w d6_68 rfl 70 rfl ?_
          refine g_iaload w d6_70 2 rfl (n + 1) hi hzl1 71 rfl ?_
          refine g_iconst w d6_71 (1 : Int32) rfl 72 rfl ?_
          refine g_zastore w d6_72 8 rfl (own_lows.getD (n + 1) 0) hzl2 (by rw [hok.1]; exact hzl3) own_one rfl 73 rfl (fun T w => ?_)
          replace w := w.to (L' := [(d, O_Diagrams (.ref aV) (.ref aL) (.ref aH) (.ref aU) (.int (8 : Int32))), (aV, .inr (.int, own_A22)), (aL, .inr (.int, own_A23)), (aH, .inr (.int, own_A24)), (aU, .inr (.int, own_A25)), (xi, .inr (.int, [(.int (0 : Int32)), (.int (1 : Int32)), (.int (2 : Int32)), (.int (3 : Int32)), (.int (4 : Int32)), (.int (5 : Int32)), (.int (6 : Int32)), (.int (7 : Int32))])), (xm, .inr (.int, [(.int (0 : Int32)), (.int (0 : Int32)), (.int (1 : Int32)), (.int (2 : Int32)), (.int (7 : Int32)), (.int (9 : Int32)), (.int (31 : Int32)), (.int (41 : Int32))])), (ro, .inr (.int, [(.int z0), (.int z1), (.int z2)])), (re, .inr (.boolean, vs.set (own_lows.getD (n + 1) 0) own_one))]) rfl
          refine g_aloadN w d6_73 rfl rfl 74 rfl ?_
          refine g_aloadN w d6_74 rfl rfl 75 rfl ?_
          refine g_getf w d6_75 0 rfl 2 rfl 14 rfl Via.refl 78 rfl (fun T w => ?_)
          refine g_iload w d6_78 rfl 80 rfl ?_
          refine g_iaload w d6_80 3 rfl (n + 1) hi hzh1 81 rfl ?_
          refine g_iconst w d6_81 (1 : Int32) rfl 82 rfl ?_
          refine g_zastore w d6_82 8 rfl (own_highs.getD (n + 1) 0) hzh2 (by rw [List.length_set, hok.1]; exact hzh3) own_one rfl 83 rfl (fun T w => ?_)
          replace w := w.to (L' := [(d, O_Diagrams (.ref aV) (.ref aL) (.ref aH) (.ref aU) (.int (8 : Int32))), (aV, .inr (.int, own_A22)), (aL, .inr (.int, own_A23)), (aH, .inr (.int, own_A24)), (aU, .inr (.int, own_A25)), (xi, .inr (.int, [(.int (0 : Int32)), (.int (1 : Int32)), (.int (2 : Int32)), (.int (3 : Int32)), (.int (4 : Int32)), (.int (5 : Int32)), (.int (6 : Int32)), (.int (7 : Int32))])), (xm, .inr (.int, [(.int (0 : Int32)), (.int (0 : Int32)), (.int (1 : Int32)), (.int (2 : Int32)), (.int (7 : Int32)), (.int (9 : Int32)), (.int (31 : Int32)), (.int (41 : Int32))])), (ro, .inr (.int, [(.int z0), (.int z1), (.int z2)])), (re, .inr (.boolean, (vs.set (own_lows.getD (n + 1) 0) own_one).set (own_highs.getD (n + 1) 0) own_one))]) rfl
          refine g_iinc w d6_83 86 rfl rfl rfl #[.val (.ref d), .val (.ref ro), .val (.ref re), .val (.int (cc + (1 : Int32))), .val (.int i), .val (.int (3 : Int32)), .val (.int z2)] rfl ?_
          refine g_iinc w d6_86 89 rfl rfl rfl #[.val (.ref d), .val (.ref ro), .val (.ref re), .val (.int (cc + (1 : Int32))), .val (.int (i + (-1 : Int32))), .val (.int (3 : Int32)), .val (.int z2)] rfl ?_
          refine g_goto w d6_89 50 (by decide) (by decide) ?_
          exact ih T (i + (-1)) (cc + 1) _ (own_dec hi (by omega)) (by omega) (by omega) (own_ok_set (own_ok_set hok _) _) (by rw [← hrun, own_run_1 (i := n + 1) (by omega) hzb hc60]; rfl) w
  exact LB 7 T 7 0 _ rfl (by decide) (by decide) hok rfl w
theorem d8_0 : decode prog_35_method_2_code 0 = .ok (.aload_n 0, 1) := by decide +kernel
theorem d8_1 : decode prog_35_method_2_code 1 = .ok (.getfield 25, 3) := by decide +kernel
theorem d8_4 : decode prog_35_method_2_code 4 = .ok (.ireturn, 1) := by decide +kernel
theorem pn_8 : plainFor (⟨"com/example/chancebound/chancebound/network/Diagrams", "size", "()I"⟩ : MethodName) = true := plainFor_of_name (by first | (simp [plainName, overriddenIn]; done) | decide +kernel)
set_option maxRecDepth 65536 in
set_option maxHeartbeats 40000000 in
theorem rm8 (l : Launch) (Z : State) (a0 : Array Value) (hw : ∀ d ∈ tables_1, d.before a0 Z = true) (n0 : Nat) (d : Addr) (L : HL) (f0 : Value) (f1 : Value) (f2 : Value) (f3 : Value) (hL : L[0]? = some (d, O_Diagrams f0 f1 f2 f3 (.int (8 : Int32)))) :
    Con l (⟨"com/example/chancebound/chancebound/network/Diagrams", "size", "()I"⟩ : MethodName) prog_35_method_2_code 1 (some .int) ({ frames := 0, cells := 0, slots := 0, locals := 0 } : Room) Z n0 #[(.ref d)] L (fun v L' => v = some (.int (8 : Int32)) ∧ L' = L) := by
  refine Con.of (ws := tables_1) (a0 := a0) pn_8 hw ?_
  intro p e s m below meth cde T kb w
  refine g_entry #[.val (.ref d)] (by first | (simp [entryFrame, mkF, argsToLocals, Value.category]; done) | rfl) ?_
  refine g_aloadN w d8_0 rfl rfl 1 rfl ?_
  refine g_getf w d8_1 0 hL 4 rfl 19 rfl Via.refl 4 rfl (fun T w => ?_)
  exact g_ireti w d8_4 (by decide) (by decide) ⟨rfl, rfl⟩
theorem pd_2 : parseMethodDescriptor "()V" = some ⟨[], none⟩ := by decide +kernel
theorem pd_3 : parseMethodDescriptor "([I)I" = some ⟨[(.array .int)], some .int⟩ := by decide +kernel
theorem pd_4 : parseMethodDescriptor "(I)I" = some ⟨[.int], some .int⟩ := by decide +kernel
theorem pd_5 : parseMethodDescriptor "()I" = some ⟨[], some .int⟩ := by decide +kernel
theorem pn_0 : plainFor x = true := plainFor_of_name (by first | (simp [plainName, overriddenIn, x]; done) | decide +kernel)
set_option maxRecDepth 65536 in
set_option maxHeartbeats 40000000 in
theorem rm0 (l : Launch) (Z : State) (a0 : Array Value) (hw : ∀ d ∈ tables_1, d.before a0 Z = true) (n0 : Nat) (u0 u1 u2 u3 : Int32)  :
    Con l x code maxLocals ret room_1 Z n0 #[(.int u0), (.int u1), (.int u2), (.int u3)] ([]) (fun v _ => v = some (.int 1)) := by
  refine Con.of (ws := tables_1) (a0 := a0) pn_0 hw ?_
  intro p e s m below meth cde T kb w
  refine g_entry #[.val (.int u0), .val (.int u1), .val (.int u2), .val (.int u3), .unset, .unset, .unset, .unset, .unset, .unset, .unset, .unset, .unset, .unset, .unset, .unset, .unset, .unset, .unset, .unset] (by first | (simp [entryFrame, mkF, argsToLocals, Value.category, maxLocals]; done) | rfl) ?_
  refine g_new w [("com/example/chancebound/chancebound/network/Diagrams", "variables", "[I", .null), ("com/example/chancebound/chancebound/network/Diagrams", "lows", "[I", .null), ("com/example/chancebound/chancebound/network/Diagrams", "highs", "[I", .null), ("com/example/chancebound/chancebound/network/Diagrams", "unique", "[I", .null), ("com/example/chancebound/chancebound/network/Diagrams", "size", "I", (.int (0 : Int32)))] at_0 0 rfl 1 rfl 2 rfl (FOk.cons (Or.inl (w.hw (k := 11) rfl)) (ty := (.array .int)) (by decide) rfl (FOk.cons (Or.inl (w.hw (k := 13) rfl)) (ty := (.array .int)) (by decide) rfl (FOk.cons (Or.inl (w.hw (k := 15) rfl)) (ty := (.array .int)) (by decide) rfl (FOk.cons (Or.inl (w.hw (k := 17) rfl)) (ty := (.array .int)) (by decide) rfl (FOk.cons (Or.inl (w.hw (k := 20) rfl)) (ty := .int) (by decide) rfl trivial))))) (by decide) (by decide) (by decide) 3 rfl (fun T b1 w => ?_)
  replace w := w.to (L' := [(b1, O_Diagrams .null .null .null .null (.int (0 : Int32)))]) rfl
  refine g_dup w at_3 rfl 4 rfl ?_
  refine g_ctor w (argsL := []) (rest := [(.ref b1)]) (rm1 l Z a0 hw n0 b1) at_4 3 rfl 4 rfl 2 rfl 5 rfl rfl ⟨by decide, by decide⟩ pd_2 rfl rfl rfl 1 rfl (by decide) (by decide) (by decide) (by decide) 7 rfl (fun T v L w h => ?_)
  obtain ⟨rfl, aV, aL, aH, aU, rfl⟩ := h
  refine g_astore w at_7 9 rfl rfl #[.val (.int u0), .val (.int u1), .val (.int u2), .val (.int u3), .val (.ref b1), .unset, .unset, .unset, .unset, .unset, .unset, .unset, .unset, .unset, .unset, .unset, .unset, .unset, .unset, .unset] rfl ?_
  refine g_aload w at_9 rfl rfl 11 rfl ?_
  refine g_iconst w at_11 (2 : Int32) rfl 12 rfl ?_
  refine g_iconst w at_12 (0 : Int32) rfl 13 rfl ?_
  refine g_iconst w at_13 (1 : Int32) rfl 14 rfl ?_
  refine g_virt w (argsL := [(.int (2 : Int32)), (.int (0 : Int32)), (.int (1 : Int32))]) (rest := []) (rmN_0 l Z a0 hw n0 b1 aV aL aH aU) at_14 0 rfl 21 rfl 22 rfl 2 rfl 25 rfl 24 rfl 23 rfl ⟨by decide, by decide⟩ pd_1 rfl rfl rfl 0 rfl (by decide) (by decide) (by decide) (by decide) 17 rfl (fun T v L w h => ?_)
  obtain ⟨rfl, hL⟩ := h
  replace w := w.to hL
  refine g_istore w at_17 19 rfl rfl #[.val (.int u0), .val (.int u1), .val (.int u2), .val (.int u3), .val (.ref b1), .val (.int (2 : Int32)), .unset, .unset, .unset, .unset, .unset, .unset, .unset, .unset, .unset, .unset, .unset, .unset, .unset, .unset] rfl ?_
  refine g_aload w at_19 rfl rfl 21 rfl ?_
  refine g_iconst w at_21 (2 : Int32) rfl 22 rfl ?_
  refine g_iconst w at_22 (1 : Int32) rfl 23 rfl ?_
  refine g_iconst w at_23 (0 : Int32) rfl 24 rfl ?_
  refine g_virt w (argsL := [(.int (2 : Int32)), (.int (1 : Int32)), (.int (0 : Int32))]) (rest := []) (rmN_1 l Z a0 hw n0 b1 aV aL aH aU) at_24 0 rfl 21 rfl 22 rfl 2 rfl 25 rfl 24 rfl 23 rfl ⟨by decide, by decide⟩ pd_1 rfl rfl rfl 0 rfl (by decide) (by decide) (by decide) (by decide) 27 rfl (fun T v L w h => ?_)
  obtain ⟨rfl, hL⟩ := h
  replace w := w.to hL
  refine g_istore w at_27 29 rfl rfl #[.val (.int u0), .val (.int u1), .val (.int u2), .val (.int u3), .val (.ref b1), .val (.int (2 : Int32)), .val (.int (3 : Int32)), .unset, .unset, .unset, .unset, .unset, .unset, .unset, .unset, .unset, .unset, .unset, .unset, .unset] rfl ?_
  refine g_aload w at_29 rfl rfl 31 rfl ?_
  refine g_iconst w at_31 (1 : Int32) rfl 32 rfl ?_
  refine g_iload w at_32 rfl 34 rfl ?_
  refine g_iload w at_34 rfl 36 rfl ?_
  refine g_virt w (argsL := [(.int (1 : Int32)), (.int (2 : Int32)), (.int (3 : Int32))]) (rest := []) (rmN_2 l Z a0 hw n0 b1 aV aL aH aU) at_36 0 rfl 21 rfl 22 rfl 2 rfl 25 rfl 24 rfl 23 rfl ⟨by decide, by decide⟩ pd_1 rfl rfl rfl 0 rfl (by decide) (by decide) (by decide) (by decide) 39 rfl (fun T v L w h => ?_)
  obtain ⟨rfl, hL⟩ := h
  replace w := w.to hL
  refine g_istore w at_39 41 rfl rfl #[.val (.int u0), .val (.int u1), .val (.int u2), .val (.int u3), .val (.ref b1), .val (.int (2 : Int32)), .val (.int (3 : Int32)), .val (.int (4 : Int32)), .unset, .unset, .unset, .unset, .unset, .unset, .unset, .unset, .unset, .unset, .unset, .unset] rfl ?_
  refine g_aload w at_41 rfl rfl 43 rfl ?_
  refine g_iconst w at_43 (1 : Int32) rfl 44 rfl ?_
  refine g_iconst w at_44 (0 : Int32) rfl 45 rfl ?_
  refine g_iload w at_45 rfl 47 rfl ?_
  refine g_virt w (argsL := [(.int (1 : Int32)), (.int (0 : Int32)), (.int (2 : Int32))]) (rest := []) (rmN_3 l Z a0 hw n0 b1 aV aL aH aU) at_47 0 rfl 21 rfl 22 rfl 2 rfl 25 rfl 24 rfl 23 rfl ⟨by decide, by decide⟩ pd_1 rfl rfl rfl 0 rfl (by decide) (by decide) (by decide) (by decide) 50 rfl (fun T v L w h => ?_)
  obtain ⟨rfl, hL⟩ := h
  replace w := w.to hL
  refine g_istore w at_50 52 rfl rfl #[.val (.int u0), .val (.int u1), .val (.int u2), .val (.int u3), .val (.ref b1), .val (.int (2 : Int32)), .val (.int (3 : Int32)), .val (.int (4 : Int32)), .val (.int (5 : Int32)), .unset, .unset, .unset, .unset, .unset, .unset, .unset, .unset, .unset, .unset, .unset] rfl ?_
  refine g_aload w at_52 rfl rfl 54 rfl ?_
  refine g_iconst w at_54 (0 : Int32) rfl 55 rfl ?_
  refine g_iload w at_55 rfl 57 rfl ?_
  refine g_iload w at_57 rfl 59 rfl ?_
  refine g_virt w (argsL := [(.int (0 : Int32)), (.int (4 : Int32)), (.int (5 : Int32))]) (rest := []) (rmN_4 l Z a0 hw n0 b1 aV aL aH aU) at_59 0 rfl 21 rfl 22 rfl 2 rfl 25 rfl 24 rfl 23 rfl ⟨by decide, by decide⟩ pd_1 rfl rfl rfl 0 rfl (by decide) (by decide) (by decide) (by decide) 62 rfl (fun T v L w h => ?_)
  obtain ⟨rfl, hL⟩ := h
  replace w := w.to hL
  refine g_istore w at_62 64 rfl rfl #[.val (.int u0), .val (.int u1), .val (.int u2), .val (.int u3), .val (.ref b1), .val (.int (2 : Int32)), .val (.int (3 : Int32)), .val (.int (4 : Int32)), .val (.int (5 : Int32)), .val (.int (6 : Int32)), .unset, .unset, .unset, .unset, .unset, .unset, .unset, .unset, .unset, .unset] rfl ?_
  refine g_aload w at_64 rfl rfl 66 rfl ?_
  refine g_iconst w at_66 (0 : Int32) rfl 67 rfl ?_
  refine g_iload w at_67 rfl 69 rfl ?_
  refine g_iconst w at_69 (1 : Int32) rfl 70 rfl ?_
  refine g_virt w (argsL := [(.int (0 : Int32)), (.int (5 : Int32)), (.int (1 : Int32))]) (rest := []) (rmN_5 l Z a0 hw n0 b1 aV aL aH aU) at_70 0 rfl 21 rfl 22 rfl 2 rfl 25 rfl 24 rfl 23 rfl ⟨by decide, by decide⟩ pd_1 rfl rfl rfl 0 rfl (by decide) (by decide) (by decide) (by decide) 73 rfl (fun T v L w h => ?_)
  obtain ⟨rfl, hL⟩ := h
  replace w := w.to hL
  refine g_istore w at_73 75 rfl rfl #[.val (.int u0), .val (.int u1), .val (.int u2), .val (.int u3), .val (.ref b1), .val (.int (2 : Int32)), .val (.int (3 : Int32)), .val (.int (4 : Int32)), .val (.int (5 : Int32)), .val (.int (6 : Int32)), .val (.int (7 : Int32)), .unset, .unset, .unset, .unset, .unset, .unset, .unset, .unset, .unset] rfl ?_
  refine g_bipush w at_75 (8 : Int32) rfl 77 rfl ?_
  refine g_newarr w at_77 9 rfl 8 8 (by decide) (by decide) (by decide) [(.int (0 : Int32)), (.int (0 : Int32)), (.int (0 : Int32)), (.int (0 : Int32)), (.int (0 : Int32)), (.int (0 : Int32)), (.int (0 : Int32)), (.int (0 : Int32))] rfl (by decide) (by decide) 79 rfl (fun T b2 w => ?_)
  replace w := w.to (L' := [(b1, O_Diagrams (.ref aV) (.ref aL) (.ref aH) (.ref aU) (.int (8 : Int32))), (aV, .inr (.int, own_A22)), (aL, .inr (.int, own_A23)), (aH, .inr (.int, own_A24)), (aU, .inr (.int, own_A25)), (b2, .inr (.int, [(.int (0 : Int32)), (.int (0 : Int32)), (.int (0 : Int32)), (.int (0 : Int32)), (.int (0 : Int32)), (.int (0 : Int32)), (.int (0 : Int32)), (.int (0 : Int32))]))]) rfl
  refine g_dup w at_79 rfl 80 rfl ?_
  refine g_iconst w at_80 (0 : Int32) rfl 81 rfl ?_
  refine g_iconst w at_81 (0 : Int32) rfl 82 rfl ?_
  refine g_iastore w at_82 5 rfl 0 (by decide) (Nat.le_of_ble_eq_true rfl) (.int (0 : Int32)) rfl 83 rfl (fun T w => ?_)
  replace w := w.to (L' := [(b1, O_Diagrams (.ref aV) (.ref aL) (.ref aH) (.ref aU) (.int (8 : Int32))), (aV, .inr (.int, own_A22)), (aL, .inr (.int, own_A23)), (aH, .inr (.int, own_A24)), (aU, .inr (.int, own_A25)), (b2, .inr (.int, [(.int (0 : Int32)), (.int (0 : Int32)), (.int (0 : Int32)), (.int (0 : Int32)), (.int (0 : Int32)), (.int (0 : Int32)), (.int (0 : Int32)), (.int (0 : Int32))]))]) rfl
  refine g_dup w at_83 rfl 84 rfl ?_
  refine g_iconst w at_84 (1 : Int32) rfl 85 rfl ?_
  refine g_iconst w at_85 (1 : Int32) rfl 86 rfl ?_
  refine g_iastore w at_86 5 rfl 1 (by decide) (Nat.le_of_ble_eq_true rfl) (.int (1 : Int32)) rfl 87 rfl (fun T w => ?_)
  replace w := w.to (L' := [(b1, O_Diagrams (.ref aV) (.ref aL) (.ref aH) (.ref aU) (.int (8 : Int32))), (aV, .inr (.int, own_A22)), (aL, .inr (.int, own_A23)), (aH, .inr (.int, own_A24)), (aU, .inr (.int, own_A25)), (b2, .inr (.int, [(.int (0 : Int32)), (.int (1 : Int32)), (.int (0 : Int32)), (.int (0 : Int32)), (.int (0 : Int32)), (.int (0 : Int32)), (.int (0 : Int32)), (.int (0 : Int32))]))]) rfl
  refine g_dup w at_87 rfl 88 rfl ?_
  refine g_iconst w at_88 (2 : Int32) rfl 89 rfl ?_
  refine g_iload w at_89 rfl 91 rfl ?_
  refine g_iastore w at_91 5 rfl 2 (by decide) (Nat.le_of_ble_eq_true rfl) (.int (2 : Int32)) rfl 92 rfl (fun T w => ?_)
  replace w := w.to (L' := [(b1, O_Diagrams (.ref aV) (.ref aL) (.ref aH) (.ref aU) (.int (8 : Int32))), (aV, .inr (.int, own_A22)), (aL, .inr (.int, own_A23)), (aH, .inr (.int, own_A24)), (aU, .inr (.int, own_A25)), (b2, .inr (.int, [(.int (0 : Int32)), (.int (1 : Int32)), (.int (2 : Int32)), (.int (0 : Int32)), (.int (0 : Int32)), (.int (0 : Int32)), (.int (0 : Int32)), (.int (0 : Int32))]))]) rfl
  refine g_dup w at_92 rfl 93 rfl ?_
  refine g_iconst w at_93 (3 : Int32) rfl 94 rfl ?_
  refine g_iload w at_94 rfl 96 rfl ?_
  refine g_iastore w at_96 5 rfl 3 (by decide) (Nat.le_of_ble_eq_true rfl) (.int (3 : Int32)) rfl 97 rfl (fun T w => ?_)
  replace w := w.to (L' := [(b1, O_Diagrams (.ref aV) (.ref aL) (.ref aH) (.ref aU) (.int (8 : Int32))), (aV, .inr (.int, own_A22)), (aL, .inr (.int, own_A23)), (aH, .inr (.int, own_A24)), (aU, .inr (.int, own_A25)), (b2, .inr (.int, [(.int (0 : Int32)), (.int (1 : Int32)), (.int (2 : Int32)), (.int (3 : Int32)), (.int (0 : Int32)), (.int (0 : Int32)), (.int (0 : Int32)), (.int (0 : Int32))]))]) rfl
  refine g_dup w at_97 rfl 98 rfl ?_
  refine g_iconst w at_98 (4 : Int32) rfl 99 rfl ?_
  refine g_iload w at_99 rfl 101 rfl ?_
  refine g_iastore w at_101 5 rfl 4 (by decide) (Nat.le_of_ble_eq_true rfl) (.int (4 : Int32)) rfl 102 rfl (fun T w => ?_)
  replace w := w.to (L' := [(b1, O_Diagrams (.ref aV) (.ref aL) (.ref aH) (.ref aU) (.int (8 : Int32))), (aV, .inr (.int, own_A22)), (aL, .inr (.int, own_A23)), (aH, .inr (.int, own_A24)), (aU, .inr (.int, own_A25)), (b2, .inr (.int, [(.int (0 : Int32)), (.int (1 : Int32)), (.int (2 : Int32)), (.int (3 : Int32)), (.int (4 : Int32)), (.int (0 : Int32)), (.int (0 : Int32)), (.int (0 : Int32))]))]) rfl
  refine g_dup w at_102 rfl 103 rfl ?_
  refine g_iconst w at_103 (5 : Int32) rfl 104 rfl ?_
  refine g_iload w at_104 rfl 106 rfl ?_
  refine g_iastore w at_106 5 rfl 5 (by decide) (Nat.le_of_ble_eq_true rfl) (.int (5 : Int32)) rfl 107 rfl (fun T w => ?_)
  replace w := w.to (L' := [(b1, O_Diagrams (.ref aV) (.ref aL) (.ref aH) (.ref aU) (.int (8 : Int32))), (aV, .inr (.int, own_A22)), (aL, .inr (.int, own_A23)), (aH, .inr (.int, own_A24)), (aU, .inr (.int, own_A25)), (b2, .inr (.int, [(.int (0 : Int32)), (.int (1 : Int32)), (.int (2 : Int32)), (.int (3 : Int32)), (.int (4 : Int32)), (.int (5 : Int32)), (.int (0 : Int32)), (.int (0 : Int32))]))]) rfl
  refine g_dup w at_107 rfl 108 rfl ?_
  refine g_bipush w at_108 (6 : Int32) rfl 110 rfl ?_
  refine g_iload w at_110 rfl 112 rfl ?_
  refine g_iastore w at_112 5 rfl 6 (by decide) (Nat.le_of_ble_eq_true rfl) (.int (6 : Int32)) rfl 113 rfl (fun T w => ?_)
  replace w := w.to (L' := [(b1, O_Diagrams (.ref aV) (.ref aL) (.ref aH) (.ref aU) (.int (8 : Int32))), (aV, .inr (.int, own_A22)), (aL, .inr (.int, own_A23)), (aH, .inr (.int, own_A24)), (aU, .inr (.int, own_A25)), (b2, .inr (.int, [(.int (0 : Int32)), (.int (1 : Int32)), (.int (2 : Int32)), (.int (3 : Int32)), (.int (4 : Int32)), (.int (5 : Int32)), (.int (6 : Int32)), (.int (0 : Int32))]))]) rfl
  refine g_dup w at_113 rfl 114 rfl ?_
  refine g_bipush w at_114 (7 : Int32) rfl 116 rfl ?_
  refine g_iload w at_116 rfl 118 rfl ?_
  refine g_iastore w at_118 5 rfl 7 (by decide) (Nat.le_of_ble_eq_true rfl) (.int (7 : Int32)) rfl 119 rfl (fun T w => ?_)
  replace w := w.to (L' := [(b1, O_Diagrams (.ref aV) (.ref aL) (.ref aH) (.ref aU) (.int (8 : Int32))), (aV, .inr (.int, own_A22)), (aL, .inr (.int, own_A23)), (aH, .inr (.int, own_A24)), (aU, .inr (.int, own_A25)), (b2, .inr (.int, [(.int (0 : Int32)), (.int (1 : Int32)), (.int (2 : Int32)), (.int (3 : Int32)), (.int (4 : Int32)), (.int (5 : Int32)), (.int (6 : Int32)), (.int (7 : Int32))]))]) rfl
  refine g_astore w at_119 121 rfl rfl #[.val (.int u0), .val (.int u1), .val (.int u2), .val (.int u3), .val (.ref b1), .val (.int (2 : Int32)), .val (.int (3 : Int32)), .val (.int (4 : Int32)), .val (.int (5 : Int32)), .val (.int (6 : Int32)), .val (.int (7 : Int32)), .val (.ref b2), .unset, .unset, .unset, .unset, .unset, .unset, .unset, .unset] rfl ?_
  refine g_bipush w at_121 (8 : Int32) rfl 123 rfl ?_
  refine g_newarr w at_123 9 rfl 8 8 (by decide) (by decide) (by decide) [(.int (0 : Int32)), (.int (0 : Int32)), (.int (0 : Int32)), (.int (0 : Int32)), (.int (0 : Int32)), (.int (0 : Int32)), (.int (0 : Int32)), (.int (0 : Int32))] rfl (by decide) (by decide) 125 rfl (fun T b3 w => ?_)
  replace w := w.to (L' := [(b1, O_Diagrams (.ref aV) (.ref aL) (.ref aH) (.ref aU) (.int (8 : Int32))), (aV, .inr (.int, own_A22)), (aL, .inr (.int, own_A23)), (aH, .inr (.int, own_A24)), (aU, .inr (.int, own_A25)), (b2, .inr (.int, [(.int (0 : Int32)), (.int (1 : Int32)), (.int (2 : Int32)), (.int (3 : Int32)), (.int (4 : Int32)), (.int (5 : Int32)), (.int (6 : Int32)), (.int (7 : Int32))])), (b3, .inr (.int, [(.int (0 : Int32)), (.int (0 : Int32)), (.int (0 : Int32)), (.int (0 : Int32)), (.int (0 : Int32)), (.int (0 : Int32)), (.int (0 : Int32)), (.int (0 : Int32))]))]) rfl
  refine g_dup w at_125 rfl 126 rfl ?_
  refine g_iconst w at_126 (0 : Int32) rfl 127 rfl ?_
  refine g_iconst w at_127 (0 : Int32) rfl 128 rfl ?_
  refine g_iastore w at_128 6 rfl 0 (by decide) (Nat.le_of_ble_eq_true rfl) (.int (0 : Int32)) rfl 129 rfl (fun T w => ?_)
  replace w := w.to (L' := [(b1, O_Diagrams (.ref aV) (.ref aL) (.ref aH) (.ref aU) (.int (8 : Int32))), (aV, .inr (.int, own_A22)), (aL, .inr (.int, own_A23)), (aH, .inr (.int, own_A24)), (aU, .inr (.int, own_A25)), (b2, .inr (.int, [(.int (0 : Int32)), (.int (1 : Int32)), (.int (2 : Int32)), (.int (3 : Int32)), (.int (4 : Int32)), (.int (5 : Int32)), (.int (6 : Int32)), (.int (7 : Int32))])), (b3, .inr (.int, [(.int (0 : Int32)), (.int (0 : Int32)), (.int (0 : Int32)), (.int (0 : Int32)), (.int (0 : Int32)), (.int (0 : Int32)), (.int (0 : Int32)), (.int (0 : Int32))]))]) rfl
  refine g_dup w at_129 rfl 130 rfl ?_
  refine g_iconst w at_130 (1 : Int32) rfl 131 rfl ?_
  refine g_iconst w at_131 (0 : Int32) rfl 132 rfl ?_
  refine g_iastore w at_132 6 rfl 1 (by decide) (Nat.le_of_ble_eq_true rfl) (.int (0 : Int32)) rfl 133 rfl (fun T w => ?_)
  replace w := w.to (L' := [(b1, O_Diagrams (.ref aV) (.ref aL) (.ref aH) (.ref aU) (.int (8 : Int32))), (aV, .inr (.int, own_A22)), (aL, .inr (.int, own_A23)), (aH, .inr (.int, own_A24)), (aU, .inr (.int, own_A25)), (b2, .inr (.int, [(.int (0 : Int32)), (.int (1 : Int32)), (.int (2 : Int32)), (.int (3 : Int32)), (.int (4 : Int32)), (.int (5 : Int32)), (.int (6 : Int32)), (.int (7 : Int32))])), (b3, .inr (.int, [(.int (0 : Int32)), (.int (0 : Int32)), (.int (0 : Int32)), (.int (0 : Int32)), (.int (0 : Int32)), (.int (0 : Int32)), (.int (0 : Int32)), (.int (0 : Int32))]))]) rfl
  refine g_dup w at_133 rfl 134 rfl ?_
  refine g_iconst w at_134 (2 : Int32) rfl 135 rfl ?_
  refine g_iconst w at_135 (1 : Int32) rfl 136 rfl ?_
  refine g_iastore w at_136 6 rfl 2 (by decide) (Nat.le_of_ble_eq_true rfl) (.int (1 : Int32)) rfl 137 rfl (fun T w => ?_)
  replace w := w.to (L' := [(b1, O_Diagrams (.ref aV) (.ref aL) (.ref aH) (.ref aU) (.int (8 : Int32))), (aV, .inr (.int, own_A22)), (aL, .inr (.int, own_A23)), (aH, .inr (.int, own_A24)), (aU, .inr (.int, own_A25)), (b2, .inr (.int, [(.int (0 : Int32)), (.int (1 : Int32)), (.int (2 : Int32)), (.int (3 : Int32)), (.int (4 : Int32)), (.int (5 : Int32)), (.int (6 : Int32)), (.int (7 : Int32))])), (b3, .inr (.int, [(.int (0 : Int32)), (.int (0 : Int32)), (.int (1 : Int32)), (.int (0 : Int32)), (.int (0 : Int32)), (.int (0 : Int32)), (.int (0 : Int32)), (.int (0 : Int32))]))]) rfl
  refine g_dup w at_137 rfl 138 rfl ?_
  refine g_iconst w at_138 (3 : Int32) rfl 139 rfl ?_
  refine g_iconst w at_139 (2 : Int32) rfl 140 rfl ?_
  refine g_iastore w at_140 6 rfl 3 (by decide) (Nat.le_of_ble_eq_true rfl) (.int (2 : Int32)) rfl 141 rfl (fun T w => ?_)
  replace w := w.to (L' := [(b1, O_Diagrams (.ref aV) (.ref aL) (.ref aH) (.ref aU) (.int (8 : Int32))), (aV, .inr (.int, own_A22)), (aL, .inr (.int, own_A23)), (aH, .inr (.int, own_A24)), (aU, .inr (.int, own_A25)), (b2, .inr (.int, [(.int (0 : Int32)), (.int (1 : Int32)), (.int (2 : Int32)), (.int (3 : Int32)), (.int (4 : Int32)), (.int (5 : Int32)), (.int (6 : Int32)), (.int (7 : Int32))])), (b3, .inr (.int, [(.int (0 : Int32)), (.int (0 : Int32)), (.int (1 : Int32)), (.int (2 : Int32)), (.int (0 : Int32)), (.int (0 : Int32)), (.int (0 : Int32)), (.int (0 : Int32))]))]) rfl
  refine g_dup w at_141 rfl 142 rfl ?_
  refine g_iconst w at_142 (4 : Int32) rfl 143 rfl ?_
  refine g_bipush w at_143 (7 : Int32) rfl 145 rfl ?_
  refine g_iastore w at_145 6 rfl 4 (by decide) (Nat.le_of_ble_eq_true rfl) (.int (7 : Int32)) rfl 146 rfl (fun T w => ?_)
  replace w := w.to (L' := [(b1, O_Diagrams (.ref aV) (.ref aL) (.ref aH) (.ref aU) (.int (8 : Int32))), (aV, .inr (.int, own_A22)), (aL, .inr (.int, own_A23)), (aH, .inr (.int, own_A24)), (aU, .inr (.int, own_A25)), (b2, .inr (.int, [(.int (0 : Int32)), (.int (1 : Int32)), (.int (2 : Int32)), (.int (3 : Int32)), (.int (4 : Int32)), (.int (5 : Int32)), (.int (6 : Int32)), (.int (7 : Int32))])), (b3, .inr (.int, [(.int (0 : Int32)), (.int (0 : Int32)), (.int (1 : Int32)), (.int (2 : Int32)), (.int (7 : Int32)), (.int (0 : Int32)), (.int (0 : Int32)), (.int (0 : Int32))]))]) rfl
  refine g_dup w at_146 rfl 147 rfl ?_
  refine g_iconst w at_147 (5 : Int32) rfl 148 rfl ?_
  refine g_bipush w at_148 (9 : Int32) rfl 150 rfl ?_
  refine g_iastore w at_150 6 rfl 5 (by decide) (Nat.le_of_ble_eq_true rfl) (.int (9 : Int32)) rfl 151 rfl (fun T w => ?_)
  replace w := w.to (L' := [(b1, O_Diagrams (.ref aV) (.ref aL) (.ref aH) (.ref aU) (.int (8 : Int32))), (aV, .inr (.int, own_A22)), (aL, .inr (.int, own_A23)), (aH, .inr (.int, own_A24)), (aU, .inr (.int, own_A25)), (b2, .inr (.int, [(.int (0 : Int32)), (.int (1 : Int32)), (.int (2 : Int32)), (.int (3 : Int32)), (.int (4 : Int32)), (.int (5 : Int32)), (.int (6 : Int32)), (.int (7 : Int32))])), (b3, .inr (.int, [(.int (0 : Int32)), (.int (0 : Int32)), (.int (1 : Int32)), (.int (2 : Int32)), (.int (7 : Int32)), (.int (9 : Int32)), (.int (0 : Int32)), (.int (0 : Int32))]))]) rfl
  refine g_dup w at_151 rfl 152 rfl ?_
  refine g_bipush w at_152 (6 : Int32) rfl 154 rfl ?_
  refine g_bipush w at_154 (31 : Int32) rfl 156 rfl ?_
  refine g_iastore w at_156 6 rfl 6 (by decide) (Nat.le_of_ble_eq_true rfl) (.int (31 : Int32)) rfl 157 rfl (fun T w => ?_)
  replace w := w.to (L' := [(b1, O_Diagrams (.ref aV) (.ref aL) (.ref aH) (.ref aU) (.int (8 : Int32))), (aV, .inr (.int, own_A22)), (aL, .inr (.int, own_A23)), (aH, .inr (.int, own_A24)), (aU, .inr (.int, own_A25)), (b2, .inr (.int, [(.int (0 : Int32)), (.int (1 : Int32)), (.int (2 : Int32)), (.int (3 : Int32)), (.int (4 : Int32)), (.int (5 : Int32)), (.int (6 : Int32)), (.int (7 : Int32))])), (b3, .inr (.int, [(.int (0 : Int32)), (.int (0 : Int32)), (.int (1 : Int32)), (.int (2 : Int32)), (.int (7 : Int32)), (.int (9 : Int32)), (.int (31 : Int32)), (.int (0 : Int32))]))]) rfl
  refine g_dup w at_157 rfl 158 rfl ?_
  refine g_bipush w at_158 (7 : Int32) rfl 160 rfl ?_
  refine g_bipush w at_160 (41 : Int32) rfl 162 rfl ?_
  refine g_iastore w at_162 6 rfl 7 (by decide) (Nat.le_of_ble_eq_true rfl) (.int (41 : Int32)) rfl 163 rfl (fun T w => ?_)
  replace w := w.to (L' := [(b1, O_Diagrams (.ref aV) (.ref aL) (.ref aH) (.ref aU) (.int (8 : Int32))), (aV, .inr (.int, own_A22)), (aL, .inr (.int, own_A23)), (aH, .inr (.int, own_A24)), (aU, .inr (.int, own_A25)), (b2, .inr (.int, [(.int (0 : Int32)), (.int (1 : Int32)), (.int (2 : Int32)), (.int (3 : Int32)), (.int (4 : Int32)), (.int (5 : Int32)), (.int (6 : Int32)), (.int (7 : Int32))])), (b3, .inr (.int, [(.int (0 : Int32)), (.int (0 : Int32)), (.int (1 : Int32)), (.int (2 : Int32)), (.int (7 : Int32)), (.int (9 : Int32)), (.int (31 : Int32)), (.int (41 : Int32))]))]) rfl
  refine g_astore w at_163 165 rfl rfl #[.val (.int u0), .val (.int u1), .val (.int u2), .val (.int u3), .val (.ref b1), .val (.int (2 : Int32)), .val (.int (3 : Int32)), .val (.int (4 : Int32)), .val (.int (5 : Int32)), .val (.int (6 : Int32)), .val (.int (7 : Int32)), .val (.ref b2), .val (.ref b3), .unset, .unset, .unset, .unset, .unset, .unset, .unset] rfl ?_
  refine g_iloadN w at_165 rfl 166 rfl ?_
  refine g_iconst w at_166 (3 : Int32) rfl 167 rfl ?_
  refine g_iand w at_167 168 rfl ?_
  refine g_istore w at_168 170 rfl rfl #[.val (.int u0), .val (.int u1), .val (.int u2), .val (.int u3), .val (.ref b1), .val (.int (2 : Int32)), .val (.int (3 : Int32)), .val (.int (4 : Int32)), .val (.int (5 : Int32)), .val (.int (6 : Int32)), .val (.int (7 : Int32)), .val (.ref b2), .val (.ref b3), .val (.int (u0 &&& (3 : Int32))), .unset, .unset, .unset, .unset, .unset, .unset] rfl ?_
  refine g_iloadN w at_170 rfl 171 rfl ?_
  refine g_bipush w at_171 (7 : Int32) rfl 173 rfl ?_
  refine g_iand w at_173 174 rfl ?_
  obtain ⟨x0, hx0⟩ : ∃ own_z, own_z = ((u1 &&& (7 : Int32)) : Int32) := ⟨_, rfl⟩
  refine g_istore w at_174 176 rfl hx0.symm #[.val (.int u0), .val (.int u1), .val (.int u2), .val (.int u3), .val (.ref b1), .val (.int (2 : Int32)), .val (.int (3 : Int32)), .val (.int (4 : Int32)), .val (.int (5 : Int32)), .val (.int (6 : Int32)), .val (.int (7 : Int32)), .val (.ref b2), .val (.ref b3), .val (.int (u0 &&& (3 : Int32))), .val (.int x0), .unset, .unset, .unset, .unset, .unset] rfl ?_
  obtain ⟨jx0, hjx0, hlx0⟩ : ∃ j : Nat, x0.toInt = (j : Int) ∧ j < 8 := by rw [hx0]; exact own_ix u1
  obtain ⟨y0, hyv0, hy0⟩ := own_id hlx0
  refine g_iloadN w at_176 rfl 177 rfl ?_
  refine g_bipush w at_177 (7 : Int32) rfl 179 rfl ?_
  refine g_iand w at_179 180 rfl ?_
  obtain ⟨x1, hx1⟩ : ∃ own_z, own_z = ((u2 &&& (7 : Int32)) : Int32) := ⟨_, rfl⟩
  refine g_istore w at_180 182 rfl hx1.symm #[.val (.int u0), .val (.int u1), .val (.int u2), .val (.int u3), .val (.ref b1), .val (.int (2 : Int32)), .val (.int (3 : Int32)), .val (.int (4 : Int32)), .val (.int (5 : Int32)), .val (.int (6 : Int32)), .val (.int (7 : Int32)), .val (.ref b2), .val (.ref b3), .val (.int (u0 &&& (3 : Int32))), .val (.int x0), .val (.int x1), .unset, .unset, .unset, .unset] rfl ?_
  obtain ⟨jx1, hjx1, hlx1⟩ : ∃ j : Nat, x1.toInt = (j : Int) ∧ j < 8 := by rw [hx1]; exact own_ix u2
  obtain ⟨y1, hyv1, hy1⟩ := own_id hlx1
  refine g_iloadN w at_182 rfl 183 rfl ?_
  refine g_bipush w at_183 (7 : Int32) rfl 185 rfl ?_
  refine g_iand w at_185 186 rfl ?_
  obtain ⟨x2, hx2⟩ : ∃ own_z, own_z = ((u3 &&& (7 : Int32)) : Int32) := ⟨_, rfl⟩
  refine g_istore w at_186 188 rfl hx2.symm #[.val (.int u0), .val (.int u1), .val (.int u2), .val (.int u3), .val (.ref b1), .val (.int (2 : Int32)), .val (.int (3 : Int32)), .val (.int (4 : Int32)), .val (.int (5 : Int32)), .val (.int (6 : Int32)), .val (.int (7 : Int32)), .val (.ref b2), .val (.ref b3), .val (.int (u0 &&& (3 : Int32))), .val (.int x0), .val (.int x1), .val (.int x2), .unset, .unset, .unset] rfl ?_
  obtain ⟨jx2, hjx2, hlx2⟩ : ∃ j : Nat, x2.toInt = (j : Int) ∧ j < 8 := by rw [hx2]; exact own_ix u3
  obtain ⟨y2, hyv2, hy2⟩ := own_id hlx2
  rcases own_n u0 with hn | hn | hn | hn
  · -- pc 188 k = 0
    rw [hn]
    refine g_iload w at_188 rfl 190 rfl ?_
    refine g_if_ne w at_190 204 (by decide) (by decide) 193 rfl (fun h => absurd (by decide) h) (fun hc190 => ?_)
    refine g_iconst w at_193 (0 : Int32) rfl 194 rfl ?_
    refine g_newarr w at_194 9 rfl 0 0 (by decide) (by decide) (by decide) [] rfl (by decide) (by decide) 196 rfl (fun T b4 w => ?_)
    replace w := w.to (L' := [(b1, O_Diagrams (.ref aV) (.ref aL) (.ref aH) (.ref aU) (.int (8 : Int32))), (aV, .inr (.int, own_A22)), (aL, .inr (.int, own_A23)), (aH, .inr (.int, own_A24)), (aU, .inr (.int, own_A25)), (b2, .inr (.int, [(.int (0 : Int32)), (.int (1 : Int32)), (.int (2 : Int32)), (.int (3 : Int32)), (.int (4 : Int32)), (.int (5 : Int32)), (.int (6 : Int32)), (.int (7 : Int32))])), (b3, .inr (.int, [(.int (0 : Int32)), (.int (0 : Int32)), (.int (1 : Int32)), (.int (2 : Int32)), (.int (7 : Int32)), (.int (9 : Int32)), (.int (31 : Int32)), (.int (41 : Int32))])), (b4, .inr (.int, []))]) rfl
    refine g_astore w at_196 198 rfl rfl #[.val (.int u0), .val (.int u1), .val (.int u2), .val (.int u3), .val (.ref b1), .val (.int (2 : Int32)), .val (.int (3 : Int32)), .val (.int (4 : Int32)), .val (.int (5 : Int32)), .val (.int (6 : Int32)), .val (.int (7 : Int32)), .val (.ref b2), .val (.ref b3), .val (.int (0 : Int32)), .val (.int x0), .val (.int x1), .val (.int x2), .val (.ref b4), .unset, .unset] rfl ?_
    refine g_iconst w at_198 (0 : Int32) rfl 199 rfl ?_
    refine g_istore w at_199 201 rfl rfl #[.val (.int u0), .val (.int u1), .val (.int u2), .val (.int u3), .val (.ref b1), .val (.int (2 : Int32)), .val (.int (3 : Int32)), .val (.int (4 : Int32)), .val (.int (5 : Int32)), .val (.int (6 : Int32)), .val (.int (7 : Int32)), .val (.ref b2), .val (.ref b3), .val (.int (0 : Int32)), .val (.int x0), .val (.int x1), .val (.int x2), .val (.ref b4), .val (.int (0 : Int32)), .unset] rfl ?_
    refine g_goto w at_201 324 (by decide) (by decide) ?_
    refine g_aload w at_324 rfl rfl 326 rfl ?_
    refine g_aload w at_326 rfl rfl 328 rfl ?_
    refine g_virt w (argsL := [(.ref b4)]) (rest := []) (rmT_0 l Z a0 hw n0 b1 aV aL aH aU b2 b3 b4  ) at_328 0 rfl 35 rfl 36 rfl 2 rfl 39 rfl 38 rfl 37 rfl ⟨by decide, by decide⟩ pd_3 rfl rfl rfl 0 rfl (by decide) (by decide) (by decide) (by decide) 331 rfl (fun T v L w h => ?_)
    obtain ⟨rfl, re, vs, rfl⟩ := h
    refine g_istore w at_331 333 rfl rfl #[.val (.int u0), .val (.int u1), .val (.int u2), .val (.int u3), .val (.ref b1), .val (.int (2 : Int32)), .val (.int (3 : Int32)), .val (.int (4 : Int32)), .val (.int (5 : Int32)), .val (.int (6 : Int32)), .val (.int (7 : Int32)), .val (.ref b2), .val (.ref b3), .val (.int (0 : Int32)), .val (.int x0), .val (.int x1), .val (.int x2), .val (.ref b4), .val (.int (0 : Int32)), .val (.int (own_cnt []))] rfl ?_
    refine g_iload w at_333 rfl 335 rfl ?_
    refine g_iload w at_335 rfl 337 rfl ?_
    refine g_static w (argsL := [(.int (0 : Int32))]) (rest := [(.int (own_cnt []))]) (rm7 l Z a0 hw n0 (0 : Int32) ([(b1, O_Diagrams (.ref aV) (.ref aL) (.ref aH) (.ref aU) (.int (8 : Int32))), (aV, .inr (.int, own_A22)), (aL, .inr (.int, own_A23)), (aH, .inr (.int, own_A24)), (aU, .inr (.int, own_A25)), (b2, .inr (.int, [(.int (0 : Int32)), (.int (1 : Int32)), (.int (2 : Int32)), (.int (3 : Int32)), (.int (4 : Int32)), (.int (5 : Int32)), (.int (6 : Int32)), (.int (7 : Int32))])), (b3, .inr (.int, [(.int (0 : Int32)), (.int (0 : Int32)), (.int (1 : Int32)), (.int (2 : Int32)), (.int (7 : Int32)), (.int (9 : Int32)), (.int (31 : Int32)), (.int (41 : Int32))])), (b4, .inr (.int, [])), (re, .inr (.boolean, vs))])) at_337 41 rfl 42 rfl 43 rfl 44 rfl ⟨by decide, by decide⟩ pd_4 rfl rfl rfl 1 rfl (by decide) (by decide) (by decide) (by decide) 340 rfl (fun T v L w h => ?_)
    obtain ⟨rfl, hL⟩ := h
    replace w := w.to hL
    refine g_icmp_ne w at_340 357 (by decide) (by decide) 343 rfl (fun h => absurd own_all0 h) (fun hc340 => ?_)
    refine g_aload w at_343 rfl rfl 345 rfl ?_
    refine g_virt w (argsL := []) (rest := []) (rm8 l Z a0 hw n0 b1 ([(b1, O_Diagrams (.ref aV) (.ref aL) (.ref aH) (.ref aU) (.int (8 : Int32))), (aV, .inr (.int, own_A22)), (aL, .inr (.int, own_A23)), (aH, .inr (.int, own_A24)), (aU, .inr (.int, own_A25)), (b2, .inr (.int, [(.int (0 : Int32)), (.int (1 : Int32)), (.int (2 : Int32)), (.int (3 : Int32)), (.int (4 : Int32)), (.int (5 : Int32)), (.int (6 : Int32)), (.int (7 : Int32))])), (b3, .inr (.int, [(.int (0 : Int32)), (.int (0 : Int32)), (.int (1 : Int32)), (.int (2 : Int32)), (.int (7 : Int32)), (.int (9 : Int32)), (.int (31 : Int32)), (.int (41 : Int32))])), (b4, .inr (.int, [])), (re, .inr (.boolean, vs))]) (.ref aV) (.ref aL) (.ref aH) (.ref aU) rfl) at_345 0 rfl 45 rfl 46 rfl 2 rfl 49 rfl 48 rfl 47 rfl ⟨by decide, by decide⟩ pd_5 rfl rfl rfl 0 rfl (by decide) (by decide) (by decide) (by decide) 348 rfl (fun T v L w h => ?_)
    obtain ⟨rfl, hL⟩ := h
    replace w := w.to hL
    refine g_bipush w at_348 (8 : Int32) rfl 350 rfl ?_
    refine g_icmp_ne w at_350 357 (by decide) (by decide) 353 rfl (fun h => absurd (by decide) h) (fun hc350 => ?_)
    refine g_iconst w at_353 (1 : Int32) rfl 354 rfl ?_
    refine g_goto w at_354 358 (by decide) (by decide) ?_
    exact g_iretn w (by simp) at_358 (by decide) (by decide) rfl
  · -- pc 188 k = 1
    rw [hn]
    refine g_iload w at_188 rfl 190 rfl ?_
    refine g_if_ne w at_190 204 (by decide) (by decide) 193 rfl (fun hc190 => ?_) (fun h => absurd h (by decide))
    refine g_iload w at_204 rfl 206 rfl ?_
    refine g_iconst w at_206 (1 : Int32) rfl 207 rfl ?_
    refine g_icmp_ne w at_207 233 (by decide) (by decide) 210 rfl (fun h => absurd (by decide) h) (fun hc207 => ?_)
    refine g_iconst w at_210 (1 : Int32) rfl 211 rfl ?_
    refine g_newarr w at_211 9 rfl 1 1 (by decide) (by decide) (by decide) [(.int (0 : Int32))] rfl (by decide) (by decide) 213 rfl (fun T b5 w => ?_)
    replace w := w.to (L' := [(b1, O_Diagrams (.ref aV) (.ref aL) (.ref aH) (.ref aU) (.int (8 : Int32))), (aV, .inr (.int, own_A22)), (aL, .inr (.int, own_A23)), (aH, .inr (.int, own_A24)), (aU, .inr (.int, own_A25)), (b2, .inr (.int, [(.int (0 : Int32)), (.int (1 : Int32)), (.int (2 : Int32)), (.int (3 : Int32)), (.int (4 : Int32)), (.int (5 : Int32)), (.int (6 : Int32)), (.int (7 : Int32))])), (b3, .inr (.int, [(.int (0 : Int32)), (.int (0 : Int32)), (.int (1 : Int32)), (.int (2 : Int32)), (.int (7 : Int32)), (.int (9 : Int32)), (.int (31 : Int32)), (.int (41 : Int32))])), (b5, .inr (.int, [(.int (0 : Int32))]))]) rfl
    refine g_dup w at_213 rfl 214 rfl ?_
    refine g_iconst w at_214 (0 : Int32) rfl 215 rfl ?_
    refine g_aload w at_215 rfl rfl 217 rfl ?_
    refine g_iload w at_217 rfl 219 rfl ?_
    refine g_iaload w at_219 5 rfl jx0 hjx0 hyv0 220 rfl ?_
    refine g_iastore w at_220 7 rfl 0 (by decide) (Nat.le_of_ble_eq_true rfl) (.int y0) rfl 221 rfl (fun T w => ?_)
    replace w := w.to (L' := [(b1, O_Diagrams (.ref aV) (.ref aL) (.ref aH) (.ref aU) (.int (8 : Int32))), (aV, .inr (.int, own_A22)), (aL, .inr (.int, own_A23)), (aH, .inr (.int, own_A24)), (aU, .inr (.int, own_A25)), (b2, .inr (.int, [(.int (0 : Int32)), (.int (1 : Int32)), (.int (2 : Int32)), (.int (3 : Int32)), (.int (4 : Int32)), (.int (5 : Int32)), (.int (6 : Int32)), (.int (7 : Int32))])), (b3, .inr (.int, [(.int (0 : Int32)), (.int (0 : Int32)), (.int (1 : Int32)), (.int (2 : Int32)), (.int (7 : Int32)), (.int (9 : Int32)), (.int (31 : Int32)), (.int (41 : Int32))])), (b5, .inr (.int, [(.int y0)]))]) rfl
    refine g_astore w at_221 223 rfl rfl #[.val (.int u0), .val (.int u1), .val (.int u2), .val (.int u3), .val (.ref b1), .val (.int (2 : Int32)), .val (.int (3 : Int32)), .val (.int (4 : Int32)), .val (.int (5 : Int32)), .val (.int (6 : Int32)), .val (.int (7 : Int32)), .val (.ref b2), .val (.ref b3), .val (.int (1 : Int32)), .val (.int x0), .val (.int x1), .val (.int x2), .val (.ref b5), .unset, .unset] rfl ?_
    refine g_aload w at_223 rfl rfl 225 rfl ?_
    refine g_iload w at_225 rfl 227 rfl ?_
    refine g_iaload w at_227 6 rfl jx0 hjx0 (own_mkv hlx0) 228 rfl ?_
    refine g_istore w at_228 230 rfl rfl #[.val (.int u0), .val (.int u1), .val (.int u2), .val (.int u3), .val (.ref b1), .val (.int (2 : Int32)), .val (.int (3 : Int32)), .val (.int (4 : Int32)), .val (.int (5 : Int32)), .val (.int (6 : Int32)), .val (.int (7 : Int32)), .val (.ref b2), .val (.ref b3), .val (.int (1 : Int32)), .val (.int x0), .val (.int x1), .val (.int x2), .val (.ref b5), .val (.int (own_mk jx0)), .unset] rfl ?_
    refine g_goto w at_230 324 (by decide) (by decide) ?_
    refine g_aload w at_324 rfl rfl 326 rfl ?_
    refine g_aload w at_326 rfl rfl 328 rfl ?_
    refine g_virt w (argsL := [(.ref b5)]) (rest := []) (rmT_1 l Z a0 hw n0 b1 aV aL aH aU b2 b3 b5 y0 jx0 hy0 hlx0) at_328 0 rfl 35 rfl 36 rfl 2 rfl 39 rfl 38 rfl 37 rfl ⟨by decide, by decide⟩ pd_3 rfl rfl rfl 0 rfl (by decide) (by decide) (by decide) (by decide) 331 rfl (fun T v L w h => ?_)
    obtain ⟨rfl, re, vs, rfl⟩ := h
    refine g_istore w at_331 333 rfl rfl #[.val (.int u0), .val (.int u1), .val (.int u2), .val (.int u3), .val (.ref b1), .val (.int (2 : Int32)), .val (.int (3 : Int32)), .val (.int (4 : Int32)), .val (.int (5 : Int32)), .val (.int (6 : Int32)), .val (.int (7 : Int32)), .val (.ref b2), .val (.ref b3), .val (.int (1 : Int32)), .val (.int x0), .val (.int x1), .val (.int x2), .val (.ref b5), .val (.int (own_mk jx0)), .val (.int (own_cnt [jx0]))] rfl ?_
    refine g_iload w at_333 rfl 335 rfl ?_
    refine g_iload w at_335 rfl 337 rfl ?_
    refine g_static w (argsL := [(.int (own_mk jx0))]) (rest := [(.int (own_cnt [jx0]))]) (rm7 l Z a0 hw n0 (own_mk jx0) ([(b1, O_Diagrams (.ref aV) (.ref aL) (.ref aH) (.ref aU) (.int (8 : Int32))), (aV, .inr (.int, own_A22)), (aL, .inr (.int, own_A23)), (aH, .inr (.int, own_A24)), (aU, .inr (.int, own_A25)), (b2, .inr (.int, [(.int (0 : Int32)), (.int (1 : Int32)), (.int (2 : Int32)), (.int (3 : Int32)), (.int (4 : Int32)), (.int (5 : Int32)), (.int (6 : Int32)), (.int (7 : Int32))])), (b3, .inr (.int, [(.int (0 : Int32)), (.int (0 : Int32)), (.int (1 : Int32)), (.int (2 : Int32)), (.int (7 : Int32)), (.int (9 : Int32)), (.int (31 : Int32)), (.int (41 : Int32))])), (b5, .inr (.int, [(.int y0)])), (re, .inr (.boolean, vs))])) at_337 41 rfl 42 rfl 43 rfl 44 rfl ⟨by decide, by decide⟩ pd_4 rfl rfl rfl 1 rfl (by decide) (by decide) (by decide) (by decide) 340 rfl (fun T v L w h => ?_)
    obtain ⟨rfl, hL⟩ := h
    replace w := w.to hL
    refine g_icmp_ne w at_340 357 (by decide) (by decide) 343 rfl (fun h => absurd (own_all1 ⟨jx0, hlx0⟩) h) (fun hc340 => ?_)
    refine g_aload w at_343 rfl rfl 345 rfl ?_
    refine g_virt w (argsL := []) (rest := []) (rm8 l Z a0 hw n0 b1 ([(b1, O_Diagrams (.ref aV) (.ref aL) (.ref aH) (.ref aU) (.int (8 : Int32))), (aV, .inr (.int, own_A22)), (aL, .inr (.int, own_A23)), (aH, .inr (.int, own_A24)), (aU, .inr (.int, own_A25)), (b2, .inr (.int, [(.int (0 : Int32)), (.int (1 : Int32)), (.int (2 : Int32)), (.int (3 : Int32)), (.int (4 : Int32)), (.int (5 : Int32)), (.int (6 : Int32)), (.int (7 : Int32))])), (b3, .inr (.int, [(.int (0 : Int32)), (.int (0 : Int32)), (.int (1 : Int32)), (.int (2 : Int32)), (.int (7 : Int32)), (.int (9 : Int32)), (.int (31 : Int32)), (.int (41 : Int32))])), (b5, .inr (.int, [(.int y0)])), (re, .inr (.boolean, vs))]) (.ref aV) (.ref aL) (.ref aH) (.ref aU) rfl) at_345 0 rfl 45 rfl 46 rfl 2 rfl 49 rfl 48 rfl 47 rfl ⟨by decide, by decide⟩ pd_5 rfl rfl rfl 0 rfl (by decide) (by decide) (by decide) (by decide) 348 rfl (fun T v L w h => ?_)
    obtain ⟨rfl, hL⟩ := h
    replace w := w.to hL
    refine g_bipush w at_348 (8 : Int32) rfl 350 rfl ?_
    refine g_icmp_ne w at_350 357 (by decide) (by decide) 353 rfl (fun h => absurd (by decide) h) (fun hc350 => ?_)
    refine g_iconst w at_353 (1 : Int32) rfl 354 rfl ?_
    refine g_goto w at_354 358 (by decide) (by decide) ?_
    exact g_iretn w (by simp) at_358 (by decide) (by decide) rfl
  · -- pc 188 k = 2
    rw [hn]
    refine g_iload w at_188 rfl 190 rfl ?_
    refine g_if_ne w at_190 204 (by decide) (by decide) 193 rfl (fun hc190 => ?_) (fun h => absurd h (by decide))
    refine g_iload w at_204 rfl 206 rfl ?_
    refine g_iconst w at_206 (1 : Int32) rfl 207 rfl ?_
    refine g_icmp_ne w at_207 233 (by decide) (by decide) 210 rfl (fun hc207 => ?_) (fun h => absurd h (by decide))
    refine g_iload w at_233 rfl 235 rfl ?_
    refine g_iconst w at_235 (2 : Int32) rfl 236 rfl ?_
    refine g_icmp_ne w at_236 276 (by decide) (by decide) 239 rfl (fun h => absurd (by decide) h) (fun hc236 => ?_)
    refine g_iconst w at_239 (2 : Int32) rfl 240 rfl ?_
    refine g_newarr w at_240 9 rfl 2 2 (by decide) (by decide) (by decide) [(.int (0 : Int32)), (.int (0 : Int32))] rfl (by decide) (by decide) 242 rfl (fun T b6 w => ?_)
    replace w := w.to (L' := [(b1, O_Diagrams (.ref aV) (.ref aL) (.ref aH) (.ref aU) (.int (8 : Int32))), (aV, .inr (.int, own_A22)), (aL, .inr (.int, own_A23)), (aH, .inr (.int, own_A24)), (aU, .inr (.int, own_A25)), (b2, .inr (.int, [(.int (0 : Int32)), (.int (1 : Int32)), (.int (2 : Int32)), (.int (3 : Int32)), (.int (4 : Int32)), (.int (5 : Int32)), (.int (6 : Int32)), (.int (7 : Int32))])), (b3, .inr (.int, [(.int (0 : Int32)), (.int (0 : Int32)), (.int (1 : Int32)), (.int (2 : Int32)), (.int (7 : Int32)), (.int (9 : Int32)), (.int (31 : Int32)), (.int (41 : Int32))])), (b6, .inr (.int, [(.int (0 : Int32)), (.int (0 : Int32))]))]) rfl
    refine g_dup w at_242 rfl 243 rfl ?_
    refine g_iconst w at_243 (0 : Int32) rfl 244 rfl ?_
    refine g_aload w at_244 rfl rfl 246 rfl ?_
    refine g_iload w at_246 rfl 248 rfl ?_
    refine g_iaload w at_248 5 rfl jx0 hjx0 hyv0 249 rfl ?_
    refine g_iastore w at_249 7 rfl 0 (by decide) (Nat.le_of_ble_eq_true rfl) (.int y0) rfl 250 rfl (fun T w => ?_)
    replace w := w.to (L' := [(b1, O_Diagrams (.ref aV) (.ref aL) (.ref aH) (.ref aU) (.int (8 : Int32))), (aV, .inr (.int, own_A22)), (aL, .inr (.int, own_A23)), (aH, .inr (.int, own_A24)), (aU, .inr (.int, own_A25)), (b2, .inr (.int, [(.int (0 : Int32)), (.int (1 : Int32)), (.int (2 : Int32)), (.int (3 : Int32)), (.int (4 : Int32)), (.int (5 : Int32)), (.int (6 : Int32)), (.int (7 : Int32))])), (b3, .inr (.int, [(.int (0 : Int32)), (.int (0 : Int32)), (.int (1 : Int32)), (.int (2 : Int32)), (.int (7 : Int32)), (.int (9 : Int32)), (.int (31 : Int32)), (.int (41 : Int32))])), (b6, .inr (.int, [(.int y0), (.int (0 : Int32))]))]) rfl
    refine g_dup w at_250 rfl 251 rfl ?_
    refine g_iconst w at_251 (1 : Int32) rfl 252 rfl ?_
    refine g_aload w at_252 rfl rfl 254 rfl ?_
    refine g_iload w at_254 rfl 256 rfl ?_
    refine g_iaload w at_256 5 rfl jx1 hjx1 hyv1 257 rfl ?_
    refine g_iastore w at_257 7 rfl 1 (by decide) (Nat.le_of_ble_eq_true rfl) (.int y1) rfl 258 rfl (fun T w => ?_)
    replace w := w.to (L' := [(b1, O_Diagrams (.ref aV) (.ref aL) (.ref aH) (.ref aU) (.int (8 : Int32))), (aV, .inr (.int, own_A22)), (aL, .inr (.int, own_A23)), (aH, .inr (.int, own_A24)), (aU, .inr (.int, own_A25)), (b2, .inr (.int, [(.int (0 : Int32)), (.int (1 : Int32)), (.int (2 : Int32)), (.int (3 : Int32)), (.int (4 : Int32)), (.int (5 : Int32)), (.int (6 : Int32)), (.int (7 : Int32))])), (b3, .inr (.int, [(.int (0 : Int32)), (.int (0 : Int32)), (.int (1 : Int32)), (.int (2 : Int32)), (.int (7 : Int32)), (.int (9 : Int32)), (.int (31 : Int32)), (.int (41 : Int32))])), (b6, .inr (.int, [(.int y0), (.int y1)]))]) rfl
    refine g_astore w at_258 260 rfl rfl #[.val (.int u0), .val (.int u1), .val (.int u2), .val (.int u3), .val (.ref b1), .val (.int (2 : Int32)), .val (.int (3 : Int32)), .val (.int (4 : Int32)), .val (.int (5 : Int32)), .val (.int (6 : Int32)), .val (.int (7 : Int32)), .val (.ref b2), .val (.ref b3), .val (.int (2 : Int32)), .val (.int x0), .val (.int x1), .val (.int x2), .val (.ref b6), .unset, .unset] rfl ?_
    refine g_aload w at_260 rfl rfl 262 rfl ?_
    refine g_iload w at_262 rfl 264 rfl ?_
    refine g_iaload w at_264 6 rfl jx0 hjx0 (own_mkv hlx0) 265 rfl ?_
    refine g_aload w at_265 rfl rfl 267 rfl ?_
    refine g_iload w at_267 rfl 269 rfl ?_
    refine g_iaload w at_269 6 rfl jx1 hjx1 (own_mkv hlx1) 270 rfl ?_
    refine g_ior w at_270 271 rfl ?_
    refine g_istore w at_271 273 rfl rfl #[.val (.int u0), .val (.int u1), .val (.int u2), .val (.int u3), .val (.ref b1), .val (.int (2 : Int32)), .val (.int (3 : Int32)), .val (.int (4 : Int32)), .val (.int (5 : Int32)), .val (.int (6 : Int32)), .val (.int (7 : Int32)), .val (.ref b2), .val (.ref b3), .val (.int (2 : Int32)), .val (.int x0), .val (.int x1), .val (.int x2), .val (.ref b6), .val (.int ((own_mk jx0) ||| (own_mk jx1))), .unset] rfl ?_
    refine g_goto w at_273 324 (by decide) (by decide) ?_
    refine g_aload w at_324 rfl rfl 326 rfl ?_
    refine g_aload w at_326 rfl rfl 328 rfl ?_
    refine g_virt w (argsL := [(.ref b6)]) (rest := []) (rmT_2 l Z a0 hw n0 b1 aV aL aH aU b2 b3 b6 y0 jx0 y1 jx1 hy0 hlx0 hy1 hlx1) at_328 0 rfl 35 rfl 36 rfl 2 rfl 39 rfl 38 rfl 37 rfl ⟨by decide, by decide⟩ pd_3 rfl rfl rfl 0 rfl (by decide) (by decide) (by decide) (by decide) 331 rfl (fun T v L w h => ?_)
    obtain ⟨rfl, re, vs, rfl⟩ := h
    refine g_istore w at_331 333 rfl rfl #[.val (.int u0), .val (.int u1), .val (.int u2), .val (.int u3), .val (.ref b1), .val (.int (2 : Int32)), .val (.int (3 : Int32)), .val (.int (4 : Int32)), .val (.int (5 : Int32)), .val (.int (6 : Int32)), .val (.int (7 : Int32)), .val (.ref b2), .val (.ref b3), .val (.int (2 : Int32)), .val (.int x0), .val (.int x1), .val (.int x2), .val (.ref b6), .val (.int ((own_mk jx0) ||| (own_mk jx1))), .val (.int (own_cnt [jx0, jx1]))] rfl ?_
    refine g_iload w at_333 rfl 335 rfl ?_
    refine g_iload w at_335 rfl 337 rfl ?_
    refine g_static w (argsL := [(.int ((own_mk jx0) ||| (own_mk jx1)))]) (rest := [(.int (own_cnt [jx0, jx1]))]) (rm7 l Z a0 hw n0 ((own_mk jx0) ||| (own_mk jx1)) ([(b1, O_Diagrams (.ref aV) (.ref aL) (.ref aH) (.ref aU) (.int (8 : Int32))), (aV, .inr (.int, own_A22)), (aL, .inr (.int, own_A23)), (aH, .inr (.int, own_A24)), (aU, .inr (.int, own_A25)), (b2, .inr (.int, [(.int (0 : Int32)), (.int (1 : Int32)), (.int (2 : Int32)), (.int (3 : Int32)), (.int (4 : Int32)), (.int (5 : Int32)), (.int (6 : Int32)), (.int (7 : Int32))])), (b3, .inr (.int, [(.int (0 : Int32)), (.int (0 : Int32)), (.int (1 : Int32)), (.int (2 : Int32)), (.int (7 : Int32)), (.int (9 : Int32)), (.int (31 : Int32)), (.int (41 : Int32))])), (b6, .inr (.int, [(.int y0), (.int y1)])), (re, .inr (.boolean, vs))])) at_337 41 rfl 42 rfl 43 rfl 44 rfl ⟨by decide, by decide⟩ pd_4 rfl rfl rfl 1 rfl (by decide) (by decide) (by decide) (by decide) 340 rfl (fun T v L w h => ?_)
    obtain ⟨rfl, hL⟩ := h
    replace w := w.to hL
    refine g_icmp_ne w at_340 357 (by decide) (by decide) 343 rfl (fun h => absurd (own_all2 ⟨jx0, hlx0⟩ ⟨jx1, hlx1⟩) h) (fun hc340 => ?_)
    refine g_aload w at_343 rfl rfl 345 rfl ?_
    refine g_virt w (argsL := []) (rest := []) (rm8 l Z a0 hw n0 b1 ([(b1, O_Diagrams (.ref aV) (.ref aL) (.ref aH) (.ref aU) (.int (8 : Int32))), (aV, .inr (.int, own_A22)), (aL, .inr (.int, own_A23)), (aH, .inr (.int, own_A24)), (aU, .inr (.int, own_A25)), (b2, .inr (.int, [(.int (0 : Int32)), (.int (1 : Int32)), (.int (2 : Int32)), (.int (3 : Int32)), (.int (4 : Int32)), (.int (5 : Int32)), (.int (6 : Int32)), (.int (7 : Int32))])), (b3, .inr (.int, [(.int (0 : Int32)), (.int (0 : Int32)), (.int (1 : Int32)), (.int (2 : Int32)), (.int (7 : Int32)), (.int (9 : Int32)), (.int (31 : Int32)), (.int (41 : Int32))])), (b6, .inr (.int, [(.int y0), (.int y1)])), (re, .inr (.boolean, vs))]) (.ref aV) (.ref aL) (.ref aH) (.ref aU) rfl) at_345 0 rfl 45 rfl 46 rfl 2 rfl 49 rfl 48 rfl 47 rfl ⟨by decide, by decide⟩ pd_5 rfl rfl rfl 0 rfl (by decide) (by decide) (by decide) (by decide) 348 rfl (fun T v L w h => ?_)
    obtain ⟨rfl, hL⟩ := h
    replace w := w.to hL
    refine g_bipush w at_348 (8 : Int32) rfl 350 rfl ?_
    refine g_icmp_ne w at_350 357 (by decide) (by decide) 353 rfl (fun h => absurd (by decide) h) (fun hc350 => ?_)
    refine g_iconst w at_353 (1 : Int32) rfl 354 rfl ?_
    refine g_goto w at_354 358 (by decide) (by decide) ?_
    exact g_iretn w (by simp) at_358 (by decide) (by decide) rfl
  · -- pc 188 k = 3
    rw [hn]
    refine g_iload w at_188 rfl 190 rfl ?_
    refine g_if_ne w at_190 204 (by decide) (by decide) 193 rfl (fun hc190 => ?_) (fun h => absurd h (by decide))
    refine g_iload w at_204 rfl 206 rfl ?_
    refine g_iconst w at_206 (1 : Int32) rfl 207 rfl ?_
    refine g_icmp_ne w at_207 233 (by decide) (by decide) 210 rfl (fun hc207 => ?_) (fun h => absurd h (by decide))
    refine g_iload w at_233 rfl 235 rfl ?_
    refine g_iconst w at_235 (2 : Int32) rfl 236 rfl ?_
    refine g_icmp_ne w at_236 276 (by decide) (by decide) 239 rfl (fun hc236 => ?_) (fun h => absurd h (by decide))
    refine g_iconst w at_276 (3 : Int32) rfl 277 rfl ?_
    refine g_newarr w at_277 9 rfl 3 3 (by decide) (by decide) (by decide) [(.int (0 : Int32)), (.int (0 : Int32)), (.int (0 : Int32))] rfl (by decide) (by decide) 279 rfl (fun T b7 w => ?_)
    replace w := w.to (L' := [(b1, O_Diagrams (.ref aV) (.ref aL) (.ref aH) (.ref aU) (.int (8 : Int32))), (aV, .inr (.int, own_A22)), (aL, .inr (.int, own_A23)), (aH, .inr (.int, own_A24)), (aU, .inr (.int, own_A25)), (b2, .inr (.int, [(.int (0 : Int32)), (.int (1 : Int32)), (.int (2 : Int32)), (.int (3 : Int32)), (.int (4 : Int32)), (.int (5 : Int32)), (.int (6 : Int32)), (.int (7 : Int32))])), (b3, .inr (.int, [(.int (0 : Int32)), (.int (0 : Int32)), (.int (1 : Int32)), (.int (2 : Int32)), (.int (7 : Int32)), (.int (9 : Int32)), (.int (31 : Int32)), (.int (41 : Int32))])), (b7, .inr (.int, [(.int (0 : Int32)), (.int (0 : Int32)), (.int (0 : Int32))]))]) rfl
    refine g_dup w at_279 rfl 280 rfl ?_
    refine g_iconst w at_280 (0 : Int32) rfl 281 rfl ?_
    refine g_aload w at_281 rfl rfl 283 rfl ?_
    refine g_iload w at_283 rfl 285 rfl ?_
    refine g_iaload w at_285 5 rfl jx0 hjx0 hyv0 286 rfl ?_
    refine g_iastore w at_286 7 rfl 0 (by decide) (Nat.le_of_ble_eq_true rfl) (.int y0) rfl 287 rfl (fun T w => ?_)
    replace w := w.to (L' := [(b1, O_Diagrams (.ref aV) (.ref aL) (.ref aH) (.ref aU) (.int (8 : Int32))), (aV, .inr (.int, own_A22)), (aL, .inr (.int, own_A23)), (aH, .inr (.int, own_A24)), (aU, .inr (.int, own_A25)), (b2, .inr (.int, [(.int (0 : Int32)), (.int (1 : Int32)), (.int (2 : Int32)), (.int (3 : Int32)), (.int (4 : Int32)), (.int (5 : Int32)), (.int (6 : Int32)), (.int (7 : Int32))])), (b3, .inr (.int, [(.int (0 : Int32)), (.int (0 : Int32)), (.int (1 : Int32)), (.int (2 : Int32)), (.int (7 : Int32)), (.int (9 : Int32)), (.int (31 : Int32)), (.int (41 : Int32))])), (b7, .inr (.int, [(.int y0), (.int (0 : Int32)), (.int (0 : Int32))]))]) rfl
    refine g_dup w at_287 rfl 288 rfl ?_
    refine g_iconst w at_288 (1 : Int32) rfl 289 rfl ?_
    refine g_aload w at_289 rfl rfl 291 rfl ?_
    refine g_iload w at_291 rfl 293 rfl ?_
    refine g_iaload w at_293 5 rfl jx1 hjx1 hyv1 294 rfl ?_
    refine g_iastore w at_294 7 rfl 1 (by decide) (Nat.le_of_ble_eq_true rfl) (.int y1) rfl 295 rfl (fun T w => ?_)
    replace w := w.to (L' := [(b1, O_Diagrams (.ref aV) (.ref aL) (.ref aH) (.ref aU) (.int (8 : Int32))), (aV, .inr (.int, own_A22)), (aL, .inr (.int, own_A23)), (aH, .inr (.int, own_A24)), (aU, .inr (.int, own_A25)), (b2, .inr (.int, [(.int (0 : Int32)), (.int (1 : Int32)), (.int (2 : Int32)), (.int (3 : Int32)), (.int (4 : Int32)), (.int (5 : Int32)), (.int (6 : Int32)), (.int (7 : Int32))])), (b3, .inr (.int, [(.int (0 : Int32)), (.int (0 : Int32)), (.int (1 : Int32)), (.int (2 : Int32)), (.int (7 : Int32)), (.int (9 : Int32)), (.int (31 : Int32)), (.int (41 : Int32))])), (b7, .inr (.int, [(.int y0), (.int y1), (.int (0 : Int32))]))]) rfl
    refine g_dup w at_295 rfl 296 rfl ?_
    refine g_iconst w at_296 (2 : Int32) rfl 297 rfl ?_
    refine g_aload w at_297 rfl rfl 299 rfl ?_
    refine g_iload w at_299 rfl 301 rfl ?_
    refine g_iaload w at_301 5 rfl jx2 hjx2 hyv2 302 rfl ?_
    refine g_iastore w at_302 7 rfl 2 (by decide) (Nat.le_of_ble_eq_true rfl) (.int y2) rfl 303 rfl (fun T w => ?_)
    replace w := w.to (L' := [(b1, O_Diagrams (.ref aV) (.ref aL) (.ref aH) (.ref aU) (.int (8 : Int32))), (aV, .inr (.int, own_A22)), (aL, .inr (.int, own_A23)), (aH, .inr (.int, own_A24)), (aU, .inr (.int, own_A25)), (b2, .inr (.int, [(.int (0 : Int32)), (.int (1 : Int32)), (.int (2 : Int32)), (.int (3 : Int32)), (.int (4 : Int32)), (.int (5 : Int32)), (.int (6 : Int32)), (.int (7 : Int32))])), (b3, .inr (.int, [(.int (0 : Int32)), (.int (0 : Int32)), (.int (1 : Int32)), (.int (2 : Int32)), (.int (7 : Int32)), (.int (9 : Int32)), (.int (31 : Int32)), (.int (41 : Int32))])), (b7, .inr (.int, [(.int y0), (.int y1), (.int y2)]))]) rfl
    refine g_astore w at_303 305 rfl rfl #[.val (.int u0), .val (.int u1), .val (.int u2), .val (.int u3), .val (.ref b1), .val (.int (2 : Int32)), .val (.int (3 : Int32)), .val (.int (4 : Int32)), .val (.int (5 : Int32)), .val (.int (6 : Int32)), .val (.int (7 : Int32)), .val (.ref b2), .val (.ref b3), .val (.int (3 : Int32)), .val (.int x0), .val (.int x1), .val (.int x2), .val (.ref b7), .unset, .unset] rfl ?_
    refine g_aload w at_305 rfl rfl 307 rfl ?_
    refine g_iload w at_307 rfl 309 rfl ?_
    refine g_iaload w at_309 6 rfl jx0 hjx0 (own_mkv hlx0) 310 rfl ?_
    refine g_aload w at_310 rfl rfl 312 rfl ?_
    refine g_iload w at_312 rfl 314 rfl ?_
    refine g_iaload w at_314 6 rfl jx1 hjx1 (own_mkv hlx1) 315 rfl ?_
    refine g_ior w at_315 316 rfl ?_
    refine g_aload w at_316 rfl rfl 318 rfl ?_
    refine g_iload w at_318 rfl 320 rfl ?_
    refine g_iaload w at_320 6 rfl jx2 hjx2 (own_mkv hlx2) 321 rfl ?_
    refine g_ior w at_321 322 rfl ?_
    refine g_istore w at_322 324 rfl rfl #[.val (.int u0), .val (.int u1), .val (.int u2), .val (.int u3), .val (.ref b1), .val (.int (2 : Int32)), .val (.int (3 : Int32)), .val (.int (4 : Int32)), .val (.int (5 : Int32)), .val (.int (6 : Int32)), .val (.int (7 : Int32)), .val (.ref b2), .val (.ref b3), .val (.int (3 : Int32)), .val (.int x0), .val (.int x1), .val (.int x2), .val (.ref b7), .val (.int (((own_mk jx0) ||| (own_mk jx1)) ||| (own_mk jx2))), .unset] rfl ?_
    refine g_aload w at_324 rfl rfl 326 rfl ?_
    refine g_aload w at_326 rfl rfl 328 rfl ?_
    refine g_virt w (argsL := [(.ref b7)]) (rest := []) (rmT_3 l Z a0 hw n0 b1 aV aL aH aU b2 b3 b7 y0 jx0 y1 jx1 y2 jx2 hy0 hlx0 hy1 hlx1 hy2 hlx2) at_328 0 rfl 35 rfl 36 rfl 2 rfl 39 rfl 38 rfl 37 rfl ⟨by decide, by decide⟩ pd_3 rfl rfl rfl 0 rfl (by decide) (by decide) (by decide) (by decide) 331 rfl (fun T v L w h => ?_)
    obtain ⟨rfl, re, vs, rfl⟩ := h
    refine g_istore w at_331 333 rfl rfl #[.val (.int u0), .val (.int u1), .val (.int u2), .val (.int u3), .val (.ref b1), .val (.int (2 : Int32)), .val (.int (3 : Int32)), .val (.int (4 : Int32)), .val (.int (5 : Int32)), .val (.int (6 : Int32)), .val (.int (7 : Int32)), .val (.ref b2), .val (.ref b3), .val (.int (3 : Int32)), .val (.int x0), .val (.int x1), .val (.int x2), .val (.ref b7), .val (.int (((own_mk jx0) ||| (own_mk jx1)) ||| (own_mk jx2))), .val (.int (own_cnt [jx0, jx1, jx2]))] rfl ?_
    refine g_iload w at_333 rfl 335 rfl ?_
    refine g_iload w at_335 rfl 337 rfl ?_
    refine g_static w (argsL := [(.int (((own_mk jx0) ||| (own_mk jx1)) ||| (own_mk jx2)))]) (rest := [(.int (own_cnt [jx0, jx1, jx2]))]) (rm7 l Z a0 hw n0 (((own_mk jx0) ||| (own_mk jx1)) ||| (own_mk jx2)) ([(b1, O_Diagrams (.ref aV) (.ref aL) (.ref aH) (.ref aU) (.int (8 : Int32))), (aV, .inr (.int, own_A22)), (aL, .inr (.int, own_A23)), (aH, .inr (.int, own_A24)), (aU, .inr (.int, own_A25)), (b2, .inr (.int, [(.int (0 : Int32)), (.int (1 : Int32)), (.int (2 : Int32)), (.int (3 : Int32)), (.int (4 : Int32)), (.int (5 : Int32)), (.int (6 : Int32)), (.int (7 : Int32))])), (b3, .inr (.int, [(.int (0 : Int32)), (.int (0 : Int32)), (.int (1 : Int32)), (.int (2 : Int32)), (.int (7 : Int32)), (.int (9 : Int32)), (.int (31 : Int32)), (.int (41 : Int32))])), (b7, .inr (.int, [(.int y0), (.int y1), (.int y2)])), (re, .inr (.boolean, vs))])) at_337 41 rfl 42 rfl 43 rfl 44 rfl ⟨by decide, by decide⟩ pd_4 rfl rfl rfl 1 rfl (by decide) (by decide) (by decide) (by decide) 340 rfl (fun T v L w h => ?_)
    obtain ⟨rfl, hL⟩ := h
    replace w := w.to hL
    refine g_icmp_ne w at_340 357 (by decide) (by decide) 343 rfl (fun h => absurd (own_all3 ⟨jx0, hlx0⟩ ⟨jx1, hlx1⟩ ⟨jx2, hlx2⟩) h) (fun hc340 => ?_)
    refine g_aload w at_343 rfl rfl 345 rfl ?_
    refine g_virt w (argsL := []) (rest := []) (rm8 l Z a0 hw n0 b1 ([(b1, O_Diagrams (.ref aV) (.ref aL) (.ref aH) (.ref aU) (.int (8 : Int32))), (aV, .inr (.int, own_A22)), (aL, .inr (.int, own_A23)), (aH, .inr (.int, own_A24)), (aU, .inr (.int, own_A25)), (b2, .inr (.int, [(.int (0 : Int32)), (.int (1 : Int32)), (.int (2 : Int32)), (.int (3 : Int32)), (.int (4 : Int32)), (.int (5 : Int32)), (.int (6 : Int32)), (.int (7 : Int32))])), (b3, .inr (.int, [(.int (0 : Int32)), (.int (0 : Int32)), (.int (1 : Int32)), (.int (2 : Int32)), (.int (7 : Int32)), (.int (9 : Int32)), (.int (31 : Int32)), (.int (41 : Int32))])), (b7, .inr (.int, [(.int y0), (.int y1), (.int y2)])), (re, .inr (.boolean, vs))]) (.ref aV) (.ref aL) (.ref aH) (.ref aU) rfl) at_345 0 rfl 45 rfl 46 rfl 2 rfl 49 rfl 48 rfl 47 rfl ⟨by decide, by decide⟩ pd_5 rfl rfl rfl 0 rfl (by decide) (by decide) (by decide) (by decide) 348 rfl (fun T v L w h => ?_)
    obtain ⟨rfl, hL⟩ := h
    replace w := w.to hL
    refine g_bipush w at_348 (8 : Int32) rfl 350 rfl ?_
    refine g_icmp_ne w at_350 357 (by decide) (by decide) 353 rfl (fun h => absurd (by decide) h) (fun hc350 => ?_)
    refine g_iconst w at_353 (1 : Int32) rfl 354 rfl ?_
    refine g_goto w at_354 358 (by decide) (by decide) ?_
    exact g_iretn w (by simp) at_358 (by decide) (by decide) rfl
set_option maxRecDepth 65536 in
set_option maxHeartbeats 40000000 in
theorem comes_1 {Post : Tables → Env → Array Value → State → Outcome → State → Prop} (hpost : ∀ tb e args s v u, (limb_1_1.after args s (.returned v) u = true ∧ limb_1_2.after args s (.returned v) u = true ∧ True) → FrameEnd s (.returned v) u (Jvm.fieldLocs frame_1_writes args s ++ Jvm.arrayLocs frame_1_arrays args s ++ Jvm.staticLocs frame_1_statics s) 32 640 → Post tb e args s (.returned v) u) :
    ArmFor flags0 classFile x code maxLocals ret World_1 tables_1 room_1 Calls_1 rest_1 Pre_1 Post := by
  intro l hfl _ _ p e ha hc hk s m args below hf hA hF happ hP
  obtain ⟨hcalls, hrest, hpre⟩ := hP
  obtain ⟨-, -, -, hnamed, -, -, -, hat⟩ := (Spec.applies_iff hf).mp happ
  obtain ⟨hg, hn⟩ := and_e (Cond.before_iff.mp (show (Jvm.Cond.and given_1 narrow_1).before args s = true from hpre))
  obtain ⟨hcnt, g0⟩ := and_e hg
  obtain ⟨k0, g1⟩ := and_e g0
  obtain ⟨k1, g2⟩ := and_e g1
  obtain ⟨k2, g3⟩ := and_e g2
  have k3 := g3
  obtain ⟨w0, w1, w2, w3, rfl⟩ : ∃ w0 w1 w2 w3 : Value, args = #[w0, w1, w2, w3] := by
    have hs : args.size = 4 := by simpa [Cond.value, given_1] using hcnt
    obtain ⟨L⟩ := args
    match L, hs with
    | [w0, w1, w2, w3], _ => exact ⟨w0, w1, w2, w3, rfl⟩
  have hw := fun d (hd : d ∈ tables_1) => atoms_spec (ws := Jvm.Cond.code x code maxLocals ret :: tables_1) hat d (List.mem_cons_of_mem _ hd)
  obtain ⟨i0, e0⟩ := is_v k0
  obtain rfl : w0 = (.int i0) := Option.some.inj e0
  obtain ⟨i1, e1⟩ := is_v k1
  obtain rfl : w1 = (.int i1) := Option.some.inj e1
  obtain ⟨i2, e2⟩ := is_v k2
  obtain rfl : w2 = (.int i2) := Option.some.inj e2
  obtain ⟨i3, e3⟩ := is_v k3
  obtain rfl : w3 = (.int i3) := Option.some.inj e3
  obtain ⟨n, o, h1, h2, h3, _, Lc, rfl, ⟨N, LL, hH, rfl⟩, hq⟩ := rm0 l s _ hw s.heap.size i0 i1 i2 i3 tables_1 0 s.heap (Hp.nil (Old.start s) (Nat.zero_le _)) p e ha hc hk s m _ below hf ((Spec.applies_iff_loose hf).mp happ).1 ⟨rfl, State.Warmed39.refl s, rfl⟩ trivial
  exact ⟨n, _, h1, h2, h3, hpost _ _ _ _ _ _ ⟨Cond.after_iff.mpr rfl, Cond.after_iff.mpr (eq_i res_at (Term.int_eval (1)) rfl), trivial⟩ (fr_end N hq _ (by decide) (by decide))⟩
theorem main_1_1 : Claimed_1_1 := comes_1 fun _ _ _ _ _ _ h hF => ⟨h.1, hF⟩
theorem main_1_2 : Claimed_1_2 := comes_1 fun _ _ _ _ _ _ h hF => ⟨h.2.1, hF⟩
end Jvm.Pilot.@@N@@
namespace Jvm.Pilot.@@N@@
open Jvm Jvm.ClassFile Sem Op Lib Jvm.Free Jvm.Stand Jvm.Pilot.@@N@@.Jvm.D
/-! MADE BY PROGRAM (witnessworld.py) out of the Statement's table words and the real class files: 11 classes; the members and pool entries that the words name. The judged class is class 1, her method 2. -/
namespace start1
open Jvm.ClassFile
def u (s : String) : CpInfo := .utf8 (stringToUtf16 s)
/-- a pool by its gaps: so many unusable entries, then the entry; so many at the end -/
def gap : Nat → List CpInfo → List CpInfo
  | 0, r => r
  | n + 1, r => .unusable :: gap n r
def poolList (es : List (Nat × CpInfo)) (last : Nat) : List CpInfo := es.foldr (fun e r => gap e.1 (e.2 :: r)) (gap last [])
def pool (es : List (Nat × CpInfo)) (last : Nat) : Array CpInfo := ⟨poolList es last⟩
def fileOf (pool : Array CpInfo) (this : Nat) (attrs : Array Attribute := #[]) (ms : Array MethodInfo := #[]) (fl : Nat := 33) (sup : Nat := 0) (ifs : Array Nat := #[]) (fds : Array FieldInfo := #[]) : ClassFile where
  minorVersion := 0
  majorVersion := 65
  constantPool := pool
  accessFlags := fl
  thisClass := this
  superClass := sup
  interfaces := ifs
  fields := fds
  methods := ms
  attributes := attrs
def plain (name : String) (sup : Option ClassId) : Class where
  name := name
  kind := .ordinary
  loader := none
  accessFlags := 33
  super := sup
  interfaces := #[]
  cf := none
  fields := #[]
  methods := #[]
  instanceTypes := #[]
  staticTypes := #[]
  resolved := #[]
  callSites := []
  init := .initialized
  statics := none
  mirror := none

def pool0 : Array CpInfo := pool [(5, u "<init>"), (0, u "()V"), (1, .class_ 10), (1, u "java/lang/Object")] 113

def k0c0 : Code := { maxStack := 0, maxLocals := 1, code := object_method_1_code, exceptionTable := #[], attributes := #[] }
def k0m0 : Method := { name := "<init>", desc := "()V", sig := { parameters := [], returnType := none }, accessFlags := 1, code := some k0c0 }
/-- java/lang/Object -/
def k0 : Class := { plain "java/lang/Object" none with
  accessFlags := 33
  interfaces := #[]
  cf := some (fileOf pool0 8 #[] #[{ accessFlags := 1, nameIndex := 5, descriptorIndex := 6, attributes := #[] }] 33 0 #[] #[])
  fields := #[]
  methods := #[k0m0]
  instanceTypes := #[]
  staticTypes := #[]
  resolved := Array.replicate 124 none
  statics := none }

def pool1 : Array CpInfo := pool [(2, .class_ 4), (0, .nameAndType 5 6), (0, u "java/lang/Object"), (0, u "<init>"), (0, u "()V"), (0, .class_ 8), (0, u "com/example/chancebound/chancebound/network/Diagrams"), (0, .methodref 7 3), (0, .methodref 7 11), (0, .nameAndType 12 13), (0, u "node"), (0, u "(III)I"), (0, .methodref 7 15), (0, .nameAndType 16 17), (0, u "count"), (0, u "([I)I"), (0, .methodref 19 20), (0, .class_ 21), (0, .nameAndType 22 23), (0, u "com/example/chancebound/chancebound/network/DiagramsCountPinLaw"), (0, u "bits6"), (0, u "(I)I"), (0, .methodref 7 25), (0, .nameAndType 26 27), (0, u "size"), (0, u "()I"), (2, u "law"), (0, u "(IIII)Z")] 5

def k1m0 : Method := { name := "<init>", desc := "()V", sig := { parameters := [], returnType := none }, accessFlags := 1, code := none }
def k1c1 : Code := { maxStack := 3, maxLocals := 1, code := method_2_code, exceptionTable := #[], attributes := #[] }
def k1m1 : Method := { name := "bits6", desc := "(I)I", sig := { parameters := [.int], returnType := some .int }, accessFlags := 10, code := some k1c1 }
def k1c2 : Code := { maxStack := 5, maxLocals := 20, code := code, exceptionTable := #[], attributes := #[] }
def k1m2 : Method := { name := "law", desc := "(IIII)Z", sig := { parameters := [.int, .int, .int, .int], returnType := some .boolean }, accessFlags := 9, code := some k1c2 }
/-- com/example/chancebound/chancebound/network/DiagramsCountPinLaw -/
def k1 : Class := { plain "com/example/chancebound/chancebound/network/DiagramsCountPinLaw" (some 0) with
  accessFlags := 49
  interfaces := #[]
  cf := some (fileOf pool1 19 #[] #[{ accessFlags := 1, nameIndex := 5, descriptorIndex := 6, attributes := #[] }, { accessFlags := 10, nameIndex := 22, descriptorIndex := 23, attributes := #[] }, { accessFlags := 9, nameIndex := 30, descriptorIndex := 31, attributes := #[] }] 49 2 #[] #[])
  fields := #[]
  methods := #[k1m0, k1m1, k1m2]
  instanceTypes := #[]
  staticTypes := #[]
  resolved := Array.replicate 37 none
  statics := none }

def pool2 : Array CpInfo := pool [(3, .methodref 4 5), (0, .class_ 6), (0, .nameAndType 7 8), (0, u "java/lang/Object"), (0, u "<init>"), (0, u "()V"), (0, .fieldref 10 11), (0, .class_ 12), (0, .nameAndType 13 14), (0, u "com/example/chancebound/chancebound/network/Diagrams"), (0, u "variables"), (0, u "[I"), (0, .fieldref 10 16), (0, .nameAndType 17 14), (0, u "lows"), (0, .fieldref 10 19), (0, .nameAndType 20 14), (0, u "highs"), (0, .fieldref 10 22), (0, .nameAndType 23 14), (0, u "unique"), (0, .integer 2147483647), (0, .fieldref 10 26), (0, .nameAndType 27 28), (0, u "size"), (0, u "I"), (13, .methodref 10 43), (0, .nameAndType 44 45), (0, u "slot"), (0, u "(III)I"), (0, .long 11400714819323198485), (1, .methodref 10 49), (0, .nameAndType 50 51), (0, u "mix"), (0, u "(J)J"), (12, .long 13787848793156543929), (1, u "FALSE"), (2, u "TRUE"), (1, u "TERMINAL"), (0, u "MAX_NODES"), (2, u "()I"), (4, u "count"), (0, u "([I)I"), (4, u "node")] 19

def k2c0 : Code := { maxStack := 3, maxLocals := 1, code := prog_35_method_1_code, exceptionTable := #[], attributes := #[] }
def k2m0 : Method := { name := "<init>", desc := "()V", sig := { parameters := [], returnType := none }, accessFlags := 0, code := some k2c0 }
def k2c1 : Code := { maxStack := 1, maxLocals := 1, code := prog_35_method_2_code, exceptionTable := #[], attributes := #[] }
def k2m1 : Method := { name := "size", desc := "()I", sig := { parameters := [], returnType := some .int }, accessFlags := 0, code := some k2c1 }
def k2c2 : Code := { maxStack := 3, maxLocals := 7, code := prog_35_method_6_code, exceptionTable := #[], attributes := #[] }
def k2m2 : Method := { name := "count", desc := "([I)I", sig := { parameters := [(.array .int)], returnType := some .int }, accessFlags := 0, code := some k2c2 }
def k2c3 : Code := { maxStack := 4, maxLocals := 6, code := prog_35_method_7_code, exceptionTable := #[], attributes := #[] }
def k2m3 : Method := { name := "node", desc := "(III)I", sig := { parameters := [.int, .int, .int], returnType := some .int }, accessFlags := 0, code := some k2c3 }
def k2c4 : Code := { maxStack := 4, maxLocals := 6, code := prog_35_method_8_code, exceptionTable := #[], attributes := #[] }
def k2m4 : Method := { name := "slot", desc := "(III)I", sig := { parameters := [.int, .int, .int], returnType := some .int }, accessFlags := 2, code := some k2c4 }
def k2c5 : Code := { maxStack := 5, maxLocals := 4, code := prog_35_method_10_code, exceptionTable := #[], attributes := #[] }
def k2m5 : Method := { name := "mix", desc := "(J)J", sig := { parameters := [.long], returnType := some .long }, accessFlags := 10, code := some k2c5 }
/-- com/example/chancebound/chancebound/network/Diagrams -/
def k2 : Class := { plain "com/example/chancebound/chancebound/network/Diagrams" (some 0) with
  accessFlags := 32
  interfaces := #[]
  cf := some (fileOf pool2 10 #[] #[{ accessFlags := 0, nameIndex := 7, descriptorIndex := 8, attributes := #[] }, { accessFlags := 0, nameIndex := 27, descriptorIndex := 75, attributes := #[] }, { accessFlags := 0, nameIndex := 80, descriptorIndex := 81, attributes := #[] }, { accessFlags := 0, nameIndex := 86, descriptorIndex := 45, attributes := #[] }, { accessFlags := 2, nameIndex := 44, descriptorIndex := 45, attributes := #[] }, { accessFlags := 10, nameIndex := 50, descriptorIndex := 51, attributes := #[] }] 32 4 #[] #[{ accessFlags := 24, nameIndex := 66, descriptorIndex := 28, attributes := #[] }, { accessFlags := 24, nameIndex := 69, descriptorIndex := 28, attributes := #[] }, { accessFlags := 26, nameIndex := 71, descriptorIndex := 28, attributes := #[] }, { accessFlags := 26, nameIndex := 72, descriptorIndex := 28, attributes := #[] }, { accessFlags := 2, nameIndex := 13, descriptorIndex := 14, attributes := #[] }, { accessFlags := 2, nameIndex := 17, descriptorIndex := 14, attributes := #[] }, { accessFlags := 2, nameIndex := 20, descriptorIndex := 14, attributes := #[] }, { accessFlags := 2, nameIndex := 27, descriptorIndex := 28, attributes := #[] }, { accessFlags := 2, nameIndex := 23, descriptorIndex := 14, attributes := #[] }])
  fields := #[{ name := "FALSE", type := .int, accessFlags := 24, slot := 0, constantValue := 0 }, { name := "TRUE", type := .int, accessFlags := 24, slot := 1, constantValue := 0 }, { name := "TERMINAL", type := .int, accessFlags := 26, slot := 2, constantValue := 0 }, { name := "MAX_NODES", type := .int, accessFlags := 26, slot := 3, constantValue := 0 }, { name := "variables", type := (.array .int), accessFlags := 2, slot := 0, constantValue := 0 }, { name := "lows", type := (.array .int), accessFlags := 2, slot := 1, constantValue := 0 }, { name := "highs", type := (.array .int), accessFlags := 2, slot := 2, constantValue := 0 }, { name := "size", type := .int, accessFlags := 2, slot := 3, constantValue := 0 }, { name := "unique", type := (.array .int), accessFlags := 2, slot := 4, constantValue := 0 }]
  methods := #[k2m0, k2m1, k2m2, k2m3, k2m4, k2m5]
  instanceTypes := #[(.array .int), (.array .int), (.array .int), .int, (.array .int)]
  staticTypes := #[.int, .int, .int, .int]
  resolved := Array.replicate 106 none
  statics := none }

def pool3 : Array CpInfo := pool [(1, u "java/lang/Cloneable"), (0, .class_ 1), (0, u "java/lang/Object"), (0, .class_ 3)] 3

/-- java/lang/Cloneable -/
def k3 : Class := { plain "java/lang/Cloneable" (some 0) with
  accessFlags := 1537
  interfaces := #[]
  cf := some (fileOf pool3 2 #[] #[] 1537 4 #[] #[])
  fields := #[]
  methods := #[]
  instanceTypes := #[]
  staticTypes := #[]
  resolved := Array.replicate 8 none
  statics := none }

def pool4 : Array CpInfo := pool [(1, u "java/io/Serializable"), (0, .class_ 1), (0, u "java/lang/Object"), (0, .class_ 3)] 3

/-- java/io/Serializable -/
def k4 : Class := { plain "java/io/Serializable" (some 0) with
  accessFlags := 1537
  interfaces := #[]
  cf := some (fileOf pool4 2 #[] #[] 1537 4 #[] #[])
  fields := #[]
  methods := #[]
  instanceTypes := #[]
  staticTypes := #[]
  resolved := Array.replicate 8 none
  statics := none }

/-- the primitive boolean -/
def k5 : Class := { plain "boolean" none with kind := .primitive 'Z', accessFlags := 0x411 }
/-- [Z -/
def k6 : Class := { plain "[Z" (some 0) with kind := .array 5 .boolean, interfaces := #[3, 4], accessFlags := 1041 }

/-- the primitive byte -/
def k7 : Class := { plain "byte" none with kind := .primitive 'B', accessFlags := 0x411 }
/-- [B -/
def k8 : Class := { plain "[B" (some 0) with kind := .array 7 .byte, interfaces := #[3, 4], accessFlags := 1041 }

/-- the primitive int -/
def k9 : Class := { plain "int" none with kind := .primitive 'I', accessFlags := 0x411 }
/-- [I -/
def k10 : Class := { plain "[I" (some 0) with kind := .array 9 .int, interfaces := #[3, 4], accessFlags := 1041 }

def heap : Heap := #[]
def classes : Array Class := #[k0, k1, k2, k3, k4, k5, k6, k7, k8, k9, k10]
def interned : List (Array UInt16 × Addr) := []
def slotsUsed : Nat := 0
def theMethod : MethodId := ⟨1, 2⟩
def args0 : Array Value := #[.int 3, .int 5, .int 9, .int 1]
def aboutOver (below : List Frame) : State where
  vm := { classes := classes, interned := interned.toArray }
  heap := heap
  slotsUsed := slotsUsed
  threads := #[{ frames := .invoking theMethod args0 :: below }]
def below0 : List Frame := [.native { method := ⟨0, 0⟩, args := #[] }]
def about1 : State := aboutOver below0
def p0 : Program := .bare "" "" ""
def e0 : Env := launch0.env 0 0 0
theorem w_frames : about1.frames = Frame.invoking theMethod args0 :: below0 := rfl
set_option maxRecDepth 65536 in
theorem w_args : argsFit about1.vm theMethod args0 = true := by decide +kernel
set_option maxRecDepth 65536 in
theorem w_heap : heapFits about1 = true := by decide +kernel
set_option maxRecDepth 65536 in
theorem w_runnable : about1.curStatus? = some .runnable := by decide +kernel
set_option maxRecDepth 65536 in
theorem w_alone : about1.alone = true := by decide +kernel
set_option maxRecDepth 65536 in
theorem w_named : about1.methodNamed? x = some theMethod := by decide +kernel
set_option maxRecDepth 65536 in
theorem w_hears : about1.hears theMethod below0 = true := by decide +kernel
set_option maxRecDepth 65536 in
theorem w_ripe : about1.ripe theMethod args0 below0 = true := by decide +kernel
theorem w_running : about1.status = .running := rfl
set_option maxRecDepth 65536 in
theorem w_room : about1.hasRoom e0.platform room_1 = true :=
  launch0.hasRoom_least _ room_1 (by decide +kernel) (by decide +kernel) (by decide +kernel) (by decide +kernel) (by decide +kernel) (by decide +kernel)
theorem allAtoms_all (ts : List Jvm.Cond) (a : Array Jvm.Value) (st : Jvm.State) : (allAtoms ts).before a st = ts.all (fun c => c.before a st) := by
  induction ts with
  | nil => rfl
  | cons c t ih =>
    show (Jvm.Cond.and c (allAtoms t)).before a st = _
    rw [Jvm.Cond.before_and, ih, List.all_cons]
def words1 : List Jvm.Cond := Jvm.Cond.code x code maxLocals ret :: tables_1
/-- a 'code' word, met by the world's own term for the bytes: nothing is compared byte by byte -/
theorem code_word {y : MethodName} {bytes : ByteArray} {mx : Nat} {rt : Option FieldType} {a : Array Value} {s : State} {m : MethodId} {meth : Method} {c : Code} (h1 : s.methodNamed? y = some m) (h2 : s.vm.method? m = some meth) (h3 : meth.code = some c) (h4 : c.code = bytes)
    (h5 : (c.maxLocals == mx && c.exceptionTable.isEmpty && decide (c.maxStack ≤ mostOperands) && decide (meth.sig.returnType = rt) && !meth.locks && decide (parseMethodDescriptor y.desc = some meth.sig)) = true) : (Jvm.Cond.code y bytes mx rt).before a s = true := by
  simp only [Bool.and_eq_true, beq_iff_eq, Bool.not_eq_true', decide_eq_true_eq] at h5
  obtain ⟨⟨⟨⟨⟨g1, g2⟩, g3⟩, g4⟩, g5⟩, g6⟩ := h5
  simp [Cond.before, Cond.holds, Cond.value, h1, h2, h3, h4, g1, g2, g3, g4, g5, g6]
def isCode : Jvm.Cond → Bool
  | .code _ _ _ _ => true
  | _ => false
theorem all_split {L : List Jvm.Cond} {P : Jvm.Cond → Bool} (h1 : L.all (fun c => isCode c || P c) = true) (h2 : ∀ c ∈ L.filter isCode, P c = true) : L.all P = true := by
  refine List.all_eq_true.mpr fun c hc => ?_
  have h := List.all_eq_true.mp h1 c hc
  rcases Bool.eq_false_or_eq_true (isCode c) with hi | hi
  · exact h2 c (List.mem_filter.mpr ⟨hc, hi⟩)
  · simpa [hi] using h
set_option maxRecDepth 65536 in
theorem w_c0 : (Jvm.Cond.code x code maxLocals ret).before args0 about1 = true := code_word (m := ⟨1, 2⟩) (meth := k1m2) (c := k1c2) (by decide +kernel) rfl rfl rfl (by decide +kernel)
set_option maxRecDepth 65536 in
theorem w_c1 : (Jvm.Cond.code ({ cls := "com/example/chancebound/chancebound/network/Diagrams", name := "<init>", desc := "()V" } : Jvm.MethodName) prog_35_method_1_code (1 : Nat) (Option.none : Option Jvm.ClassFile.FieldType)).before args0 about1 = true := code_word (m := ⟨2, 0⟩) (meth := k2m0) (c := k2c0) (by decide +kernel) rfl rfl rfl (by decide +kernel)
set_option maxRecDepth 65536 in
theorem w_c2 : (Jvm.Cond.code ({ cls := "java/lang/Object", name := "<init>", desc := "()V" } : Jvm.MethodName) object_method_1_code (1 : Nat) (Option.none : Option Jvm.ClassFile.FieldType)).before args0 about1 = true := code_word (m := ⟨0, 0⟩) (meth := k0m0) (c := k0c0) (by decide +kernel) rfl rfl rfl (by decide +kernel)
set_option maxRecDepth 65536 in
theorem w_c3 : (Jvm.Cond.code ({ cls := "com/example/chancebound/chancebound/network/Diagrams", name := "node", desc := "(III)I" } : Jvm.MethodName) prog_35_method_7_code (6 : Nat) (Option.some Jvm.ClassFile.FieldType.int)).before args0 about1 = true := code_word (m := ⟨2, 3⟩) (meth := k2m3) (c := k2c3) (by decide +kernel) rfl rfl rfl (by decide +kernel)
set_option maxRecDepth 65536 in
theorem w_c4 : (Jvm.Cond.code ({ cls := "com/example/chancebound/chancebound/network/Diagrams", name := "slot", desc := "(III)I" } : Jvm.MethodName) prog_35_method_8_code (6 : Nat) (Option.some Jvm.ClassFile.FieldType.int)).before args0 about1 = true := code_word (m := ⟨2, 4⟩) (meth := k2m4) (c := k2c4) (by decide +kernel) rfl rfl rfl (by decide +kernel)
set_option maxRecDepth 65536 in
theorem w_c5 : (Jvm.Cond.code ({ cls := "com/example/chancebound/chancebound/network/Diagrams", name := "mix", desc := "(J)J" } : Jvm.MethodName) prog_35_method_10_code (4 : Nat) (Option.some Jvm.ClassFile.FieldType.long)).before args0 about1 = true := code_word (m := ⟨2, 5⟩) (meth := k2m5) (c := k2c5) (by decide +kernel) rfl rfl rfl (by decide +kernel)
set_option maxRecDepth 65536 in
theorem w_c6 : (Jvm.Cond.code ({ cls := "com/example/chancebound/chancebound/network/Diagrams", name := "count", desc := "([I)I" } : Jvm.MethodName) prog_35_method_6_code (7 : Nat) (Option.some Jvm.ClassFile.FieldType.int)).before args0 about1 = true := code_word (m := ⟨2, 2⟩) (meth := k2m2) (c := k2c2) (by decide +kernel) rfl rfl rfl (by decide +kernel)
set_option maxRecDepth 65536 in
theorem w_c7 : (Jvm.Cond.code ({ cls := "com/example/chancebound/chancebound/network/DiagramsCountPinLaw", name := "bits6", desc := "(I)I" } : Jvm.MethodName) method_2_code (1 : Nat) (Option.some Jvm.ClassFile.FieldType.int)).before args0 about1 = true := code_word (m := ⟨1, 1⟩) (meth := k1m1) (c := k1c1) (by decide +kernel) rfl rfl rfl (by decide +kernel)
set_option maxRecDepth 65536 in
theorem w_c8 : (Jvm.Cond.code ({ cls := "com/example/chancebound/chancebound/network/Diagrams", name := "size", desc := "()I" } : Jvm.MethodName) prog_35_method_2_code (1 : Nat) (Option.some Jvm.ClassFile.FieldType.int)).before args0 about1 = true := code_word (m := ⟨2, 1⟩) (meth := k2m1) (c := k2c1) (by decide +kernel) rfl rfl rfl (by decide +kernel)
def codes1 : List Jvm.Cond := [Jvm.Cond.code x code maxLocals ret, Jvm.Cond.code ({ cls := "com/example/chancebound/chancebound/network/Diagrams", name := "<init>", desc := "()V" } : Jvm.MethodName) prog_35_method_1_code (1 : Nat) (Option.none : Option Jvm.ClassFile.FieldType), Jvm.Cond.code ({ cls := "java/lang/Object", name := "<init>", desc := "()V" } : Jvm.MethodName) object_method_1_code (1 : Nat) (Option.none : Option Jvm.ClassFile.FieldType), Jvm.Cond.code ({ cls := "com/example/chancebound/chancebound/network/Diagrams", name := "node", desc := "(III)I" } : Jvm.MethodName) prog_35_method_7_code (6 : Nat) (Option.some Jvm.ClassFile.FieldType.int), Jvm.Cond.code ({ cls := "com/example/chancebound/chancebound/network/Diagrams", name := "slot", desc := "(III)I" } : Jvm.MethodName) prog_35_method_8_code (6 : Nat) (Option.some Jvm.ClassFile.FieldType.int), Jvm.Cond.code ({ cls := "com/example/chancebound/chancebound/network/Diagrams", name := "mix", desc := "(J)J" } : Jvm.MethodName) prog_35_method_10_code (4 : Nat) (Option.some Jvm.ClassFile.FieldType.long), Jvm.Cond.code ({ cls := "com/example/chancebound/chancebound/network/Diagrams", name := "count", desc := "([I)I" } : Jvm.MethodName) prog_35_method_6_code (7 : Nat) (Option.some Jvm.ClassFile.FieldType.int), Jvm.Cond.code ({ cls := "com/example/chancebound/chancebound/network/DiagramsCountPinLaw", name := "bits6", desc := "(I)I" } : Jvm.MethodName) method_2_code (1 : Nat) (Option.some Jvm.ClassFile.FieldType.int), Jvm.Cond.code ({ cls := "com/example/chancebound/chancebound/network/Diagrams", name := "size", desc := "()I" } : Jvm.MethodName) prog_35_method_2_code (1 : Nat) (Option.some Jvm.ClassFile.FieldType.int)]
set_option maxRecDepth 65536 in
theorem codes_eq : words1.filter isCode = codes1 := rfl
theorem w_codes : ∀ c ∈ words1.filter isCode, c.before args0 about1 = true := by
  rw [codes_eq]
  intro c hc
  simp only [codes1, List.mem_cons, List.not_mem_nil, or_false] at hc
  rcases hc with rfl | rfl | rfl | rfl | rfl | rfl | rfl | rfl | rfl
  · exact w_c0
  · exact w_c1
  · exact w_c2
  · exact w_c3
  · exact w_c4
  · exact w_c5
  · exact w_c6
  · exact w_c7
  · exact w_c8
set_option maxRecDepth 65536 in
theorem w_t1 : (words1.take 24).all (fun c => isCode c || c.before args0 about1) = true := by decide +kernel
set_option maxRecDepth 65536 in
theorem w_t2 : ((words1.drop 24).take 24).all (fun c => isCode c || c.before args0 about1) = true := by decide +kernel
set_option maxRecDepth 65536 in
theorem w_t3 : ((words1.drop 24).drop 24).all (fun c => isCode c || c.before args0 about1) = true := by decide +kernel
theorem w_tables : (allAtoms (Jvm.Cond.code x code maxLocals ret :: tables_1)).before args0 about1 = true := by
  rw [allAtoms_all]
  show words1.all (fun c => c.before args0 about1) = true
  refine all_split ?_ w_codes
  rw [← List.take_append_drop 24 words1, List.all_append, w_t1, ← List.take_append_drop 24 (words1.drop 24), List.all_append, w_t2, w_t3]
  rfl
set_option maxRecDepth 65536 in
theorem w_case : (Jvm.Cond.and given_1 narrow_1).before args0 about1 = true := by decide +kernel
theorem w_applies : (headSpec (Jvm.Cond.code x code maxLocals ret :: tables_1) room_1).applies x e0.platform about1 = true :=
  (Spec.applies_iff w_frames).mpr ⟨w_running, w_runnable, w_alone, w_named, w_hears, w_ripe, w_room, w_tables⟩
theorem atStart : AtStart classFile x code maxLocals ret World_1 tables_1 room_1 Calls_1 rest_1 Pre_1 launch0 p0 e0 about1 theMethod args0 below0 :=
  ⟨lists_1, trivial, launch0.admits_env _ _ _, launch0.least_env, fairChoices_fair.cas, fairChoices_fair.clock, w_frames, w_args, w_heap, w_applies, trivial, trivial, w_case⟩
end start1
theorem witness_1 : WitnessClaimed_1 := ⟨start1.p0, start1.e0, start1.about1, start1.theMethod, start1.args0, start1.below0, start1.atStart⟩
end Jvm.Pilot.@@N@@
