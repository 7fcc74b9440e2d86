import JvmDerived
import JvmDerived.Pilot.@@N@@Statement
import JvmDerived.Pilot.@@N@@Code
set_option linter.unusedVariables false
set_option linter.unusedSimpArgs false
namespace Jvm.OwnW
open Jvm Jvm.ClassFile Sem Op Lib Jvm.Free Jvm.Stand Jvm.LawKit Jvm.RoadKit
/-! ## shifts -/
def ushrI (x y : Int32) : Int32 := (x.toUInt32 >>> (y &&& 31).toUInt32).toInt32
def shlL (x : Int64) (y : Int32) : Int64 := x <<< (y &&& 0x3f).toInt64
def shrL (x : Int64) (y : Int32) : Int64 := x >>> (y &&& 0x3f).toInt64
def ushrL (x : Int64) (y : Int32) : Int64 := (x.toUInt64 >>> (y &&& 0x3f).toInt64.toUInt64).toInt64
theorem ushrI_c (x q : Int32) (k : Nat) (hk : q.toBitVec.toNat % 32 = k) (h0 : 0 < k) : (ushrI x q).toInt = (x.toInt % 4294967296) / (2 ^ k : Nat) := c_iushr x q k hk h0
theorem shlL_c (x : Int64) (q : Int32) (k : Nat) (hk : q.toBitVec.toNat % 64 = k) : ((shlL x q).toInt - x.toInt * (2 ^ k : Nat)) % 18446744073709551616 = 0 := c_lshl x q k hk
theorem shrL_c (x : Int64) (q : Int32) (k : Nat) (hk : q.toBitVec.toNat % 64 = k) : (shrL x q).toInt = x.toInt / (2 ^ k : Nat) := c_lshr x q k hk
theorem ushrL_c (x : Int64) (q : Int32) (k : Nat) (hk : q.toBitVec.toNat % 64 = k) (h0 : 0 < k) : (ushrL x q).toInt = (x.toInt % 18446744073709551616) / (2 ^ k : Nat) := c_lushr x q k hk h0
theorem ushrL_0 (x : Int64) : ushrL x 0 = x := by
  show (x.toUInt64 >>> (0 : UInt64)).toInt64 = x
  simp
/-! ## what the walk's own cells hold -/
/-- a field: the class that declares it, its name, its descriptor, its value -/
abbrev FldE := String × String × String × Value
/-- an object (its class, its fields) or an array (its component's kind, its values) -/
abbrev Obj := (String × List FldE) ⊕ (FieldType × List Value)
abbrev HL := List (Addr × Obj)
def Is (Z : State) (h : Heap) (a : Addr) : Obj → Prop
  | .inl (C, fs) => Exa Z h a C ∧ (∀ f ∈ fs, Fld Z h a f.1 f.2.1 f.2.2.1 f.2.2.2) ∧ fs.Pairwise fun f g => RoadKit.slotOf Z f.1 f.2.1 f.2.2.1 ≠ RoadKit.slotOf Z g.1 g.2.1 g.2.2.1
  | .inr (ty, vs) => ∃ c : Cell, Arr Z h a c ty ∧ Exa Z h a ("[" ++ ty.toString) ∧ c.slots.toList = vs ∧ vs.length < 2 ^ 31
def Hp (Z : State) (n0 kb : Nat) (h : Heap) (L : HL) : Prop :=
  (Old Z n0 h ∧ kb ≤ h.size) ∧ (∀ (i : Nat) (a : Addr) (o : Obj), L[i]? = some (a, o) → n0 ≤ a ∧ Is Z h a o) ∧ ∀ (i j : Nat) (a : Addr) (o o' : Obj), L[i]? = some (a, o) → L[j]? = some (a, o') → i = j
section Heaps
variable {Z : State} {a0 : Array Value} {n0 kb : Nat} {h h' : Heap} {a b : Addr} {o : Obj} {L : HL}
theorem Is.lt (F : Is Z h a o) : a < h.size := by
  rcases o with ⟨C, fs⟩ | ⟨ty, vs⟩
  · exact F.1.lt
  · obtain ⟨c, A, -⟩ := F; exact A.lt
theorem Is.ext (F : Is Z h a o) (E : Ext h h') : Is Z h' a o := by
  rcases o with ⟨C, fs⟩ | ⟨ty, vs⟩
  · exact ⟨F.1.ext E, fun f hf => (F.2.1 f hf).ext E, F.2.2⟩
  · obtain ⟨c, A, X, r⟩ := F; exact ⟨c, A.ext E, X.ext E, r⟩
theorem Is.other {sl : Nat} {v : Value} (F : Is Z h b o) (W : Wr h h' a sl v) (q : b ≠ a) : Is Z h' b o := by
  rcases o with ⟨C, fs⟩ | ⟨ty, vs⟩
  · exact ⟨F.1.wr W, fun f hf => (F.2.1 f hf).other W (Or.inl q), F.2.2⟩
  · obtain ⟨c, A, X, r⟩ := F; exact ⟨c, A.other W q, X.wr W, r⟩
theorem Hp.nil (O : Old Z n0 h) (hk : kb ≤ h.size) : Hp Z n0 kb h [] := ⟨⟨O, hk⟩, fun i a o q => by simp at q, fun i j a o o' q => by simp at q⟩
theorem Hp.at (H : Hp Z n0 kb h L) {i : Nat} (q : L[i]? = some (a, o)) : Is Z h a o := (H.2.1 i a o q).2
theorem Hp.obj {C : String} {fs : List FldE} (H : Hp Z n0 kb h L) {i : Nat} (q : L[i]? = some (a, .inl (C, fs))) : Exa Z h a C ∧ (∀ f ∈ fs, Fld Z h a f.1 f.2.1 f.2.2.1 f.2.2.2) ∧ fs.Pairwise fun f g => RoadKit.slotOf Z f.1 f.2.1 f.2.2.1 ≠ RoadKit.slotOf Z g.1 g.2.1 g.2.2.1 := (H.2.1 i a _ q).2
theorem Hp.arr {ty : FieldType} {vs : List Value} (H : Hp Z n0 kb h L) {i : Nat} (q : L[i]? = some (a, .inr (ty, vs))) : ∃ c : Cell, Arr Z h a c ty ∧ Exa Z h a ("[" ++ ty.toString) ∧ c.slots.toList = vs ∧ vs.length < 2 ^ 31 := (H.2.1 i a _ q).2
theorem Hp.ge (H : Hp Z n0 kb h L) {i : Nat} (q : L[i]? = some (a, o)) : n0 ≤ a := (H.2.1 i a o q).1
theorem Hp.push (H : Hp Z n0 kb h L) (E : Ext h h') (hn : n0 ≤ h.size) (F : Is Z h' h.size o) : Hp Z n0 kb h' (L ++ [(h.size, o)]) := by
  have lt : ∀ {i : Nat} {b : Addr} {o' : Obj}, (L ++ [(h.size, o)])[i]? = some (b, o') → (i < L.length ∧ L[i]? = some (b, o') ∧ b < h.size) ∨ (i = L.length ∧ b = h.size ∧ o' = o) := by
    intro i b o' q
    by_cases hi : i < L.length
    · rw [List.getElem?_append_left hi] at q
      exact Or.inl ⟨hi, q, (H.at q).lt⟩
    · rw [List.getElem?_append_right (Nat.le_of_not_lt hi)] at q
      have : i - L.length = 0 := by
        cases hk : i - L.length with
        | zero => rfl
        | succ k => rw [hk] at q; simp at q
      rw [this] at q
      simp at q
      exact Or.inr ⟨by omega, q.1.symm, q.2.symm⟩
  refine ⟨⟨H.1.1.ext E, Nat.le_trans H.1.2 E.1⟩, fun i b o' q => ?_, fun i j b o1 o2 q1 q2 => ?_⟩
  · rcases lt q with ⟨-, q', -⟩ | ⟨-, rfl, rfl⟩
    · exact ⟨H.ge q', (H.at q').ext E⟩
    · exact ⟨hn, F⟩
  · rcases lt q1 with ⟨-, q1', r1⟩ | ⟨e1, r1, -⟩ <;> rcases lt q2 with ⟨-, q2', r2⟩ | ⟨e2, r2, -⟩
    · exact H.2.2 i j b o1 o2 q1' q2'
    · exact absurd r2 (Nat.ne_of_lt r1)
    · exact absurd r1 (Nat.ne_of_lt r2)
    · exact e1.trans e2.symm
theorem Hp.size (H : Hp Z n0 kb h L) : n0 ≤ h.size := H.1.1.1 ▸ H.1.1.2.1
theorem Hp.lower {kb' : Nat} (H : Hp Z n0 kb h L) (q : kb' ≤ h.size) : Hp Z n0 kb' h L := ⟨⟨H.1.1, q⟩, H.2⟩
theorem Hp.put {sl : Nat} {v : Value} {o' : Obj} (H : Hp Z n0 kb h L) {i : Nat} (q : L[i]? = some (a, o)) (W : Wr h h' a sl v) (F : Is Z h' a o') : Hp Z n0 kb h' (L.set i (a, o')) := by
  have at' : ∀ {j : Nat} {b : Addr} {o2 : Obj}, (L.set i (a, o'))[j]? = some (b, o2) → (j = i ∧ b = a ∧ o2 = o') ∨ (j ≠ i ∧ L[j]? = some (b, o2)) := by
    intro j b o2 r
    by_cases hj : j = i
    · subst hj
      rw [List.getElem?_set_self (List.getElem?_eq_some_iff.mp q).1] at r
      simp at r
      exact Or.inl ⟨rfl, r.1.symm, r.2.symm⟩
    · rw [List.getElem?_set_ne (Ne.symm hj)] at r
      exact Or.inr ⟨hj, r⟩
  refine ⟨⟨H.1.1.wr W (H.ge q), by rw [W.size]; exact H.1.2⟩, fun j b o2 r => ?_, fun j j' b o1 o2 r1 r2 => ?_⟩
  · rcases at' r with ⟨rfl, rfl, rfl⟩ | ⟨hj, r'⟩
    · exact ⟨H.ge q, F⟩
    · exact ⟨H.ge r', (H.at r').other W fun e => hj (by subst e; exact H.2.2 _ _ _ _ _ r' q)⟩
  · rcases at' r1 with ⟨rfl, rfl, rfl⟩ | ⟨n1, r1'⟩ <;> rcases at' r2 with ⟨rfl, e2, -⟩ | ⟨n2, r2'⟩
    · rfl
    · exact absurd (H.2.2 _ _ _ _ _ r2' q) n2
    · subst e2; exact absurd (H.2.2 _ _ _ _ _ r1' q) n1
    · exact H.2.2 _ _ _ _ _ r1' r2'
theorem Is.field {C : String} {fs : List FldE} {j : Nat} {O n d : String} {v w : Value} (F : Is Z h a (.inl (C, fs))) (q : fs[j]? = some (O, n, d, w)) (W : Wr h h' a (RoadKit.slotOf Z O n d) v) : Is Z h' a (.inl (C, fs.set j (O, n, d, v))) := by
  obtain ⟨E, A, D⟩ := F
  obtain ⟨hj, e⟩ := List.getElem?_eq_some_iff.mp q
  have nth : ∀ k g, k ≠ j → fs[k]? = some g → RoadKit.slotOf Z g.1 g.2.1 g.2.2.1 ≠ RoadKit.slotOf Z O n d := by
    intro k g hk r
    obtain ⟨hk', e'⟩ := List.getElem?_eq_some_iff.mp r
    rw [List.pairwise_iff_getElem] at D
    rcases Nat.lt_or_gt_of_ne hk with u | u
    · have := D k j hk' hj u; rw [e, e'] at this; exact this
    · have := D j k hj hk' u; rw [e, e'] at this; exact Ne.symm this
  refine ⟨E.wr W, fun f hf => ?_, ?_⟩
  · obtain ⟨k, hk, ek⟩ := List.mem_iff_getElem.mp hf
    by_cases hkj : k = j
    · subst hkj
      have : f = (O, n, d, v) := by rw [← ek]; simp
      subst this
      exact (A (O, n, d, w) (List.mem_of_getElem? q)).same W
    · have r : fs[k]? = some f := by
        have : (fs.set j (O, n, d, v))[k]? = some f := List.getElem?_eq_some_iff.mpr ⟨hk, ek⟩
        rwa [List.getElem?_set_ne (Ne.symm hkj)] at this
      exact (A f (List.mem_of_getElem? r)).other W (Or.inr (nth k f hkj r))
  · have em : (fs.set j (O, n, d, v)).map (fun f => RoadKit.slotOf Z f.1 f.2.1 f.2.2.1) = fs.map (fun f => RoadKit.slotOf Z f.1 f.2.1 f.2.2.1) := by
      rw [List.map_set]
      refine List.ext_getElem? fun k => ?_
      by_cases hkj : j = k
      · subst hkj
        rw [List.getElem?_set_self (by simpa using hj)]
        simp [q]
      · rw [List.getElem?_set_ne hkj]
    have D' : (fs.map (fun f => RoadKit.slotOf Z f.1 f.2.1 f.2.2.1)).Pairwise (· ≠ ·) := List.pairwise_map.mpr D
    rw [← em] at D'
    exact List.pairwise_map.mp D'
theorem Is.elem {ty : FieldType} {vs : List Value} {v : Value} {c : Cell} (A : Arr Z h a c ty) (X : Exa Z h a ("[" ++ ty.toString)) (e : c.slots.toList = vs) (hl : vs.length < 2 ^ 31) {j : Nat} (W : Wr h h' a j v) : Is Z h' a (.inr (ty, vs.set j v)) :=
  ⟨c.setSlot j v, A.same W, X.wr W, by subst e; simp [Cell.setSlot], by simpa using hl⟩
/-- the fields of a fresh object -/
def FOk (Z : State) (a0 : Array Value) (C : String) : List FldE → Prop
  | [] => True
  | (O, n, d, v) :: r => Laid Z a0 C O n d ∧ (∃ ty, parseFieldDescriptor d = some ty ∧ v = defaultValue ty) ∧ FOk Z a0 C r
theorem FOk.cons {C O n d : String} {v : Value} {ty : FieldType} {r : List FldE} (l : Laid Z a0 C O n d) (p : parseFieldDescriptor d = some ty) (e : v = defaultValue ty) (k : FOk Z a0 C r) : FOk Z a0 C ((O, n, d, v) :: r) := ⟨l, ⟨ty, p, e⟩, k⟩
theorem FOk.mem {C : String} : ∀ {fs : List FldE}, FOk Z a0 C fs → ∀ f ∈ fs, Laid Z a0 C f.1 f.2.1 f.2.2.1 ∧ ∃ ty, parseFieldDescriptor f.2.2.1 = some ty ∧ f.2.2.2 = defaultValue ty
  | [], _, _, hf => by simp at hf
  | (O, n, d, v) :: r, k, f, hf => by
    rcases List.mem_cons.mp hf with rfl | hf
    · exact ⟨k.1, k.2.1⟩
    · exact FOk.mem k.2.2 f hf
theorem FOk.pw {C : String} {fs : List FldE} (k : FOk Z a0 C fs) (hn : (fs.map fun f => f.2.1).Nodup) : fs.Pairwise fun f g => RoadKit.slotOf Z f.1 f.2.1 f.2.2.1 ≠ RoadKit.slotOf Z g.1 g.2.1 g.2.2.1 := by
  have hn' : fs.Pairwise fun f g => f.2.1 ≠ g.2.1 := List.pairwise_map.mp hn
  refine List.Pairwise.imp_of_mem ?_ hn'
  intro f g hf hg q
  obtain ⟨l1, t1, p1, -⟩ := k.mem f hf
  obtain ⟨l2, t2, p2, -⟩ := k.mem g hg
  exact slot_ne l1 l2 q p1 p2
theorem set_at {L : HL} {i : Nat} {q r : Addr × Obj} (h : L[i]? = some q) : (L.set i r)[i]? = some r := List.getElem?_set_self (List.getElem?_eq_some_iff.mp h).1
theorem set_ne {L : HL} {i j : Nat} {q r : Addr × Obj} (n : i ≠ j) (h : L[j]? = some q) : (L.set i r)[j]? = some q := (List.getElem?_set_ne n).trans h
end Heaps
/-! ## the walk: where it stands, and that it comes to its end -/
def Wd (p : Program) (l : Launch) (e : Env) (R : Room) (s : State) (m : MethodId) (args : Array Value) (below : List Frame) (meth : Method) (c : Code) (Z : State) (a0 : Array Value) (n0 kb : Nat) (ws : List Cond)
    (y : MethodName) (bytes : ByteArray) (ml : Nat) (ret : Option FieldType) (T : State) (L : HL) (cells slots : Nat) : Prop :=
  (∃ locs, Stand p l e R s m args below meth c T locs cells slots ∧ Fr n0 locs) ∧ Hp Z n0 kb T.heap L ∧ p.tables.exec = Jvm.exec ∧ Z.Warmed39 s.vm ∧ s.vm.findClass y.cls = some m.cls ∧ c.code = bytes ∧ c.maxLocals = ml ∧
    meth.sig.returnType = ret ∧ meth.locks = false ∧ meth.name = y.name ∧ ∀ d ∈ ws, d.before a0 Z = true
/-- how a narrow walk ends: nothing of the tables has changed but what has been resolved -/
def EndN (s : State) (kc ks : Nat) (v : Option Value) (t : State) (Lc : List Loc) : Prop := FrameEnd s (.returned v) t Lc kc ks
def Go (p : Program) (e : Env) (below : List Frame) (Z : State) (n0 kg : Nat) (E : Option Value → State → List Loc → Prop) (P : Option Value → HL → Prop) (T : State) (g : JFrame) : Prop :=
  ∃ s₂ o, Steps p.tables e below (T.setTop g) s₂ ∧ s₂.status = .running ∧ Ended s₂ below o ∧ ∃ v Lc, o = .returned v ∧ (Fr n0 Lc ∧ ∃ L', Hp Z n0 kg s₂.heap L' ∧ P v L') ∧ E v s₂ Lc
/-- a method's contract: at these arguments and these cells it returns, with P of what it returns and of the cells -/
def Con (l : Launch) (y : MethodName) (bytes : ByteArray) (ml : Nat) (ret : Option FieldType) (rm : Room) (Z : State) (n0 : Nat) (as' : Array Value) (L : HL) (P : Option Value → HL → Prop) : Prop :=
  ∀ (wx : List Cond) (kb : Nat) (h : Heap), Hp Z n0 kb h L → MetFree l y (head1 (Cond.code y bytes ml ret :: wx) rm) (fun a U => a = as' ∧ Z.Warmed39 U.vm ∧ U.heap = h) (fun _ _ _ _ _ => True)
    (fun _ U o U' => ∃ v Lc, o = .returned v ∧ (Fr n0 Lc ∧ ∃ L', Hp Z n0 kb U'.heap L' ∧ P v L') ∧ FrameEnd U o U' Lc rm.cells rm.slots)
/-- what a call leaves on the stack -/
def pushV : Option Value → List Value → List Value
  | some v, r => v :: r
  | none, r => r
theorem pushV_eq (v : Option Value) (r : List Value) : v.toList ++ r = pushV v r := by cases v <;> rfl
section Walk
variable {p : Program} {l : Launch} {e : Env} {R : Room} {s : State} {m : MethodId} {args : Array Value} {below : List Frame} {meth : Method} {c : Code} {Z : State} {a0 : Array Value} {n0 kb kg : Nat} {ws : List Cond} {y : MethodName} {bytes : ByteArray} {ml : Nat} {ret : Option FieldType} {T T' : State} {L : HL} {cells slots : Nat} {P : Option Value → HL → Prop} {E : Option Value → State → List Loc → Prop} {kc ks : Nat}
theorem Go.pre {g g' : JFrame} (k : Go p e below Z n0 kg E P T' g') (f : ∀ t, Steps p.tables e below (T'.setTop g') t → Steps p.tables e below (T.setTop g) t) : Go p e below Z n0 kg E P T g := by
  obtain ⟨s₂, o, h1, r⟩ := k
  exact ⟨s₂, o, f _ h1, r⟩
theorem Go.mono {g : JFrame} {P' : Option Value → HL → Prop} (k : Go p e below Z n0 kg E P' T g) (f : ∀ v L, P' v L → P v L) : Go p e below Z n0 kg E P T g := by
  obtain ⟨s₂, o, h1, h2, h3, v, Lc, h4, ⟨h5, L', h6, h7⟩, h8⟩ := k
  exact ⟨s₂, o, h1, h2, h3, v, Lc, h4, ⟨h5, L', h6, f _ _ h7⟩, h8⟩
section Wds
variable (w : Wd p l e R s m args below meth c Z a0 n0 kb ws y bytes ml ret T L cells slots)
theorem Wd.here (w : Wd p l e R s m args below meth c Z a0 n0 kb ws y bytes ml ret T L cells slots) : At T m c below := by obtain ⟨⟨_, X, -⟩, -⟩ := w; exact X.here
theorem Wd.hx (w : Wd p l e R s m args below meth c Z a0 n0 kb ws y bytes ml ret T L cells slots) : p.tables.exec = Jvm.exec := w.2.2.1
theorem Wd.hby (w : Wd p l e R s m args below meth c Z a0 n0 kb ws y bytes ml ret T L cells slots) : c.code = bytes := w.2.2.2.2.2.1
theorem Wd.hp (w : Wd p l e R s m args below meth c Z a0 n0 kb ws y bytes ml ret T L cells slots) : Hp Z n0 kb T.heap L := w.2.1
theorem Wd.hw (w : Wd p l e R s m args below meth c Z a0 n0 kb ws y bytes ml ret T L cells slots) {k : Nat} {d : Cond} (h : ws[k]? = some d) : d.before a0 Z = true := w.2.2.2.2.2.2.2.2.2.2 _ (List.mem_of_getElem? h)
theorem Wd.to {L' : HL} (w : Wd p l e R s m args below meth c Z a0 n0 kb ws y bytes ml ret T L cells slots) (q : L = L') : Wd p l e R s m args below meth c Z a0 n0 kb ws y bytes ml ret T L' cells slots := q ▸ w
end Wds
theorem Con.of {rm : Room} {as' : Array Value} (hpl : plainFor y = true) (hws : ∀ d ∈ ws, d.before a0 Z = true)
    (body : ∀ {p : Program} {e : Env} {s : State} {m : MethodId} {below : List Frame} {meth : Method} {c : Code} {T : State} {kb : Nat}, Wd p l e rm s m as' below meth c Z a0 n0 kb ws y bytes ml ret T L 0 0 → Go p e below Z n0 kb (EndN s rm.cells rm.slots) P T (entryFrame m as' ml)) :
    Con l y bytes ml ret rm Z n0 as' L P := by
  intro wx kb h hH
  refine MetFree.of_bodySF hpl hisR ?_
  intro p e s m args below meth c s₁ Bd hml hP hK
  obtain ⟨rfl, hZ, hh⟩ := hP
  have X0 : Stand p l e rm s m args below meth c s₁ [] 0 0 := Stand.of_body Bd
  have e0 : s₁.heap = h := by rw [← hh, Bd.state]; rfl
  obtain ⟨s₂, o, h1, h2, h3, v, Lc, rfl, h5, h6⟩ := body ⟨⟨[], X0, Fr.nil n0⟩, by rw [e0]; exact hH, Bd.exec, hZ, findClass_of_methodNamed Bd.named, Bd.bytes, hml, Bd.returns, Bd.notSynchronized, (name_of_methodNamed Bd.named Bd.method).1, hws⟩
  obtain ⟨h5a, L', h5b, h5c⟩ := h5
  exact ⟨s₂, _, h1, h2, h3, v, Lc, rfl, ⟨h5a, L', h5b, h5c⟩, h6⟩
theorem g_entry {as' : Array Value} (Ls : Array Slot) (q : entryFrame m as' ml = mkF m 0 Ls []) (k : Go p e below Z n0 kg E P T (mkF m 0 Ls [])) : Go p e below Z n0 kg E P T (entryFrame m as' ml) := by rw [q]; exact k
theorem g_int {pc : Nat} {Ls : Array Slot} {x x' : Int32} {st : List Value} (q : x = x') (k : Go p e below Z n0 kg E P T (mkF m pc Ls (.int x' :: st))) : Go p e below Z n0 kg E P T (mkF m pc Ls (.int x :: st)) := by rw [q]; exact k
theorem g_long {pc : Nat} {Ls : Array Slot} {x x' : Int64} {st : List Value} (q : x = x') (k : Go p e below Z n0 kg E P T (mkF m pc Ls (.long x' :: st))) : Go p e below Z n0 kg E P T (mkF m pc Ls (.long x :: st)) := by rw [q]; exact k
theorem g_end {f : State → State} {fs : List Frame} {v : Option Value} {g : JFrame} {locs : List Loc} (X : Stand p l e R s m args below meth c T locs cells slots) (N : Fr n0 locs) (H : Hp Z n0 kb T.heap L) (hc : cells ≤ kc) (hs : slots ≤ ks) (hP : P v L)
    (st : Steps p.tables e below (T.setTop g) (T.setFrames fs)) (h1 : (T.setFrames fs).status = .running) (h2 : Ended (T.setFrames fs) below (.returned v)) (h3 : s.WarmedH (T.setFrames fs).vm) (h4 : s.sameButNew ({ T.setFrames fs with vm := s.vm } : State) locs cells slots) :
    Go p e below Z n0 kb (EndN s kc ks) P T g :=
  ⟨_, _, st, h1, h2, v, locs, rfl, ⟨N, L, H, hP⟩, ⟨_, rfl⟩, h3, h4.mono hc hs⟩
theorem g_ret (w : Wd p l e R s m args below meth c Z a0 n0 kb ws y bytes ml none T L cells slots) {pc : Nat} {Ls : Array Slot} (hd : decode bytes pc = .ok (.return_, 1)) (hc : cells ≤ kc) (hs : slots ≤ ks) (hP : P none L) :
    Go p e below Z n0 kb (EndN s kc ks) P T (mkF m pc Ls []) := by
  obtain ⟨⟨locs, X, N⟩, H, hx, hZ, hown, hby, hml, hret, hlk, hnm, hws⟩ := w
  obtain ⟨fs, hr, h1, h2, h3, h4⟩ := X.leave (v := none) (fun _ => rfl) hlk
  exact g_end (f := id) X N H hc hs hP (X.returnOut hx hret (hb hby hd) hr) h1 h2 h3 h4
theorem g_retW {t : FieldType} {i : Instr} (w : Wd p l e R s m args below meth c Z a0 n0 kb ws y bytes ml (some t) T L cells slots) {pc : Nat} {Ls : Array Slot} {v : Value} {st : List Value} (hd : decode bytes pc = .ok (i, 1)) (hn : narrow t v = v)
    (hi : (i = .ireturn ∧ (t = .int ∨ t = .boolean ∨ t = .byte ∨ t = .char ∨ t = .short) ∧ ∃ z, v = .int z) ∨ (i = .lreturn ∧ t = .long ∧ ∃ z, v = .long z) ∨ (i = .dreturn ∧ t = .double ∧ ∃ z, v = .double z) ∨ (i = .freturn ∧ t = .float ∧ ∃ z, v = .float z) ∨ (i = .areturn ∧ t.isReference = true ∧ v.isRef = true))
    (hc : cells ≤ kc) (hs : slots ≤ ks) (hP : P (some v) L) : Go p e below Z n0 kb (EndN s kc ks) P T (mkF m pc Ls (v :: st)) := by
  obtain ⟨⟨locs, X, N⟩, H, hx, hZ, hown, hby, hml, hret, hlk, hnm, hws⟩ := w
  obtain ⟨fs, hr, h1, h2, h3, h4⟩ := X.leave (v := some v) (fun q => by rw [hret] at q; cases q) hlk
  exact g_end (f := id) X N H hc hs hP (retOut X hx hret hn hi (hb hby hd) hr) h1 h2 h3 h4
theorem g_ireti (w : Wd p l e R s m args below meth c Z a0 n0 kb ws y bytes ml (some .int) T L cells slots) {pc : Nat} {Ls : Array Slot} {z : Int32} {st : List Value} (hd : decode bytes pc = .ok (.ireturn, 1)) (hc : cells ≤ kc) (hs : slots ≤ ks) (hP : P (some (.int z)) L) :
    Go p e below Z n0 kb (EndN s kc ks) P T (mkF m pc Ls (.int z :: st)) := g_retW w hd rfl (Or.inl ⟨rfl, Or.inl rfl, z, rfl⟩) hc hs hP
theorem g_lret (w : Wd p l e R s m args below meth c Z a0 n0 kb ws y bytes ml (some .long) T L cells slots) {pc : Nat} {Ls : Array Slot} {z : Int64} {st : List Value} (hd : decode bytes pc = .ok (.lreturn, 1)) (hc : cells ≤ kc) (hs : slots ≤ ks) (hP : P (some (.long z)) L) :
    Go p e below Z n0 kb (EndN s kc ks) P T (mkF m pc Ls (.long z :: st)) := g_retW w hd rfl (Or.inr (Or.inl ⟨rfl, rfl, z, rfl⟩)) hc hs hP
theorem g_aret {t : FieldType} (w : Wd p l e R s m args below meth c Z a0 n0 kb ws y bytes ml (some t) T L cells slots) {pc : Nat} {Ls : Array Slot} {v : Value} {st : List Value} (hd : decode bytes pc = .ok (.areturn, 1)) (ht : t.isReference = true) (hv : v.isRef = true) (hn : narrow t v = v) (hc : cells ≤ kc) (hs : slots ≤ ks) (hP : P (some v) L) :
    Go p e below Z n0 kb (EndN s kc ks) P T (mkF m pc Ls (v :: st)) := g_retW w hd hn (Or.inr (Or.inr (Or.inr (Or.inr ⟨rfl, ht, hv⟩)))) hc hs hP
/-- a boolean, byte, char or short: narrowed -/
theorem g_iretn {t : FieldType} (w : Wd p l e R s m args below meth c Z a0 n0 kb ws y bytes ml (some t) T L cells slots) (ht : t = .boolean ∨ t = .byte ∨ t = .char ∨ t = .short) {pc : Nat} {Ls : Array Slot} {z : Int32} {st : List Value} (hd : decode bytes pc = .ok (.ireturn, 1)) (hc : cells ≤ kc) (hs : slots ≤ ks) (hP : P (some (.int (nar t z))) L) :
    Go p e below Z n0 kb (EndN s kc ks) P T (mkF m pc Ls (.int z :: st)) := by
  obtain ⟨⟨locs, X, N⟩, H, hx, hZ, hown, hby, hml, hret, hlk, hnm, hws⟩ := w
  obtain ⟨fs, hr, h1, h2, h3, h4⟩ := X.leave (v := some (.int (nar t z))) (fun q => by rw [hret] at q; cases q) hlk
  exact g_end (f := id) X N H hc hs hP (retN X hx hret ht (hb hby hd) hr) h1 h2 h3 h4
/-! ## constants of the pool -/
theorem g_ldci (w : Wd p l e R s m args below meth c Z a0 n0 kb ws y bytes ml ret T L cells slots) {pc : Nat} {Ls : Array Slot} {st : List Value} {idx : Nat} (hd : decode bytes pc = .ok (.ldc idx, 2)) (k : Nat) {v : Int32} (hk : ws[k]? = some (.constant y.cls idx v)) (pc' : Nat) (hp : pc + 2 = pc')
    (kt : Go p e below Z n0 kg E P T (mkF m pc' Ls (.int v :: st))) : Go p e below Z n0 kg E P T (mkF m pc Ls st) := by
  subst hp
  have hk' := w.hw hk
  obtain ⟨⟨locs, X, N⟩, H, hx, hZ, hown, hby, hml, hret, hlk, hnm, hws⟩ := w
  exact kt.pre fun t q => X.ldcInt hx hown (mvT hZ hk') (g := mkF m pc Ls st) rfl (hb hby hd) t q
theorem g_ldcl (w : Wd p l e R s m args below meth c Z a0 n0 kb ws y bytes ml ret T L cells slots) {pc : Nat} {Ls : Array Slot} {st : List Value} {idx : Nat} (hd : decode bytes pc = .ok (.ldc2_w idx, 3)) (k : Nat) {v : Int64} (hk : ws[k]? = some (.constantLong y.cls idx v)) (pc' : Nat) (hp : pc + 3 = pc')
    (kt : Go p e below Z n0 kg E P T (mkF m pc' Ls (.long v :: st))) : Go p e below Z n0 kg E P T (mkF m pc Ls st) := by
  subst hp
  have hk' := w.hw hk
  obtain ⟨⟨locs, X, N⟩, H, hx, hZ, hown, hby, hml, hret, hlk, hnm, hws⟩ := w
  exact kt.pre fun t q => X.ldc2Long hx hown (mvT hZ hk') (g := mkF m pc Ls st) rfl (hb hby hd) t q
/-! ## fields -/
theorem g_getf (w : Wd p l e R s m args below meth c Z a0 n0 kb ws y bytes ml ret T L cells slots) {pc : Nat} {Ls : Array Slot} {st : List Value} {idx : Nat} {a : Addr} {C R0 O n d : String} {fs : List FldE} {v : Value} (hd : decode bytes pc = .ok (.getfield idx, 3)) (i : Nat) (hi : L[i]? = some (a, .inl (C, fs))) (j : Nat) (hj : fs[j]? = some (O, n, d, v))
    (k : Nat) (hk : ws[k]? = some (.fieldLink y.cls idx R0 n d)) (via : Via Z R0 O n d) (pc' : Nat) (hp : pc + 3 = pc')
    (kt : ∀ T', Wd p l e R s m args below meth c Z a0 n0 kb ws y bytes ml ret T' L cells slots → Go p e below Z n0 kg E P T' (mkF m pc' Ls (v :: st))) : Go p e below Z n0 kg E P T (mkF m pc Ls (.ref a :: st)) := by
  subst hp
  have hk' := w.hw hk
  obtain ⟨⟨locs, X, N⟩, H, hx, hZ, hown, hby, hml, hret, hlk, hnm, hws⟩ := w
  have F := (H.obj hi).2.1 _ (List.mem_of_getElem? hj)
  obtain ⟨T', X', e', st'⟩ := getF X hx hZ hown (host := "") (Or.inl hk') via rfl F (g := mkF m pc Ls (.ref a :: st)) rfl rfl (hb hby hd)
  exact (kt T' ⟨⟨locs, X', N⟩, by rw [e']; exact H, hx, hZ, hown, hby, hml, hret, hlk, hnm, hws⟩).pre st'
theorem g_putf (w : Wd p l e R s m args below meth c Z a0 n0 kb ws y bytes ml ret T L cells slots) {pc : Nat} {Ls : Array Slot} {st : List Value} {idx kk : Nat} {a : Addr} {C R0 O n d : String} {fs : List FldE} {u v : Value} {ty : FieldType} (hd : decode bytes pc = .ok (.putfield idx, 3)) (i : Nat) (hi : L[i]? = some (a, .inl (C, fs))) (j : Nat) (hj : fs[j]? = some (O, n, d, u))
    (k : Nat) (hk : ws[k]? = some (.fieldLink y.cls idx R0 n d)) (via : Via Z R0 O n d) (k2 : Nat) (hk2 : ws[k2]? = some (.lays C O n d) ∨ (ws[k2]? = some (.laysFinal C O n d) ∧ y.cls = O ∧ y.name = "<init>")) (k3 : Nat) (hk3 : ws[k3]? = some (.instantiable C kk)) (hty : parseFieldDescriptor d = some ty) (hn : narrow ty v = v) (hf : fits ty v = true) (pc' : Nat) (hp : pc + 3 = pc')
    (kt : ∀ T', Wd p l e R s m args below meth c Z a0 n0 kb ws y bytes ml ret T' (L.set i (a, .inl (C, fs.set j (O, n, d, v)))) cells slots → Go p e below Z n0 kg E P T' (mkF m pc' Ls st)) : Go p e below Z n0 kg E P T (mkF m pc Ls (v :: .ref a :: st)) := by
  subst hp
  have hk' := w.hw hk
  have hk3' := w.hw hk3
  have hk2' : (Cond.lays C O n d).before a0 Z = true ∨ ((Cond.laysFinal C O n d).before a0 Z = true ∧ y.cls = O ∧ y.name = "<init>") := hk2.imp (fun q => w.hw q) fun q => ⟨w.hw q.1, q.2⟩
  obtain ⟨⟨locs, X, N⟩, H, hx, hZ, hown, hby, hml, hret, hlk, hnm, hws⟩ := w
  have I := H.obj hi
  have F := I.2.1 _ (List.mem_of_getElem? hj)
  obtain ⟨T', h', X', e', W, st'⟩ := putF X hx hZ hown (host := "") (Or.inl hk') via rfl F I.1 (hk2'.imp id fun q => ⟨q.1, q.2.1, hnm.trans q.2.2⟩) hk3' hty hn hf (g := mkF m pc Ls (v :: .ref a :: st)) rfl rfl (hb hby hd)
  refine (kt T' ⟨⟨_, X', Fr.snoc X' N (H.ge hi)⟩, ?_, hx, hZ, hown, hby, hml, hret, hlk, hnm, hws⟩).pre st'
  rw [e']
  exact H.put hi W (Is.field (H.at hi) hj W)
/-! ## new objects and arrays -/
theorem g_new (w : Wd p l e R s m args below meth c Z a0 n0 kb ws y bytes ml ret T L cells slots) {pc : Nat} {Ls : Array Slot} {st : List Value} {idx n : Nat} {C : String} (fs : List FldE) (hd : decode bytes pc = .ok (.new idx, 3)) (k1 : Nat) (hk1 : ws[k1]? = some (.classLink y.cls idx C)) (k2 : Nat) (hk2 : ws[k2]? = some (.instantiable C n)) (k3 : Nat) (hk3 : ws[k3]? = some (.initialized C))
    (hfs : FOk Z a0 C fs) (hnd : (fs.map fun f => f.2.1).Nodup) (hc : cells + 1 ≤ R.cells) (hs : slots + n ≤ R.slots) (pc' : Nat) (hp : pc + 3 = pc')
    (kt : ∀ T' a, Wd p l e R s m args below meth c Z a0 n0 kb ws y bytes ml ret T' (L ++ [(a, .inl (C, fs))]) (cells + 1) (slots + n) → Go p e below Z n0 kg E P T' (mkF m pc' Ls (.ref a :: st))) : Go p e below Z n0 kg E P T (mkF m pc Ls st) := by
  subst hp
  have hk1' := w.hw hk1
  have hk2' := w.hw hk2
  have hk3' := w.hw hk3
  obtain ⟨⟨locs, X, N⟩, H, hx, hZ, hown, hby, hml, hret, hlk, hnm, hws⟩ := w
  obtain ⟨T', h', X', e', E, A, D, -, st'⟩ := newO X hx hZ hown hk1' hk2' hk3' rfl (g := mkF m pc Ls st) rfl (hb hby hd) hc hs
  refine (kt T' T.heap.size ⟨⟨_, X', N⟩, ?_, hx, hZ, hown, hby, hml, hret, hlk, hnm, hws⟩).pre st'
  rw [e']
  refine H.push E H.size (show Exa _ _ _ _ ∧ _ ∧ _ from ⟨A, fun f hf => ?_, hfs.pw hnd⟩)
  obtain ⟨l1, t1, p1, v1⟩ := hfs.mem f hf
  rw [v1]
  exact D l1 p1
theorem g_newarr (w : Wd p l e R s m args below meth c Z a0 n0 kb ws y bytes ml ret T L cells slots) {pc : Nat} {Ls : Array Slot} {st : List Value} {aty : ArrayType} {n : Int32} (hd : decode bytes pc = .ok (.newarray aty, 2)) (k1 : Nat) (hk1 : ws[k1]? = some (.arrayClass (newarray.typeOf aty))) (nn cap : Nat) (hn : n.toInt = (nn : Int)) (hcap : nn ≤ cap) (hb8 : cap * 8 ≤ 536870912)
    (vs : List Value) (hvs : vs = List.replicate nn (defaultValue (newarray.typeOf aty))) (hc : cells + 1 ≤ R.cells) (hs : slots + cap ≤ R.slots) (pc' : Nat) (hp : pc + 2 = pc')
    (kt : ∀ T' a, Wd p l e R s m args below meth c Z a0 n0 kb ws y bytes ml ret T' (L ++ [(a, .inr (newarray.typeOf aty, vs))]) (cells + 1) (slots + cap) → Go p e below Z n0 kg E P T' (mkF m pc' Ls (.ref a :: st))) : Go p e below Z n0 kg E P T (mkF m pc Ls (.int n :: st)) := by
  subst hp hvs
  have hk1' := w.hw hk1
  obtain ⟨⟨locs, X, N⟩, H, hx, hZ, hown, hby, hml, hret, hlk, hnm, hws⟩ := w
  have q0 : ¬ n < 0 := by rw [Int32.lt_iff_toInt_lt, hn]; show ¬ ((nn : Int) < 0); omega
  have q1 : n.toNatClampNeg = nn := by have := nat_of q0; rw [hn] at this; exact (Int.ofNat.inj this).symm
  obtain ⟨T', h', cA, X', e', E, A, XA, st'⟩ := newPE X hx hZ hk1' rfl (g := mkF m pc Ls (.int n :: st)) rfl (hb hby hd) rfl q0 (cap := cap) (by rw [q1]; exact hcap) hb8 hc hs (ad := "[" ++ (newarray.typeOf aty).toString) rfl
  refine (kt T' T.heap.size ⟨⟨_, X', N⟩, ?_, hx, hZ, hown, hby, hml, hret, hlk, hnm, hws⟩).pre st'
  rw [e']
  refine H.push E H.size (show ∃ c : Cell, _ from ⟨_, A, XA, by simp [newA, q1], ?_⟩)
  have := Int32.toInt_lt n
  rw [hn] at this
  simp only [List.length_replicate]
  omega
theorem inb {j : Int32} {jn : Nat} {cl : Cell} {vs : List Value} (hj : j.toInt = (jn : Int)) (e : cl.slots.toList = vs) (hl : jn < vs.length) : ¬ (j < 0 ∨ cl.slots.size ≤ j.toNatClampNeg) ∧ j.toNatClampNeg = jn := by
  have q0 : ¬ j < 0 := by rw [Int32.lt_iff_toInt_lt, hj]; show ¬ ((jn : Int) < 0); omega
  have q1 : j.toNatClampNeg = jn := by have := nat_of q0; rw [hj] at this; exact (Int.ofNat.inj this).symm
  refine ⟨fun q => q.elim q0 fun r => ?_, q1⟩
  rw [q1] at r
  have : cl.slots.size = vs.length := by rw [← e]; simp
  omega
theorem g_alen (w : Wd p l e R s m args below meth c Z a0 n0 kb ws y bytes ml ret T L cells slots) {pc : Nat} {Ls : Array Slot} {st : List Value} {a : Addr} {ty : FieldType} {vs : List Value} (hd : decode bytes pc = .ok (.arraylength, 1)) (i : Nat) (hi : L[i]? = some (a, .inr (ty, vs))) (z : Int32) (hz : z.toInt = (vs.length : Int)) (pc' : Nat) (hp : pc + 1 = pc')
    (kt : Go p e below Z n0 kg E P T (mkF m pc' Ls (.int z :: st))) : Go p e below Z n0 kg E P T (mkF m pc Ls (.ref a :: st)) := by
  subst hp
  obtain ⟨⟨locs, X, N⟩, H, hx, hZ, hown, hby, hml, hret, hlk, hnm, hws⟩ := w
  obtain ⟨cl, A, -, ev, hl⟩ := H.arr hi
  refine kt.pre fun t q => X.arraylength hx A.1 (State.isArrayOf_alike hZ.alike A.2.1) (g := mkF m pc Ls (.ref a :: st)) rfl rfl (hb hby hd) t ?_
  have : cl.slots.size.toInt32 = z := by
    apply Int32.toInt_inj.mp
    have e1 : cl.slots.size = vs.length := by rw [← ev]; simp
    rw [hz, e1]
    exact len_toInt hl
  rw [this]
  exact q
theorem g_castA (w : Wd p l e R s m args below meth c Z a0 n0 kb ws y bytes ml ret T L cells slots) {pc : Nat} {Ls : Array Slot} {st : List Value} {a : Addr} {ty : FieldType} {vs : List Value} {idx : Nat} {K : String} (hd : decode bytes pc = .ok (.checkcast idx, 3)) (i : Nat) (hi : L[i]? = some (a, .inr (ty, vs))) (k : Nat) (hk : ws[k]? = some (.classLink y.cls idx K)) (hK : "[" ++ ty.toString = K) (pc' : Nat) (hp : pc + 3 = pc')
    (kt : ∀ T', Wd p l e R s m args below meth c Z a0 n0 kb ws y bytes ml ret T' L cells slots → Go p e below Z n0 kg E P T' (mkF m pc' Ls (.ref a :: st))) : Go p e below Z n0 kg E P T (mkF m pc Ls (.ref a :: st)) := by
  subst hp hK
  have hk' := w.hw hk
  obtain ⟨⟨locs, X, N⟩, H, hx, hZ, hown, hby, hml, hret, hlk, hnm, hws⟩ := w
  obtain ⟨cl, A, XA, ev, hl⟩ := H.arr hi
  obtain ⟨T', X', e', st'⟩ := castY X hx hZ hown hk' rfl (Ins.self XA) (g := mkF m pc Ls (.ref a :: st)) rfl rfl (hb hby hd)
  exact (kt T' ⟨⟨locs, X', N⟩, by rw [e']; exact H, hx, hZ, hown, hby, hml, hret, hlk, hnm, hws⟩).pre st'
theorem g_cloneA (w : Wd p l e R s m args below meth c Z a0 n0 kb ws y bytes ml ret T L cells slots) {pc : Nat} {Ls : Array Slot} {st : List Value} {a : Addr} {ty : FieldType} {vs : List Value} {idx : Nat} {ad : String} (hd : decode bytes pc = .ok (.invokevirtual idx, 3)) (i : Nat) (hi : L[i]? = some (a, .inr (ty, vs))) (had : "[" ++ ty.toString = ad)
    (k1 : Nat) (hk1 : ws[k1]? = some (.methodLink y.cls idx ⟨ad, "clone", "()Ljava/lang/Object;"⟩)) (k2 : Nat) (hk2 : ws[k2]? = some (.sameMethod ad "java/lang/Object" "clone" "()Ljava/lang/Object;")) (k3 : Nat) (hk3 : ws[k3]? = some (.native ⟨"java/lang/Object", "clone", "()Ljava/lang/Object;"⟩)) (k4 : Nat) (hk4 : ws[k4]? = some (.instanceMethod ⟨"java/lang/Object", "clone", "()Ljava/lang/Object;"⟩))
    (k5 : Nat) (hk5 : ws[k5]? = some (.selects ad ⟨ad, "clone", "()Ljava/lang/Object;"⟩ ⟨"java/lang/Object", "clone", "()Ljava/lang/Object;"⟩)) (k6 : Nat) (hk6 : ws[k6]? = some (.castable ad "java/lang/Cloneable")) (hfit : ∀ v ∈ vs, fits ty v = true) (hsz : Ls.size = ml) (hf : 1 ≤ R.frames) (W cap : Nat) (hW : (st.map fun v => v.category).sum = W) (hl : W + 14 ≤ R.locals) (hcap : vs.length ≤ cap) (hc : cells + 1 ≤ R.cells) (hs : slots + cap ≤ R.slots) (pc' : Nat) (hp : pc + 3 = pc')
    (kt : ∀ T' a', Wd p l e R s m args below meth c Z a0 n0 kb ws y bytes ml ret T' (L ++ [(a', .inr (ty, vs))]) (cells + 1) (slots + cap) → Go p e below Z n0 kg E P T' (mkF m pc' Ls (.ref a' :: st))) : Go p e below Z n0 kg E P T (mkF m pc Ls (.ref a :: st)) := by
  subst hp had
  have hk1' := w.hw hk1
  have hk2' := w.hw hk2
  have hk3' := w.hw hk3
  have hk4' := w.hw hk4
  have hk5' := w.hw hk5
  have hk6' := w.hw hk6
  obtain ⟨⟨locs, X, N⟩, H, hx, hZ, hown, hby, hml, hret, hlk, hnm, hws⟩ := w
  obtain ⟨cl, A, XA, ev, hL⟩ := H.arr hi
  have FC : FitC Z cl := fitC_of A fun i hi v hv => hfit v (by rw [← ev]; exact Array.mem_toList_iff.mpr (Array.mem_of_getElem? hv))
  have hlen : cl.slots.size = vs.length := by rw [← ev]; simp
  obtain ⟨T', h', X', e', E, A', XA', st'⟩ := cloneA X hx hZ hown hk1' hk2' hk3' hk4' hk5' hk6' rfl A XA FC (g := mkF m pc Ls (.ref a :: st)) rfl (by rw [hml]; exact hsz) rfl (hb hby hd) hf (W := W) (cap := cap) (by show 2 * 0 + _ ≤ _; rw [hW]; omega) hl (by rw [hlen]; exact hcap) hc hs
  refine (kt T' T.heap.size ⟨⟨_, X', N⟩, ?_, hx, hZ, hown, hby, hml, hret, hlk, hnm, hws⟩).pre st'
  rw [e']
  exact H.push E H.size ⟨_, A', XA', ev, hL⟩
/-! ## what stood at the start: statics and old objects (never written) -/
theorem Hp.old (H : Hp Z n0 kb T.heap L) : Ext Z.heap T.heap := H.1.1.2
theorem g_gets (w : Wd p l e R s m args below meth c Z a0 n0 kb ws y bytes ml ret T L cells slots) {pc : Nat} {Ls : Array Slot} {st : List Value} {idx : Nat} {O n d : String} {v : Value} (F : Sta Z Z.heap O n d v) (hd : decode bytes pc = .ok (.getstatic idx, 3)) (k : Nat) (hk : ws[k]? = some (.fieldLink y.cls idx O n d)) (pc' : Nat) (hp : pc + 3 = pc')
    (kt : ∀ T', Wd p l e R s m args below meth c Z a0 n0 kb ws y bytes ml ret T' L cells slots → Go p e below Z n0 kg E P T' (mkF m pc' Ls (v :: st))) : Go p e below Z n0 kg E P T (mkF m pc Ls st) := by
  subst hp
  have hk' := w.hw hk
  obtain ⟨⟨locs, X, N⟩, H, hx, hZ, hown, hby, hml, hret, hlk, hnm, hws⟩ := w
  obtain ⟨T', X', e', st'⟩ := getS X hx hZ hown (host := "") hk' Via.refl rfl (F.ext H.old) (g := mkF m pc Ls st) rfl (hb hby hd)
  exact (kt T' ⟨⟨locs, X', N⟩, by rw [e']; exact H, hx, hZ, hown, hby, hml, hret, hlk, hnm, hws⟩).pre st'
theorem g_getfO (w : Wd p l e R s m args below meth c Z a0 n0 kb ws y bytes ml ret T L cells slots) {pc : Nat} {Ls : Array Slot} {st : List Value} {idx : Nat} {a : Addr} {O n d : String} {v : Value} (F : Fld Z Z.heap a O n d v) (hd : decode bytes pc = .ok (.getfield idx, 3)) (k : Nat) (hk : ws[k]? = some (.fieldLink y.cls idx O n d)) (pc' : Nat) (hp : pc + 3 = pc')
    (kt : ∀ T', Wd p l e R s m args below meth c Z a0 n0 kb ws y bytes ml ret T' L cells slots → Go p e below Z n0 kg E P T' (mkF m pc' Ls (v :: st))) : Go p e below Z n0 kg E P T (mkF m pc Ls (.ref a :: st)) := by
  subst hp
  have hk' := w.hw hk
  obtain ⟨⟨locs, X, N⟩, H, hx, hZ, hown, hby, hml, hret, hlk, hnm, hws⟩ := w
  obtain ⟨T', X', e', st'⟩ := getF X hx hZ hown (host := "") (Or.inl hk') Via.refl rfl (F.ext H.old) (g := mkF m pc Ls (.ref a :: st)) rfl rfl (hb hby hd)
  exact (kt T' ⟨⟨locs, X', N⟩, by rw [e']; exact H, hx, hZ, hown, hby, hml, hret, hlk, hnm, hws⟩).pre st'
theorem g_iaload (w : Wd p l e R s m args below meth c Z a0 n0 kb ws y bytes ml ret T L cells slots) {pc : Nat} {Ls : Array Slot} {st : List Value} {a : Addr} {vs : List Value} {j : Int32} {v : Value} (hd : decode bytes pc = .ok (.iaload, 1)) (i : Nat) (hi : L[i]? = some (a, .inr (.int, vs))) (jn : Nat) (hj : j.toInt = (jn : Int)) (hv : vs[jn]? = some v) (pc' : Nat) (hp : pc + 1 = pc')
    (kt : Go p e below Z n0 kg E P T (mkF m pc' Ls (v :: st))) : Go p e below Z n0 kg E P T (mkF m pc Ls (.int j :: .ref a :: st)) := by
  subst hp
  obtain ⟨⟨locs, X, N⟩, H, hx, hZ, hown, hby, hml, hret, hlk, hnm, hws⟩ := w
  obtain ⟨cl, A, -, ev, hl⟩ := H.arr hi
  obtain ⟨q1, q2⟩ := inb hj ev (List.getElem?_eq_some_iff.mp hv).1
  exact kt.pre fun t q => X.iaload hx (j := j) (v := v) A.1 (State.isArrayOf_alike hZ.alike A.2.1) A.2.2 q1 (by rw [q2, ← hv, ← ev]; simp) (g := mkF m pc Ls (.int j :: .ref a :: st)) rfl rfl (hb hby hd) t q
theorem g_laload (w : Wd p l e R s m args below meth c Z a0 n0 kb ws y bytes ml ret T L cells slots) {pc : Nat} {Ls : Array Slot} {st : List Value} {a : Addr} {vs : List Value} {j : Int32} {v : Value} (hd : decode bytes pc = .ok (.laload, 1)) (i : Nat) (hi : L[i]? = some (a, .inr (.long, vs))) (jn : Nat) (hj : j.toInt = (jn : Int)) (hv : vs[jn]? = some v) (pc' : Nat) (hp : pc + 1 = pc')
    (kt : Go p e below Z n0 kg E P T (mkF m pc' Ls (v :: st))) : Go p e below Z n0 kg E P T (mkF m pc Ls (.int j :: .ref a :: st)) := by
  subst hp
  obtain ⟨⟨locs, X, N⟩, H, hx, hZ, hown, hby, hml, hret, hlk, hnm, hws⟩ := w
  obtain ⟨cl, A, -, ev, hl⟩ := H.arr hi
  obtain ⟨q1, q2⟩ := inb hj ev (List.getElem?_eq_some_iff.mp hv).1
  exact kt.pre fun t q => X.laload hx (j := j) (v := v) A.1 (State.isArrayOf_alike hZ.alike A.2.1) A.2.2 q1 (by rw [q2, ← hv, ← ev]; simp) (g := mkF m pc Ls (.int j :: .ref a :: st)) rfl rfl (hb hby hd) t q
theorem g_caload (w : Wd p l e R s m args below meth c Z a0 n0 kb ws y bytes ml ret T L cells slots) {pc : Nat} {Ls : Array Slot} {st : List Value} {a : Addr} {vs : List Value} {j : Int32} {v : Value} (hd : decode bytes pc = .ok (.caload, 1)) (i : Nat) (hi : L[i]? = some (a, .inr (.char, vs))) (jn : Nat) (hj : j.toInt = (jn : Int)) (hv : vs[jn]? = some v) (pc' : Nat) (hp : pc + 1 = pc')
    (kt : Go p e below Z n0 kg E P T (mkF m pc' Ls (v :: st))) : Go p e below Z n0 kg E P T (mkF m pc Ls (.int j :: .ref a :: st)) := by
  subst hp
  obtain ⟨⟨locs, X, N⟩, H, hx, hZ, hown, hby, hml, hret, hlk, hnm, hws⟩ := w
  obtain ⟨cl, A, -, ev, hl⟩ := H.arr hi
  obtain ⟨q1, q2⟩ := inb hj ev (List.getElem?_eq_some_iff.mp hv).1
  exact kt.pre fun t q => X.caload hx (j := j) (v := v) A.1 (State.isArrayOf_alike hZ.alike A.2.1) A.2.2 q1 (by rw [q2, ← hv, ← ev]; simp) (g := mkF m pc Ls (.int j :: .ref a :: st)) rfl rfl (hb hby hd) t q
theorem g_baload (w : Wd p l e R s m args below meth c Z a0 n0 kb ws y bytes ml ret T L cells slots) {pc : Nat} {Ls : Array Slot} {st : List Value} {a : Addr} {vs : List Value} {j : Int32} {v : Value} (hd : decode bytes pc = .ok (.baload, 1)) (i : Nat) (hi : L[i]? = some (a, .inr (.byte, vs))) (jn : Nat) (hj : j.toInt = (jn : Int)) (hv : vs[jn]? = some v) (pc' : Nat) (hp : pc + 1 = pc')
    (kt : Go p e below Z n0 kg E P T (mkF m pc' Ls (v :: st))) : Go p e below Z n0 kg E P T (mkF m pc Ls (.int j :: .ref a :: st)) := by
  subst hp
  obtain ⟨⟨locs, X, N⟩, H, hx, hZ, hown, hby, hml, hret, hlk, hnm, hws⟩ := w
  obtain ⟨cl, A, -, ev, hl⟩ := H.arr hi
  obtain ⟨q1, q2⟩ := inb hj ev (List.getElem?_eq_some_iff.mp hv).1
  exact kt.pre fun t q => X.baloadBytes hx (j := j) (v := v) A.1 (State.isArrayOf_alike hZ.alike A.2.1) A.2.2 q1 (by rw [q2, ← hv, ← ev]; simp) (g := mkF m pc Ls (.int j :: .ref a :: st)) rfl rfl (hb hby hd) t q
theorem g_zaload (w : Wd p l e R s m args below meth c Z a0 n0 kb ws y bytes ml ret T L cells slots) {pc : Nat} {Ls : Array Slot} {st : List Value} {a : Addr} {vs : List Value} {j : Int32} {v : Value} (hd : decode bytes pc = .ok (.baload, 1)) (i : Nat) (hi : L[i]? = some (a, .inr (.boolean, vs))) (jn : Nat) (hj : j.toInt = (jn : Int)) (hv : vs[jn]? = some v) (pc' : Nat) (hp : pc + 1 = pc')
    (kt : Go p e below Z n0 kg E P T (mkF m pc' Ls (v :: st))) : Go p e below Z n0 kg E P T (mkF m pc Ls (.int j :: .ref a :: st)) := by
  subst hp
  obtain ⟨⟨locs, X, N⟩, H, hx, hZ, hown, hby, hml, hret, hlk, hnm, hws⟩ := w
  obtain ⟨cl, A, -, ev, hl⟩ := H.arr hi
  obtain ⟨q1, q2⟩ := inb hj ev (List.getElem?_eq_some_iff.mp hv).1
  exact kt.pre fun t q => X.baloadBooleans hx (j := j) (v := v) A.1 (State.isArrayOf_alike hZ.alike A.2.1) A.2.2 q1 (by rw [q2, ← hv, ← ev]; simp) (g := mkF m pc Ls (.int j :: .ref a :: st)) rfl rfl (hb hby hd) t q
theorem g_iastore (w : Wd p l e R s m args below meth c Z a0 n0 kb ws y bytes ml ret T L cells slots) {pc : Nat} {Ls : Array Slot} {st : List Value} {a : Addr} {vs : List Value} {j : Int32} {x : Int32} (hd : decode bytes pc = .ok (.iastore, 1)) (i : Nat) (hi : L[i]? = some (a, .inr (.int, vs))) (jn : Nat) (hj : j.toInt = (jn : Int)) (hl : jn < vs.length) (v : Value) (hv : (.int x) = v) (pc' : Nat) (hp : pc + 1 = pc')
    (kt : ∀ T', Wd p l e R s m args below meth c Z a0 n0 kb ws y bytes ml ret T' (L.set i (a, .inr (.int, vs.set jn v))) cells slots → Go p e below Z n0 kg E P T' (mkF m pc' Ls st)) : Go p e below Z n0 kg E P T (mkF m pc Ls (.int x :: .int j :: .ref a :: st)) := by
  subst hp hv
  obtain ⟨⟨locs, X, N⟩, H, hx, hZ, hown, hby, hml, hret, hlk, hnm, hws⟩ := w
  obtain ⟨cl, A, XA, ev, hL⟩ := H.arr hi
  obtain ⟨q1, q2⟩ := inb hj ev hl
  obtain ⟨T', h', X', e', W, st'⟩ := stI X hx hZ rfl A (j := j) (x := x) q1 (g := mkF m pc Ls (.int x :: .int j :: .ref a :: st)) rfl rfl (hb hby hd)
  rw [q2] at W
  refine (kt T' ⟨⟨_, X', Fr.snoc X' N (H.ge hi)⟩, ?_, hx, hZ, hown, hby, hml, hret, hlk, hnm, hws⟩).pre st'
  rw [e']
  exact H.put hi W (Is.elem A XA ev hL W)
theorem g_lastore (w : Wd p l e R s m args below meth c Z a0 n0 kb ws y bytes ml ret T L cells slots) {pc : Nat} {Ls : Array Slot} {st : List Value} {a : Addr} {vs : List Value} {j : Int32} {x : Int64} (hd : decode bytes pc = .ok (.lastore, 1)) (i : Nat) (hi : L[i]? = some (a, .inr (.long, vs))) (jn : Nat) (hj : j.toInt = (jn : Int)) (hl : jn < vs.length) (v : Value) (hv : (.long x) = v) (pc' : Nat) (hp : pc + 1 = pc')
    (kt : ∀ T', Wd p l e R s m args below meth c Z a0 n0 kb ws y bytes ml ret T' (L.set i (a, .inr (.long, vs.set jn v))) cells slots → Go p e below Z n0 kg E P T' (mkF m pc' Ls st)) : Go p e below Z n0 kg E P T (mkF m pc Ls (.long x :: .int j :: .ref a :: st)) := by
  subst hp hv
  obtain ⟨⟨locs, X, N⟩, H, hx, hZ, hown, hby, hml, hret, hlk, hnm, hws⟩ := w
  obtain ⟨cl, A, XA, ev, hL⟩ := H.arr hi
  obtain ⟨q1, q2⟩ := inb hj ev hl
  obtain ⟨T', h', X', e', W, st'⟩ := stJ X hx hZ rfl A (j := j) (x := x) q1 (g := mkF m pc Ls (.long x :: .int j :: .ref a :: st)) rfl rfl (hb hby hd)
  rw [q2] at W
  refine (kt T' ⟨⟨_, X', Fr.snoc X' N (H.ge hi)⟩, ?_, hx, hZ, hown, hby, hml, hret, hlk, hnm, hws⟩).pre st'
  rw [e']
  exact H.put hi W (Is.elem A XA ev hL W)
theorem g_castore (w : Wd p l e R s m args below meth c Z a0 n0 kb ws y bytes ml ret T L cells slots) {pc : Nat} {Ls : Array Slot} {st : List Value} {a : Addr} {vs : List Value} {j : Int32} {x : Int32} (hd : decode bytes pc = .ok (.castore, 1)) (i : Nat) (hi : L[i]? = some (a, .inr (.char, vs))) (jn : Nat) (hj : j.toInt = (jn : Int)) (hl : jn < vs.length) (v : Value) (hv : (.int (nar .char x)) = v) (pc' : Nat) (hp : pc + 1 = pc')
    (kt : ∀ T', Wd p l e R s m args below meth c Z a0 n0 kb ws y bytes ml ret T' (L.set i (a, .inr (.char, vs.set jn v))) cells slots → Go p e below Z n0 kg E P T' (mkF m pc' Ls st)) : Go p e below Z n0 kg E P T (mkF m pc Ls (.int x :: .int j :: .ref a :: st)) := by
  subst hp hv
  obtain ⟨⟨locs, X, N⟩, H, hx, hZ, hown, hby, hml, hret, hlk, hnm, hws⟩ := w
  obtain ⟨cl, A, XA, ev, hL⟩ := H.arr hi
  obtain ⟨q1, q2⟩ := inb hj ev hl
  obtain ⟨T', h', X', e', W, st'⟩ := stC X hx hZ rfl A (j := j) (x := x) q1 (g := mkF m pc Ls (.int x :: .int j :: .ref a :: st)) rfl rfl (hb hby hd)
  rw [q2] at W
  refine (kt T' ⟨⟨_, X', Fr.snoc X' N (H.ge hi)⟩, ?_, hx, hZ, hown, hby, hml, hret, hlk, hnm, hws⟩).pre st'
  rw [e']
  exact H.put hi W (Is.elem A XA ev hL W)
theorem g_bastore (w : Wd p l e R s m args below meth c Z a0 n0 kb ws y bytes ml ret T L cells slots) {pc : Nat} {Ls : Array Slot} {st : List Value} {a : Addr} {vs : List Value} {j : Int32} {x : Int32} (hd : decode bytes pc = .ok (.bastore, 1)) (i : Nat) (hi : L[i]? = some (a, .inr (.byte, vs))) (jn : Nat) (hj : j.toInt = (jn : Int)) (hl : jn < vs.length) (v : Value) (hv : (.int (nar .byte x)) = v) (pc' : Nat) (hp : pc + 1 = pc')
    (kt : ∀ T', Wd p l e R s m args below meth c Z a0 n0 kb ws y bytes ml ret T' (L.set i (a, .inr (.byte, vs.set jn v))) cells slots → Go p e below Z n0 kg E P T' (mkF m pc' Ls st)) : Go p e below Z n0 kg E P T (mkF m pc Ls (.int x :: .int j :: .ref a :: st)) := by
  subst hp hv
  obtain ⟨⟨locs, X, N⟩, H, hx, hZ, hown, hby, hml, hret, hlk, hnm, hws⟩ := w
  obtain ⟨cl, A, XA, ev, hL⟩ := H.arr hi
  obtain ⟨q1, q2⟩ := inb hj ev hl
  obtain ⟨T', h', X', e', W, st'⟩ := stB X hx hZ rfl A (j := j) (x := x) q1 (g := mkF m pc Ls (.int x :: .int j :: .ref a :: st)) rfl rfl (hb hby hd)
  rw [q2] at W
  refine (kt T' ⟨⟨_, X', Fr.snoc X' N (H.ge hi)⟩, ?_, hx, hZ, hown, hby, hml, hret, hlk, hnm, hws⟩).pre st'
  rw [e']
  exact H.put hi W (Is.elem A XA ev hL W)
theorem g_zastore (w : Wd p l e R s m args below meth c Z a0 n0 kb ws y bytes ml ret T L cells slots) {pc : Nat} {Ls : Array Slot} {st : List Value} {a : Addr} {vs : List Value} {j : Int32} {x : Int32} (hd : decode bytes pc = .ok (.bastore, 1)) (i : Nat) (hi : L[i]? = some (a, .inr (.boolean, vs))) (jn : Nat) (hj : j.toInt = (jn : Int)) (hl : jn < vs.length) (v : Value) (hv : (.int (nar .boolean x)) = v) (pc' : Nat) (hp : pc + 1 = pc')
    (kt : ∀ T', Wd p l e R s m args below meth c Z a0 n0 kb ws y bytes ml ret T' (L.set i (a, .inr (.boolean, vs.set jn v))) cells slots → Go p e below Z n0 kg E P T' (mkF m pc' Ls st)) : Go p e below Z n0 kg E P T (mkF m pc Ls (.int x :: .int j :: .ref a :: st)) := by
  subst hp hv
  obtain ⟨⟨locs, X, N⟩, H, hx, hZ, hown, hby, hml, hret, hlk, hnm, hws⟩ := w
  obtain ⟨cl, A, XA, ev, hL⟩ := H.arr hi
  obtain ⟨q1, q2⟩ := inb hj ev hl
  obtain ⟨T', h', X', e', W, st'⟩ := stZ X hx hZ rfl A (j := j) (x := x) q1 (g := mkF m pc Ls (.int x :: .int j :: .ref a :: st)) rfl rfl (hb hby hd)
  rw [q2] at W
  refine (kt T' ⟨⟨_, X', Fr.snoc X' N (H.ge hi)⟩, ?_, hx, hZ, hown, hby, hml, hret, hlk, hnm, hws⟩).pre st'
  rw [e']
  exact H.put hi W (Is.elem A XA ev hL W)
theorem g_iadd (w : Wd p l e R s m args below meth c Z a0 n0 kb ws y bytes ml ret T L cells slots) {pc : Nat} {Ls : Array Slot} {x y : Int32} {st : List Value} (hd : decode bytes pc = .ok (.iadd, 1)) (pc' : Nat) (hp : pc + 1 = pc')
    (k : Go p e below Z n0 kg E P T (mkF m pc' Ls (.int (x + y) :: st))) : Go p e below Z n0 kg E P T (mkF m pc Ls (.int y :: .int x :: st)) := by
  subst hp
  exact k.pre fun t q => XS.iadd w.here w.hx rfl (hb w.hby hd) rfl q
theorem g_isub (w : Wd p l e R s m args below meth c Z a0 n0 kb ws y bytes ml ret T L cells slots) {pc : Nat} {Ls : Array Slot} {x y : Int32} {st : List Value} (hd : decode bytes pc = .ok (.isub, 1)) (pc' : Nat) (hp : pc + 1 = pc')
    (k : Go p e below Z n0 kg E P T (mkF m pc' Ls (.int (x - y) :: st))) : Go p e below Z n0 kg E P T (mkF m pc Ls (.int y :: .int x :: st)) := by
  subst hp
  exact k.pre fun t q => XS.isub w.here w.hx rfl (hb w.hby hd) rfl q
theorem g_imul (w : Wd p l e R s m args below meth c Z a0 n0 kb ws y bytes ml ret T L cells slots) {pc : Nat} {Ls : Array Slot} {x y : Int32} {st : List Value} (hd : decode bytes pc = .ok (.imul, 1)) (pc' : Nat) (hp : pc + 1 = pc')
    (k : Go p e below Z n0 kg E P T (mkF m pc' Ls (.int (x * y) :: st))) : Go p e below Z n0 kg E P T (mkF m pc Ls (.int y :: .int x :: st)) := by
  subst hp
  exact k.pre fun t q => XS.imul w.here w.hx rfl (hb w.hby hd) rfl q
theorem g_iand (w : Wd p l e R s m args below meth c Z a0 n0 kb ws y bytes ml ret T L cells slots) {pc : Nat} {Ls : Array Slot} {x y : Int32} {st : List Value} (hd : decode bytes pc = .ok (.iand, 1)) (pc' : Nat) (hp : pc + 1 = pc')
    (k : Go p e below Z n0 kg E P T (mkF m pc' Ls (.int (x &&& y) :: st))) : Go p e below Z n0 kg E P T (mkF m pc Ls (.int y :: .int x :: st)) := by
  subst hp
  exact k.pre fun t q => XS.iand w.here w.hx rfl (hb w.hby hd) rfl q
theorem g_ior (w : Wd p l e R s m args below meth c Z a0 n0 kb ws y bytes ml ret T L cells slots) {pc : Nat} {Ls : Array Slot} {x y : Int32} {st : List Value} (hd : decode bytes pc = .ok (.ior, 1)) (pc' : Nat) (hp : pc + 1 = pc')
    (k : Go p e below Z n0 kg E P T (mkF m pc' Ls (.int (x ||| y) :: st))) : Go p e below Z n0 kg E P T (mkF m pc Ls (.int y :: .int x :: st)) := by
  subst hp
  exact k.pre fun t q => XT.ior w.here w.hx rfl (hb w.hby hd) rfl q
theorem g_ixor (w : Wd p l e R s m args below meth c Z a0 n0 kb ws y bytes ml ret T L cells slots) {pc : Nat} {Ls : Array Slot} {x y : Int32} {st : List Value} (hd : decode bytes pc = .ok (.ixor, 1)) (pc' : Nat) (hp : pc + 1 = pc')
    (k : Go p e below Z n0 kg E P T (mkF m pc' Ls (.int (x ^^^ y) :: st))) : Go p e below Z n0 kg E P T (mkF m pc Ls (.int y :: .int x :: st)) := by
  subst hp
  exact k.pre fun t q => XT.ixor w.here w.hx rfl (hb w.hby hd) rfl q
theorem g_ishl (w : Wd p l e R s m args below meth c Z a0 n0 kb ws y bytes ml ret T L cells slots) {pc : Nat} {Ls : Array Slot} {x y : Int32} {st : List Value} (hd : decode bytes pc = .ok (.ishl, 1)) (pc' : Nat) (hp : pc + 1 = pc')
    (k : Go p e below Z n0 kg E P T (mkF m pc' Ls (.int (x <<< (y &&& 31)) :: st))) : Go p e below Z n0 kg E P T (mkF m pc Ls (.int y :: .int x :: st)) := by
  subst hp
  exact k.pre fun t q => XS.ishl w.here w.hx rfl (hb w.hby hd) rfl q
theorem g_ishr (w : Wd p l e R s m args below meth c Z a0 n0 kb ws y bytes ml ret T L cells slots) {pc : Nat} {Ls : Array Slot} {x y : Int32} {st : List Value} (hd : decode bytes pc = .ok (.ishr, 1)) (pc' : Nat) (hp : pc + 1 = pc')
    (k : Go p e below Z n0 kg E P T (mkF m pc' Ls (.int (x >>> (y &&& 31)) :: st))) : Go p e below Z n0 kg E P T (mkF m pc Ls (.int y :: .int x :: st)) := by
  subst hp
  exact k.pre fun t q => XS.ishr w.here w.hx rfl (hb w.hby hd) rfl q
theorem g_iushr (w : Wd p l e R s m args below meth c Z a0 n0 kb ws y bytes ml ret T L cells slots) {pc : Nat} {Ls : Array Slot} {x y : Int32} {st : List Value} (hd : decode bytes pc = .ok (.iushr, 1)) (pc' : Nat) (hp : pc + 1 = pc')
    (k : Go p e below Z n0 kg E P T (mkF m pc' Ls (.int (ushrI x y) :: st))) : Go p e below Z n0 kg E P T (mkF m pc Ls (.int y :: .int x :: st)) := by
  subst hp
  exact k.pre fun t q => XS.iushr w.here w.hx rfl (hb w.hby hd) rfl q
theorem g_ladd (w : Wd p l e R s m args below meth c Z a0 n0 kb ws y bytes ml ret T L cells slots) {pc : Nat} {Ls : Array Slot} {x y : Int64} {st : List Value} (hd : decode bytes pc = .ok (.ladd, 1)) (pc' : Nat) (hp : pc + 1 = pc')
    (k : Go p e below Z n0 kg E P T (mkF m pc' Ls (.long (x + y) :: st))) : Go p e below Z n0 kg E P T (mkF m pc Ls (.long y :: .long x :: st)) := by
  subst hp
  exact k.pre fun t q => XT.ladd w.here w.hx rfl (hb w.hby hd) rfl q
theorem g_lsub (w : Wd p l e R s m args below meth c Z a0 n0 kb ws y bytes ml ret T L cells slots) {pc : Nat} {Ls : Array Slot} {x y : Int64} {st : List Value} (hd : decode bytes pc = .ok (.lsub, 1)) (pc' : Nat) (hp : pc + 1 = pc')
    (k : Go p e below Z n0 kg E P T (mkF m pc' Ls (.long (x - y) :: st))) : Go p e below Z n0 kg E P T (mkF m pc Ls (.long y :: .long x :: st)) := by
  subst hp
  exact k.pre fun t q => XT.lsub w.here w.hx rfl (hb w.hby hd) rfl q
theorem g_lmul (w : Wd p l e R s m args below meth c Z a0 n0 kb ws y bytes ml ret T L cells slots) {pc : Nat} {Ls : Array Slot} {x y : Int64} {st : List Value} (hd : decode bytes pc = .ok (.lmul, 1)) (pc' : Nat) (hp : pc + 1 = pc')
    (k : Go p e below Z n0 kg E P T (mkF m pc' Ls (.long (x * y) :: st))) : Go p e below Z n0 kg E P T (mkF m pc Ls (.long y :: .long x :: st)) := by
  subst hp
  exact k.pre fun t q => XT.lmul w.here w.hx rfl (hb w.hby hd) rfl q
theorem g_land (w : Wd p l e R s m args below meth c Z a0 n0 kb ws y bytes ml ret T L cells slots) {pc : Nat} {Ls : Array Slot} {x y : Int64} {st : List Value} (hd : decode bytes pc = .ok (.land, 1)) (pc' : Nat) (hp : pc + 1 = pc')
    (k : Go p e below Z n0 kg E P T (mkF m pc' Ls (.long (x &&& y) :: st))) : Go p e below Z n0 kg E P T (mkF m pc Ls (.long y :: .long x :: st)) := by
  subst hp
  exact k.pre fun t q => XT.land w.here w.hx rfl (hb w.hby hd) rfl q
theorem g_lor (w : Wd p l e R s m args below meth c Z a0 n0 kb ws y bytes ml ret T L cells slots) {pc : Nat} {Ls : Array Slot} {x y : Int64} {st : List Value} (hd : decode bytes pc = .ok (.lor, 1)) (pc' : Nat) (hp : pc + 1 = pc')
    (k : Go p e below Z n0 kg E P T (mkF m pc' Ls (.long (x ||| y) :: st))) : Go p e below Z n0 kg E P T (mkF m pc Ls (.long y :: .long x :: st)) := by
  subst hp
  exact k.pre fun t q => XT.lor w.here w.hx rfl (hb w.hby hd) rfl q
theorem g_lxor (w : Wd p l e R s m args below meth c Z a0 n0 kb ws y bytes ml ret T L cells slots) {pc : Nat} {Ls : Array Slot} {x y : Int64} {st : List Value} (hd : decode bytes pc = .ok (.lxor, 1)) (pc' : Nat) (hp : pc + 1 = pc')
    (k : Go p e below Z n0 kg E P T (mkF m pc' Ls (.long (x ^^^ y) :: st))) : Go p e below Z n0 kg E P T (mkF m pc Ls (.long y :: .long x :: st)) := by
  subst hp
  exact k.pre fun t q => XT.lxor w.here w.hx rfl (hb w.hby hd) rfl q
theorem g_lshl (w : Wd p l e R s m args below meth c Z a0 n0 kb ws y bytes ml ret T L cells slots) {pc : Nat} {Ls : Array Slot} {x : Int64} {y : Int32} {st : List Value} (hd : decode bytes pc = .ok (.lshl, 1)) (pc' : Nat) (hp : pc + 1 = pc')
    (k : Go p e below Z n0 kg E P T (mkF m pc' Ls (.long (shlL x y) :: st))) : Go p e below Z n0 kg E P T (mkF m pc Ls (.int y :: .long x :: st)) := by
  subst hp
  exact k.pre fun t q => XS.lshl w.here w.hx rfl (hb w.hby hd) rfl q
theorem g_lshr (w : Wd p l e R s m args below meth c Z a0 n0 kb ws y bytes ml ret T L cells slots) {pc : Nat} {Ls : Array Slot} {x : Int64} {y : Int32} {st : List Value} (hd : decode bytes pc = .ok (.lshr, 1)) (pc' : Nat) (hp : pc + 1 = pc')
    (k : Go p e below Z n0 kg E P T (mkF m pc' Ls (.long (shrL x y) :: st))) : Go p e below Z n0 kg E P T (mkF m pc Ls (.int y :: .long x :: st)) := by
  subst hp
  exact k.pre fun t q => XS.lshr w.here w.hx rfl (hb w.hby hd) rfl q
theorem g_lushr (w : Wd p l e R s m args below meth c Z a0 n0 kb ws y bytes ml ret T L cells slots) {pc : Nat} {Ls : Array Slot} {x : Int64} {y : Int32} {st : List Value} (hd : decode bytes pc = .ok (.lushr, 1)) (pc' : Nat) (hp : pc + 1 = pc')
    (k : Go p e below Z n0 kg E P T (mkF m pc' Ls (.long (ushrL x y) :: st))) : Go p e below Z n0 kg E P T (mkF m pc Ls (.int y :: .long x :: st)) := by
  subst hp
  exact k.pre fun t q => XS.lushr w.here w.hx rfl (hb w.hby hd) rfl q
theorem g_lcmp (w : Wd p l e R s m args below meth c Z a0 n0 kb ws y bytes ml ret T L cells slots) {pc : Nat} {Ls : Array Slot} {x y : Int64} {st : List Value} (hd : decode bytes pc = .ok (.lcmp, 1)) (pc' : Nat) (hp : pc + 1 = pc')
    (k : Go p e below Z n0 kg E P T (mkF m pc' Ls (.int (XT.cmpL x y) :: st))) : Go p e below Z n0 kg E P T (mkF m pc Ls (.long y :: .long x :: st)) := by
  subst hp
  exact k.pre fun t q => XT.lcmp w.here w.hx rfl (hb w.hby hd) rfl q
theorem g_idiv (w : Wd p l e R s m args below meth c Z a0 n0 kb ws y bytes ml ret T L cells slots) {pc : Nat} {Ls : Array Slot} {x y : Int32} {st : List Value} (hd : decode bytes pc = .ok (.idiv, 1)) (hy : y ≠ 0) (pc' : Nat) (hp : pc + 1 = pc')
    (k : Go p e below Z n0 kg E P T (mkF m pc' Ls (.int (x / y) :: st))) : Go p e below Z n0 kg E P T (mkF m pc Ls (.int y :: .int x :: st)) := by
  subst hp
  exact k.pre fun t q => XS.idiv w.here w.hx rfl (hb w.hby hd) rfl hy q
theorem g_ldiv (w : Wd p l e R s m args below meth c Z a0 n0 kb ws y bytes ml ret T L cells slots) {pc : Nat} {Ls : Array Slot} {x y : Int64} {st : List Value} (hd : decode bytes pc = .ok (.ldiv, 1)) (hy : y ≠ 0) (pc' : Nat) (hp : pc + 1 = pc')
    (k : Go p e below Z n0 kg E P T (mkF m pc' Ls (.long (x / y) :: st))) : Go p e below Z n0 kg E P T (mkF m pc Ls (.long y :: .long x :: st)) := by
  subst hp
  exact k.pre fun t q => XT.ldiv w.here w.hx rfl (hb w.hby hd) rfl hy q
theorem g_irem (w : Wd p l e R s m args below meth c Z a0 n0 kb ws y bytes ml ret T L cells slots) {pc : Nat} {Ls : Array Slot} {x y : Int32} {st : List Value} (hd : decode bytes pc = .ok (.irem, 1)) (hy : y ≠ 0) (pc' : Nat) (hp : pc + 1 = pc')
    (k : Go p e below Z n0 kg E P T (mkF m pc' Ls (.int (x % y) :: st))) : Go p e below Z n0 kg E P T (mkF m pc Ls (.int y :: .int x :: st)) := by
  subst hp
  exact k.pre fun t q => XS.irem w.here w.hx rfl (hb w.hby hd) rfl hy (by rw [irem_eq_mod]; exact q)
theorem g_lrem (w : Wd p l e R s m args below meth c Z a0 n0 kb ws y bytes ml ret T L cells slots) {pc : Nat} {Ls : Array Slot} {x y : Int64} {st : List Value} (hd : decode bytes pc = .ok (.lrem, 1)) (hy : y ≠ 0) (pc' : Nat) (hp : pc + 1 = pc')
    (k : Go p e below Z n0 kg E P T (mkF m pc' Ls (.long (x % y) :: st))) : Go p e below Z n0 kg E P T (mkF m pc Ls (.long y :: .long x :: st)) := by
  subst hp
  exact k.pre fun t q => XT.lrem w.here w.hx rfl (hb w.hby hd) rfl hy (by rw [lrem_mod]; exact q)
theorem g_ineg (w : Wd p l e R s m args below meth c Z a0 n0 kb ws y bytes ml ret T L cells slots) {pc : Nat} {Ls : Array Slot} {x : Int32} {st : List Value} (hd : decode bytes pc = .ok (.ineg, 1)) (pc' : Nat) (hp : pc + 1 = pc')
    (k : Go p e below Z n0 kg E P T (mkF m pc' Ls (.int (-x) :: st))) : Go p e below Z n0 kg E P T (mkF m pc Ls (.int x :: st)) := by
  subst hp
  exact k.pre fun t q => XS.ineg w.here w.hx rfl (hb w.hby hd) rfl q
theorem g_lneg (w : Wd p l e R s m args below meth c Z a0 n0 kb ws y bytes ml ret T L cells slots) {pc : Nat} {Ls : Array Slot} {x : Int64} {st : List Value} (hd : decode bytes pc = .ok (.lneg, 1)) (pc' : Nat) (hp : pc + 1 = pc')
    (k : Go p e below Z n0 kg E P T (mkF m pc' Ls (.long (-x) :: st))) : Go p e below Z n0 kg E P T (mkF m pc Ls (.long x :: st)) := by
  subst hp
  exact k.pre fun t q => XT.lneg w.here w.hx rfl (hb w.hby hd) rfl q
theorem g_i2l (w : Wd p l e R s m args below meth c Z a0 n0 kb ws y bytes ml ret T L cells slots) {pc : Nat} {Ls : Array Slot} {x : Int32} {st : List Value} (hd : decode bytes pc = .ok (.i2l, 1)) (pc' : Nat) (hp : pc + 1 = pc')
    (k : Go p e below Z n0 kg E P T (mkF m pc' Ls (.long (x.toInt64) :: st))) : Go p e below Z n0 kg E P T (mkF m pc Ls (.int x :: st)) := by
  subst hp
  exact k.pre fun t q => XT.i2l w.here w.hx rfl (hb w.hby hd) rfl q
theorem g_l2i (w : Wd p l e R s m args below meth c Z a0 n0 kb ws y bytes ml ret T L cells slots) {pc : Nat} {Ls : Array Slot} {x : Int64} {st : List Value} (hd : decode bytes pc = .ok (.l2i, 1)) (pc' : Nat) (hp : pc + 1 = pc')
    (k : Go p e below Z n0 kg E P T (mkF m pc' Ls (.int (x.toInt32) :: st))) : Go p e below Z n0 kg E P T (mkF m pc Ls (.long x :: st)) := by
  subst hp
  exact k.pre fun t q => XT.l2i w.here w.hx rfl (hb w.hby hd) rfl q
theorem g_i2b (w : Wd p l e R s m args below meth c Z a0 n0 kb ws y bytes ml ret T L cells slots) {pc : Nat} {Ls : Array Slot} {x : Int32} {st : List Value} (hd : decode bytes pc = .ok (.i2b, 1)) (pc' : Nat) (hp : pc + 1 = pc')
    (k : Go p e below Z n0 kg E P T (mkF m pc' Ls (.int (x.toInt8.toInt32) :: st))) : Go p e below Z n0 kg E P T (mkF m pc Ls (.int x :: st)) := by
  subst hp
  exact k.pre fun t q => XT.i2b w.here w.hx rfl (hb w.hby hd) rfl q
theorem g_i2c (w : Wd p l e R s m args below meth c Z a0 n0 kb ws y bytes ml ret T L cells slots) {pc : Nat} {Ls : Array Slot} {x : Int32} {st : List Value} (hd : decode bytes pc = .ok (.i2c, 1)) (pc' : Nat) (hp : pc + 1 = pc')
    (k : Go p e below Z n0 kg E P T (mkF m pc' Ls (.int (x.toUInt32.toUInt16.toUInt32.toInt32) :: st))) : Go p e below Z n0 kg E P T (mkF m pc Ls (.int x :: st)) := by
  subst hp
  exact k.pre fun t q => XT.i2c w.here w.hx rfl (hb w.hby hd) rfl q
theorem g_i2s (w : Wd p l e R s m args below meth c Z a0 n0 kb ws y bytes ml ret T L cells slots) {pc : Nat} {Ls : Array Slot} {x : Int32} {st : List Value} (hd : decode bytes pc = .ok (.i2s, 1)) (pc' : Nat) (hp : pc + 1 = pc')
    (k : Go p e below Z n0 kg E P T (mkF m pc' Ls (.int (x.toInt16.toInt32) :: st))) : Go p e below Z n0 kg E P T (mkF m pc Ls (.int x :: st)) := by
  subst hp
  exact k.pre fun t q => XT.i2s w.here w.hx rfl (hb w.hby hd) rfl q
theorem g_iload (w : Wd p l e R s m args below meth c Z a0 n0 kb ws y bytes ml ret T L cells slots) {pc : Nat} {Ls : Array Slot} {i : Nat} {v : Int32} {st : List Value} (hd : decode bytes pc = .ok (.iload i, 2)) (hl : Ls[i]? = some (.val (.int v))) (pc' : Nat) (hp : pc + 2 = pc')
    (k : Go p e below Z n0 kg E P T (mkF m pc' Ls (.int v :: st))) : Go p e below Z n0 kg E P T (mkF m pc Ls (st)) := by
  subst hp
  exact k.pre fun t q => XS.iload w.here w.hx rfl (hb w.hby hd) hl q
theorem g_iloadN (w : Wd p l e R s m args below meth c Z a0 n0 kb ws y bytes ml ret T L cells slots) {pc : Nat} {Ls : Array Slot} {i : Fin 4} {v : Int32} {st : List Value} (hd : decode bytes pc = .ok (.iload_n i, 1)) (hl : Ls[i.val]? = some (.val (.int v))) (pc' : Nat) (hp : pc + 1 = pc')
    (k : Go p e below Z n0 kg E P T (mkF m pc' Ls (.int v :: st))) : Go p e below Z n0 kg E P T (mkF m pc Ls (st)) := by
  subst hp
  exact k.pre fun t q => XS.iloadN w.here w.hx rfl (hb w.hby hd) hl q
theorem g_lload (w : Wd p l e R s m args below meth c Z a0 n0 kb ws y bytes ml ret T L cells slots) {pc : Nat} {Ls : Array Slot} {i : Nat} {v : Int64} {st : List Value} (hd : decode bytes pc = .ok (.lload i, 2)) (hl : Ls[i]? = some (.val (.long v))) (pc' : Nat) (hp : pc + 2 = pc')
    (k : Go p e below Z n0 kg E P T (mkF m pc' Ls (.long v :: st))) : Go p e below Z n0 kg E P T (mkF m pc Ls (st)) := by
  subst hp
  exact k.pre fun t q => XT.lload w.here w.hx rfl (hb w.hby hd) hl q
theorem g_lloadN (w : Wd p l e R s m args below meth c Z a0 n0 kb ws y bytes ml ret T L cells slots) {pc : Nat} {Ls : Array Slot} {i : Fin 4} {v : Int64} {st : List Value} (hd : decode bytes pc = .ok (.lload_n i, 1)) (hl : Ls[i.val]? = some (.val (.long v))) (pc' : Nat) (hp : pc + 1 = pc')
    (k : Go p e below Z n0 kg E P T (mkF m pc' Ls (.long v :: st))) : Go p e below Z n0 kg E P T (mkF m pc Ls (st)) := by
  subst hp
  exact k.pre fun t q => XT.lloadN w.here w.hx rfl (hb w.hby hd) hl q
theorem g_aload (w : Wd p l e R s m args below meth c Z a0 n0 kb ws y bytes ml ret T L cells slots) {pc : Nat} {Ls : Array Slot} {i : Nat} {v : Value} {st : List Value} (hd : decode bytes pc = .ok (.aload i, 2)) (hl : Ls[i]? = some (.val v)) (hv : v.isRef = true) (pc' : Nat) (hp : pc + 2 = pc')
    (k : Go p e below Z n0 kg E P T (mkF m pc' Ls (v :: st))) : Go p e below Z n0 kg E P T (mkF m pc Ls (st)) := by
  subst hp
  exact k.pre fun t q => XS.aload w.here w.hx rfl (hb w.hby hd) hl hv q
theorem g_aloadN (w : Wd p l e R s m args below meth c Z a0 n0 kb ws y bytes ml ret T L cells slots) {pc : Nat} {Ls : Array Slot} {i : Fin 4} {v : Value} {st : List Value} (hd : decode bytes pc = .ok (.aload_n i, 1)) (hl : Ls[i.val]? = some (.val v)) (hv : v.isRef = true) (pc' : Nat) (hp : pc + 1 = pc')
    (k : Go p e below Z n0 kg E P T (mkF m pc' Ls (v :: st))) : Go p e below Z n0 kg E P T (mkF m pc Ls (st)) := by
  subst hp
  exact k.pre fun t q => XS.aloadN w.here w.hx rfl (hb w.hby hd) hl hv q
theorem g_iconst (w : Wd p l e R s m args below meth c Z a0 n0 kb ws y bytes ml ret T L cells slots) {pc : Nat} {Ls : Array Slot} {i : Int} {st : List Value} (hd : decode bytes pc = .ok (.iconst i, 1)) (z : Int32) (hz : Int32.ofInt i = z) (pc' : Nat) (hp : pc + 1 = pc')
    (k : Go p e below Z n0 kg E P T (mkF m pc' Ls (.int z :: st))) : Go p e below Z n0 kg E P T (mkF m pc Ls (st)) := by
  subst hp
  exact k.pre fun t q => XS.iconst w.here w.hx rfl (hb w.hby hd) (by rw [hz]; exact q)
theorem g_bipush (w : Wd p l e R s m args below meth c Z a0 n0 kb ws y bytes ml ret T L cells slots) {pc : Nat} {Ls : Array Slot} {i : Int} {st : List Value} (hd : decode bytes pc = .ok (.bipush i, 2)) (z : Int32) (hz : (Int8.ofInt i).toInt32 = z) (pc' : Nat) (hp : pc + 2 = pc')
    (k : Go p e below Z n0 kg E P T (mkF m pc' Ls (.int z :: st))) : Go p e below Z n0 kg E P T (mkF m pc Ls (st)) := by
  subst hp
  exact k.pre fun t q => XS.bipush w.here w.hx rfl (hb w.hby hd) (by rw [hz]; exact q)
theorem g_sipush (w : Wd p l e R s m args below meth c Z a0 n0 kb ws y bytes ml ret T L cells slots) {pc : Nat} {Ls : Array Slot} {i : Int} {st : List Value} (hd : decode bytes pc = .ok (.sipush i, 3)) (z : Int32) (hz : (Int16.ofInt i).toInt32 = z) (pc' : Nat) (hp : pc + 3 = pc')
    (k : Go p e below Z n0 kg E P T (mkF m pc' Ls (.int z :: st))) : Go p e below Z n0 kg E P T (mkF m pc Ls (st)) := by
  subst hp
  exact k.pre fun t q => XS.sipush w.here w.hx rfl (hb w.hby hd) (by rw [hz]; exact q)
theorem g_lconst (w : Wd p l e R s m args below meth c Z a0 n0 kb ws y bytes ml ret T L cells slots) {pc : Nat} {Ls : Array Slot} {i : Fin 2} {st : List Value} (hd : decode bytes pc = .ok (.lconst i, 1)) (z : Int64) (hz : Int64.ofNat i = z) (pc' : Nat) (hp : pc + 1 = pc')
    (k : Go p e below Z n0 kg E P T (mkF m pc' Ls (.long z :: st))) : Go p e below Z n0 kg E P T (mkF m pc Ls (st)) := by
  subst hp
  exact k.pre fun t q => XT.lconst w.here w.hx rfl (hb w.hby hd) (by rw [hz]; exact q)
theorem g_anull (w : Wd p l e R s m args below meth c Z a0 n0 kb ws y bytes ml ret T L cells slots) {pc : Nat} {Ls : Array Slot} {st : List Value} (hd : decode bytes pc = .ok (.aconst_null, 1)) (pc' : Nat) (hp : pc + 1 = pc')
    (k : Go p e below Z n0 kg E P T (mkF m pc' Ls (.null :: st))) : Go p e below Z n0 kg E P T (mkF m pc Ls (st)) := by
  subst hp
  exact k.pre fun t q => XS.aconstNull w.here w.hx rfl (hb w.hby hd) q
theorem g_dup (w : Wd p l e R s m args below meth c Z a0 n0 kb ws y bytes ml ret T L cells slots) {pc : Nat} {Ls : Array Slot} {x : Value} {st : List Value} (hd : decode bytes pc = .ok (.dup, 1)) (hc : x.category = 1) (pc' : Nat) (hp : pc + 1 = pc')
    (k : Go p e below Z n0 kg E P T (mkF m pc' Ls (x :: x :: st))) : Go p e below Z n0 kg E P T (mkF m pc Ls (x :: st)) := by
  subst hp
  exact k.pre fun t q => XS.dup w.here w.hx rfl (hb w.hby hd) rfl hc q
theorem g_pop (w : Wd p l e R s m args below meth c Z a0 n0 kb ws y bytes ml ret T L cells slots) {pc : Nat} {Ls : Array Slot} {x : Value} {st : List Value} (hd : decode bytes pc = .ok (.pop, 1)) (hc : x.category = 1) (pc' : Nat) (hp : pc + 1 = pc')
    (k : Go p e below Z n0 kg E P T (mkF m pc' Ls (st))) : Go p e below Z n0 kg E P T (mkF m pc Ls (x :: st)) := by
  subst hp
  exact k.pre fun t q => XT.pop w.here w.hx rfl (hb w.hby hd) rfl hc q
theorem g_dup_x1 (w : Wd p l e R s m args below meth c Z a0 n0 kb ws y bytes ml ret T L cells slots) {pc : Nat} {Ls : Array Slot} {x x' : Value} {st : List Value} (hd : decode bytes pc = .ok (.dup_x1, 1)) (hc : x.category = 1) (hc' : x'.category = 1) (pc' : Nat) (hp : pc + 1 = pc')
    (k : Go p e below Z n0 kg E P T (mkF m pc' Ls (x :: x' :: x :: st))) : Go p e below Z n0 kg E P T (mkF m pc Ls (x :: x' :: st)) := by
  subst hp
  exact k.pre fun t q => XT.dupX1 w.here w.hx rfl (hb w.hby hd) rfl hc hc' q
theorem g_dup2 (w : Wd p l e R s m args below meth c Z a0 n0 kb ws y bytes ml ret T L cells slots) {pc : Nat} {Ls : Array Slot} {x x' : Value} {st : List Value} (hd : decode bytes pc = .ok (.dup2, 1)) (hc : x.category = 1) (hc' : x'.category = 1) (pc' : Nat) (hp : pc + 1 = pc')
    (k : Go p e below Z n0 kg E P T (mkF m pc' Ls (x :: x' :: x :: x' :: st))) : Go p e below Z n0 kg E P T (mkF m pc Ls (x :: x' :: st)) := by
  subst hp
  exact k.pre fun t q => XT.dup2 w.here w.hx rfl (hb w.hby hd) rfl hc hc' q
theorem g_istore (w : Wd p l e R s m args below meth c Z a0 n0 kb ws y bytes ml ret T L cells slots) {pc : Nat} {Ls : Array Slot} {i : Nat} {x x' : Int32} {st : List Value} (hd : decode bytes pc = .ok (.istore i, 2)) (pc' : Nat) (hp : pc + 2 = pc') (e1 : x = x') (Ls' : Array Slot) (hl : storeLocals Ls i (.int x') = some Ls')
    (k : Go p e below Z n0 kg E P T (mkF m pc' Ls' st)) : Go p e below Z n0 kg E P T (mkF m pc Ls (.int x :: st)) := by
  subst hp e1
  exact k.pre fun t q => XS.istore w.here w.hx rfl (hb w.hby hd) rfl hl q
theorem g_istoreN (w : Wd p l e R s m args below meth c Z a0 n0 kb ws y bytes ml ret T L cells slots) {pc : Nat} {Ls : Array Slot} {i : Fin 4} {x x' : Int32} {st : List Value} (hd : decode bytes pc = .ok (.istore_n i, 1)) (pc' : Nat) (hp : pc + 1 = pc') (e1 : x = x') (Ls' : Array Slot) (hl : storeLocals Ls i.val (.int x') = some Ls')
    (k : Go p e below Z n0 kg E P T (mkF m pc' Ls' st)) : Go p e below Z n0 kg E P T (mkF m pc Ls (.int x :: st)) := by
  subst hp e1
  exact k.pre fun t q => XS.istoreN w.here w.hx rfl (hb w.hby hd) rfl hl q
theorem g_lstore (w : Wd p l e R s m args below meth c Z a0 n0 kb ws y bytes ml ret T L cells slots) {pc : Nat} {Ls : Array Slot} {i : Nat} {x x' : Int64} {st : List Value} (hd : decode bytes pc = .ok (.lstore i, 2)) (pc' : Nat) (hp : pc + 2 = pc') (e1 : x = x') (Ls' : Array Slot) (hl : storeLocals Ls i (.long x') = some Ls')
    (k : Go p e below Z n0 kg E P T (mkF m pc' Ls' st)) : Go p e below Z n0 kg E P T (mkF m pc Ls (.long x :: st)) := by
  subst hp e1
  exact k.pre fun t q => XT.lstore w.here w.hx rfl (hb w.hby hd) rfl hl q
theorem g_lstoreN (w : Wd p l e R s m args below meth c Z a0 n0 kb ws y bytes ml ret T L cells slots) {pc : Nat} {Ls : Array Slot} {i : Fin 4} {x x' : Int64} {st : List Value} (hd : decode bytes pc = .ok (.lstore_n i, 1)) (pc' : Nat) (hp : pc + 1 = pc') (e1 : x = x') (Ls' : Array Slot) (hl : storeLocals Ls i.val (.long x') = some Ls')
    (k : Go p e below Z n0 kg E P T (mkF m pc' Ls' st)) : Go p e below Z n0 kg E P T (mkF m pc Ls (.long x :: st)) := by
  subst hp e1
  exact k.pre fun t q => XT.lstoreN w.here w.hx rfl (hb w.hby hd) rfl hl q
theorem g_astore (w : Wd p l e R s m args below meth c Z a0 n0 kb ws y bytes ml ret T L cells slots) {pc : Nat} {Ls : Array Slot} {i : Nat} {x : Value} {st : List Value} (hd : decode bytes pc = .ok (.astore i, 2)) (pc' : Nat) (hp : pc + 2 = pc') (hv : x.isRef = true) (Ls' : Array Slot) (hl : storeLocals Ls i x = some Ls')
    (k : Go p e below Z n0 kg E P T (mkF m pc' Ls' st)) : Go p e below Z n0 kg E P T (mkF m pc Ls (x :: st)) := by
  subst hp
  exact k.pre fun t q => XS.astore w.here w.hx rfl (hb w.hby hd) rfl hv hl q
theorem g_astoreN (w : Wd p l e R s m args below meth c Z a0 n0 kb ws y bytes ml ret T L cells slots) {pc : Nat} {Ls : Array Slot} {i : Fin 4} {x : Value} {st : List Value} (hd : decode bytes pc = .ok (.astore_n i, 1)) (pc' : Nat) (hp : pc + 1 = pc') (hv : x.isRef = true) (Ls' : Array Slot) (hl : storeLocals Ls i.val x = some Ls')
    (k : Go p e below Z n0 kg E P T (mkF m pc' Ls' st)) : Go p e below Z n0 kg E P T (mkF m pc Ls (x :: st)) := by
  subst hp
  exact k.pre fun t q => XS.astoreN w.here w.hx rfl (hb w.hby hd) rfl hv hl q
theorem g_iinc (w : Wd p l e R s m args below meth c Z a0 n0 kb ws y bytes ml ret T L cells slots) {pc : Nat} {Ls : Array Slot} {i : Nat} {cst : Int} {x x' : Int32} {st : List Value} (hd : decode bytes pc = .ok (.iinc i cst, 3)) (pc' : Nat) (hp : pc + 3 = pc') (hl0 : Ls[i]? = some (.val (.int x))) (e1 : x + Int32.ofInt cst = x') (Ls' : Array Slot) (hl : storeLocals Ls i (.int x') = some Ls')
    (k : Go p e below Z n0 kg E P T (mkF m pc' Ls' st)) : Go p e below Z n0 kg E P T (mkF m pc Ls st) := by
  subst hp e1
  exact k.pre fun t q => XS.iinc w.here w.hx rfl (hb w.hby hd) hl0 hl q
theorem g_goto (w : Wd p l e R s m args below meth c Z a0 n0 kb ws y bytes ml ret T L cells slots) {pc : Nat} {Ls : Array Slot} {o : Int} {st : List Value} (hd : decode bytes pc = .ok (.goto o, 3)) (pc' : Nat) (ho : 0 ≤ (pc : Int) + o) (hp : ((pc : Int) + o).toNat = pc')
    (k : Go p e below Z n0 kg E P T (mkF m pc' Ls st)) : Go p e below Z n0 kg E P T (mkF m pc Ls st) := k.pre fun t q => XS.goto w.here w.hx rfl rfl (hb w.hby hd) ho hp q
theorem g_icmp_eq (w : Wd p l e R s m args below meth c Z a0 n0 kb ws y bytes ml ret T L cells slots) {pc : Nat} {Ls : Array Slot} {x y' : Int32} {o : Int} {st : List Value} (hd : decode bytes pc = .ok (.if_icmp .eq o, 3)) (pcT : Nat) (ho : 0 ≤ (pc : Int) + o) (hT : ((pc : Int) + o).toNat = pcT) (pcF : Nat) (hF : pc + 3 = pcF)
    (k1 : x = y' → Go p e below Z n0 kg E P T (mkF m pcT Ls st)) (k2 : ¬ x = y' → Go p e below Z n0 kg E P T (mkF m pcF Ls st)) : Go p e below Z n0 kg E P T (mkF m pc Ls (.int y' :: .int x :: st)) := by
  subst hF
  by_cases h : x = y'
  · exact (k1 h).pre fun t q => XS.icmpYes w.here w.hx rfl rfl (hb w.hby hd) rfl (XT.ii_eq_t h) ho hT q
  · exact (k2 h).pre fun t q => XS.icmpNo w.here w.hx rfl (hb w.hby hd) rfl (XT.ii_eq_f h) q
theorem g_if_eq (w : Wd p l e R s m args below meth c Z a0 n0 kb ws y bytes ml ret T L cells slots) {pc : Nat} {Ls : Array Slot} {x : Int32} {o : Int} {st : List Value} (hd : decode bytes pc = .ok (.ifCond .eq o, 3)) (pcT : Nat) (ho : 0 ≤ (pc : Int) + o) (hT : ((pc : Int) + o).toNat = pcT) (pcF : Nat) (hF : pc + 3 = pcF)
    (k1 : x = 0 → Go p e below Z n0 kg E P T (mkF m pcT Ls st)) (k2 : ¬ x = 0 → Go p e below Z n0 kg E P T (mkF m pcF Ls st)) : Go p e below Z n0 kg E P T (mkF m pc Ls (.int x :: st)) := by
  subst hF
  by_cases h : x = 0
  · exact (k1 h).pre fun t q => XS.ifYes w.here w.hx rfl rfl (hb w.hby hd) rfl (XT.i0_eq_t h) ho hT q
  · exact (k2 h).pre fun t q => XS.ifNo w.here w.hx rfl (hb w.hby hd) rfl (XT.i0_eq_f h) q
theorem g_lif_eq (w : Wd p l e R s m args below meth c Z a0 n0 kb ws y bytes ml ret T L cells slots) {pc : Nat} {Ls : Array Slot} {x y' : Int64} {o : Int} {st : List Value} (hd : decode bytes pc = .ok (.ifCond .eq o, 3)) (pcT : Nat) (ho : 0 ≤ (pc : Int) + o) (hT : ((pc : Int) + o).toNat = pcT) (pcF : Nat) (hF : pc + 3 = pcF)
    (k1 : x = y' → Go p e below Z n0 kg E P T (mkF m pcT Ls st)) (k2 : ¬ x = y' → Go p e below Z n0 kg E P T (mkF m pcF Ls st)) : Go p e below Z n0 kg E P T (mkF m pc Ls (.int (XT.cmpL x y') :: st)) := by
  subst hF
  by_cases h : x = y'
  · exact (k1 h).pre fun t q => XS.ifYes w.here w.hx rfl rfl (hb w.hby hd) rfl (XT.ll_eq_t h) ho hT q
  · exact (k2 h).pre fun t q => XS.ifNo w.here w.hx rfl (hb w.hby hd) rfl (XT.ll_eq_f h) q
theorem g_icmp_ne (w : Wd p l e R s m args below meth c Z a0 n0 kb ws y bytes ml ret T L cells slots) {pc : Nat} {Ls : Array Slot} {x y' : Int32} {o : Int} {st : List Value} (hd : decode bytes pc = .ok (.if_icmp .ne o, 3)) (pcT : Nat) (ho : 0 ≤ (pc : Int) + o) (hT : ((pc : Int) + o).toNat = pcT) (pcF : Nat) (hF : pc + 3 = pcF)
    (k1 : ¬ x = y' → Go p e below Z n0 kg E P T (mkF m pcT Ls st)) (k2 : x = y' → Go p e below Z n0 kg E P T (mkF m pcF Ls st)) : Go p e below Z n0 kg E P T (mkF m pc Ls (.int y' :: .int x :: st)) := by
  subst hF
  by_cases h : x = y'
  · exact (k2 h).pre fun t q => XS.icmpNo w.here w.hx rfl (hb w.hby hd) rfl (XT.ii_ne_f h) q
  · exact (k1 h).pre fun t q => XS.icmpYes w.here w.hx rfl rfl (hb w.hby hd) rfl (XT.ii_ne_t h) ho hT q
theorem g_if_ne (w : Wd p l e R s m args below meth c Z a0 n0 kb ws y bytes ml ret T L cells slots) {pc : Nat} {Ls : Array Slot} {x : Int32} {o : Int} {st : List Value} (hd : decode bytes pc = .ok (.ifCond .ne o, 3)) (pcT : Nat) (ho : 0 ≤ (pc : Int) + o) (hT : ((pc : Int) + o).toNat = pcT) (pcF : Nat) (hF : pc + 3 = pcF)
    (k1 : ¬ x = 0 → Go p e below Z n0 kg E P T (mkF m pcT Ls st)) (k2 : x = 0 → Go p e below Z n0 kg E P T (mkF m pcF Ls st)) : Go p e below Z n0 kg E P T (mkF m pc Ls (.int x :: st)) := by
  subst hF
  by_cases h : x = 0
  · exact (k2 h).pre fun t q => XS.ifNo w.here w.hx rfl (hb w.hby hd) rfl (XT.i0_ne_f h) q
  · exact (k1 h).pre fun t q => XS.ifYes w.here w.hx rfl rfl (hb w.hby hd) rfl (XT.i0_ne_t h) ho hT q
theorem g_lif_ne (w : Wd p l e R s m args below meth c Z a0 n0 kb ws y bytes ml ret T L cells slots) {pc : Nat} {Ls : Array Slot} {x y' : Int64} {o : Int} {st : List Value} (hd : decode bytes pc = .ok (.ifCond .ne o, 3)) (pcT : Nat) (ho : 0 ≤ (pc : Int) + o) (hT : ((pc : Int) + o).toNat = pcT) (pcF : Nat) (hF : pc + 3 = pcF)
    (k1 : ¬ x = y' → Go p e below Z n0 kg E P T (mkF m pcT Ls st)) (k2 : x = y' → Go p e below Z n0 kg E P T (mkF m pcF Ls st)) : Go p e below Z n0 kg E P T (mkF m pc Ls (.int (XT.cmpL x y') :: st)) := by
  subst hF
  by_cases h : x = y'
  · exact (k2 h).pre fun t q => XS.ifNo w.here w.hx rfl (hb w.hby hd) rfl (XT.ll_ne_f h) q
  · exact (k1 h).pre fun t q => XS.ifYes w.here w.hx rfl rfl (hb w.hby hd) rfl (XT.ll_ne_t h) ho hT q
theorem g_icmp_lt (w : Wd p l e R s m args below meth c Z a0 n0 kb ws y bytes ml ret T L cells slots) {pc : Nat} {Ls : Array Slot} {x y' : Int32} {o : Int} {st : List Value} (hd : decode bytes pc = .ok (.if_icmp .lt o, 3)) (pcT : Nat) (ho : 0 ≤ (pc : Int) + o) (hT : ((pc : Int) + o).toNat = pcT) (pcF : Nat) (hF : pc + 3 = pcF)
    (k1 : x < y' → Go p e below Z n0 kg E P T (mkF m pcT Ls st)) (k2 : ¬ x < y' → Go p e below Z n0 kg E P T (mkF m pcF Ls st)) : Go p e below Z n0 kg E P T (mkF m pc Ls (.int y' :: .int x :: st)) := by
  subst hF
  by_cases h : x < y'
  · exact (k1 h).pre fun t q => XS.icmpYes w.here w.hx rfl rfl (hb w.hby hd) rfl (XT.ii_lt_t h) ho hT q
  · exact (k2 h).pre fun t q => XS.icmpNo w.here w.hx rfl (hb w.hby hd) rfl (XT.ii_lt_f h) q
theorem g_if_lt (w : Wd p l e R s m args below meth c Z a0 n0 kb ws y bytes ml ret T L cells slots) {pc : Nat} {Ls : Array Slot} {x : Int32} {o : Int} {st : List Value} (hd : decode bytes pc = .ok (.ifCond .lt o, 3)) (pcT : Nat) (ho : 0 ≤ (pc : Int) + o) (hT : ((pc : Int) + o).toNat = pcT) (pcF : Nat) (hF : pc + 3 = pcF)
    (k1 : x < 0 → Go p e below Z n0 kg E P T (mkF m pcT Ls st)) (k2 : ¬ x < 0 → Go p e below Z n0 kg E P T (mkF m pcF Ls st)) : Go p e below Z n0 kg E P T (mkF m pc Ls (.int x :: st)) := by
  subst hF
  by_cases h : x < 0
  · exact (k1 h).pre fun t q => XS.ifYes w.here w.hx rfl rfl (hb w.hby hd) rfl (XT.i0_lt_t h) ho hT q
  · exact (k2 h).pre fun t q => XS.ifNo w.here w.hx rfl (hb w.hby hd) rfl (XT.i0_lt_f h) q
theorem g_lif_lt (w : Wd p l e R s m args below meth c Z a0 n0 kb ws y bytes ml ret T L cells slots) {pc : Nat} {Ls : Array Slot} {x y' : Int64} {o : Int} {st : List Value} (hd : decode bytes pc = .ok (.ifCond .lt o, 3)) (pcT : Nat) (ho : 0 ≤ (pc : Int) + o) (hT : ((pc : Int) + o).toNat = pcT) (pcF : Nat) (hF : pc + 3 = pcF)
    (k1 : x < y' → Go p e below Z n0 kg E P T (mkF m pcT Ls st)) (k2 : ¬ x < y' → Go p e below Z n0 kg E P T (mkF m pcF Ls st)) : Go p e below Z n0 kg E P T (mkF m pc Ls (.int (XT.cmpL x y') :: st)) := by
  subst hF
  by_cases h : x < y'
  · exact (k1 h).pre fun t q => XS.ifYes w.here w.hx rfl rfl (hb w.hby hd) rfl (XT.ll_lt_t h) ho hT q
  · exact (k2 h).pre fun t q => XS.ifNo w.here w.hx rfl (hb w.hby hd) rfl (XT.ll_lt_f h) q
theorem g_icmp_ge (w : Wd p l e R s m args below meth c Z a0 n0 kb ws y bytes ml ret T L cells slots) {pc : Nat} {Ls : Array Slot} {x y' : Int32} {o : Int} {st : List Value} (hd : decode bytes pc = .ok (.if_icmp .ge o, 3)) (pcT : Nat) (ho : 0 ≤ (pc : Int) + o) (hT : ((pc : Int) + o).toNat = pcT) (pcF : Nat) (hF : pc + 3 = pcF)
    (k1 : ¬ x < y' → Go p e below Z n0 kg E P T (mkF m pcT Ls st)) (k2 : x < y' → Go p e below Z n0 kg E P T (mkF m pcF Ls st)) : Go p e below Z n0 kg E P T (mkF m pc Ls (.int y' :: .int x :: st)) := by
  subst hF
  by_cases h : x < y'
  · exact (k2 h).pre fun t q => XS.icmpNo w.here w.hx rfl (hb w.hby hd) rfl (XT.ii_ge_f h) q
  · exact (k1 h).pre fun t q => XS.icmpYes w.here w.hx rfl rfl (hb w.hby hd) rfl (XT.ii_ge_t h) ho hT q
theorem g_if_ge (w : Wd p l e R s m args below meth c Z a0 n0 kb ws y bytes ml ret T L cells slots) {pc : Nat} {Ls : Array Slot} {x : Int32} {o : Int} {st : List Value} (hd : decode bytes pc = .ok (.ifCond .ge o, 3)) (pcT : Nat) (ho : 0 ≤ (pc : Int) + o) (hT : ((pc : Int) + o).toNat = pcT) (pcF : Nat) (hF : pc + 3 = pcF)
    (k1 : ¬ x < 0 → Go p e below Z n0 kg E P T (mkF m pcT Ls st)) (k2 : x < 0 → Go p e below Z n0 kg E P T (mkF m pcF Ls st)) : Go p e below Z n0 kg E P T (mkF m pc Ls (.int x :: st)) := by
  subst hF
  by_cases h : x < 0
  · exact (k2 h).pre fun t q => XS.ifNo w.here w.hx rfl (hb w.hby hd) rfl (XT.i0_ge_f h) q
  · exact (k1 h).pre fun t q => XS.ifYes w.here w.hx rfl rfl (hb w.hby hd) rfl (XT.i0_ge_t h) ho hT q
theorem g_lif_ge (w : Wd p l e R s m args below meth c Z a0 n0 kb ws y bytes ml ret T L cells slots) {pc : Nat} {Ls : Array Slot} {x y' : Int64} {o : Int} {st : List Value} (hd : decode bytes pc = .ok (.ifCond .ge o, 3)) (pcT : Nat) (ho : 0 ≤ (pc : Int) + o) (hT : ((pc : Int) + o).toNat = pcT) (pcF : Nat) (hF : pc + 3 = pcF)
    (k1 : ¬ x < y' → Go p e below Z n0 kg E P T (mkF m pcT Ls st)) (k2 : x < y' → Go p e below Z n0 kg E P T (mkF m pcF Ls st)) : Go p e below Z n0 kg E P T (mkF m pc Ls (.int (XT.cmpL x y') :: st)) := by
  subst hF
  by_cases h : x < y'
  · exact (k2 h).pre fun t q => XS.ifNo w.here w.hx rfl (hb w.hby hd) rfl (XT.ll_ge_f h) q
  · exact (k1 h).pre fun t q => XS.ifYes w.here w.hx rfl rfl (hb w.hby hd) rfl (XT.ll_ge_t h) ho hT q
theorem g_icmp_gt (w : Wd p l e R s m args below meth c Z a0 n0 kb ws y bytes ml ret T L cells slots) {pc : Nat} {Ls : Array Slot} {x y' : Int32} {o : Int} {st : List Value} (hd : decode bytes pc = .ok (.if_icmp .gt o, 3)) (pcT : Nat) (ho : 0 ≤ (pc : Int) + o) (hT : ((pc : Int) + o).toNat = pcT) (pcF : Nat) (hF : pc + 3 = pcF)
    (k1 : y' < x → Go p e below Z n0 kg E P T (mkF m pcT Ls st)) (k2 : ¬ y' < x → Go p e below Z n0 kg E P T (mkF m pcF Ls st)) : Go p e below Z n0 kg E P T (mkF m pc Ls (.int y' :: .int x :: st)) := by
  subst hF
  by_cases h : y' < x
  · exact (k1 h).pre fun t q => XS.icmpYes w.here w.hx rfl rfl (hb w.hby hd) rfl (XT.ii_gt_t h) ho hT q
  · exact (k2 h).pre fun t q => XS.icmpNo w.here w.hx rfl (hb w.hby hd) rfl (XT.ii_gt_f h) q
theorem g_if_gt (w : Wd p l e R s m args below meth c Z a0 n0 kb ws y bytes ml ret T L cells slots) {pc : Nat} {Ls : Array Slot} {x : Int32} {o : Int} {st : List Value} (hd : decode bytes pc = .ok (.ifCond .gt o, 3)) (pcT : Nat) (ho : 0 ≤ (pc : Int) + o) (hT : ((pc : Int) + o).toNat = pcT) (pcF : Nat) (hF : pc + 3 = pcF)
    (k1 : 0 < x → Go p e below Z n0 kg E P T (mkF m pcT Ls st)) (k2 : ¬ 0 < x → Go p e below Z n0 kg E P T (mkF m pcF Ls st)) : Go p e below Z n0 kg E P T (mkF m pc Ls (.int x :: st)) := by
  subst hF
  by_cases h : 0 < x
  · exact (k1 h).pre fun t q => XS.ifYes w.here w.hx rfl rfl (hb w.hby hd) rfl (XT.i0_gt_t h) ho hT q
  · exact (k2 h).pre fun t q => XS.ifNo w.here w.hx rfl (hb w.hby hd) rfl (XT.i0_gt_f h) q
theorem g_lif_gt (w : Wd p l e R s m args below meth c Z a0 n0 kb ws y bytes ml ret T L cells slots) {pc : Nat} {Ls : Array Slot} {x y' : Int64} {o : Int} {st : List Value} (hd : decode bytes pc = .ok (.ifCond .gt o, 3)) (pcT : Nat) (ho : 0 ≤ (pc : Int) + o) (hT : ((pc : Int) + o).toNat = pcT) (pcF : Nat) (hF : pc + 3 = pcF)
    (k1 : y' < x → Go p e below Z n0 kg E P T (mkF m pcT Ls st)) (k2 : ¬ y' < x → Go p e below Z n0 kg E P T (mkF m pcF Ls st)) : Go p e below Z n0 kg E P T (mkF m pc Ls (.int (XT.cmpL x y') :: st)) := by
  subst hF
  by_cases h : y' < x
  · exact (k1 h).pre fun t q => XS.ifYes w.here w.hx rfl rfl (hb w.hby hd) rfl (XT.ll_gt_t h) ho hT q
  · exact (k2 h).pre fun t q => XS.ifNo w.here w.hx rfl (hb w.hby hd) rfl (XT.ll_gt_f h) q
theorem g_icmp_le (w : Wd p l e R s m args below meth c Z a0 n0 kb ws y bytes ml ret T L cells slots) {pc : Nat} {Ls : Array Slot} {x y' : Int32} {o : Int} {st : List Value} (hd : decode bytes pc = .ok (.if_icmp .le o, 3)) (pcT : Nat) (ho : 0 ≤ (pc : Int) + o) (hT : ((pc : Int) + o).toNat = pcT) (pcF : Nat) (hF : pc + 3 = pcF)
    (k1 : ¬ y' < x → Go p e below Z n0 kg E P T (mkF m pcT Ls st)) (k2 : y' < x → Go p e below Z n0 kg E P T (mkF m pcF Ls st)) : Go p e below Z n0 kg E P T (mkF m pc Ls (.int y' :: .int x :: st)) := by
  subst hF
  by_cases h : y' < x
  · exact (k2 h).pre fun t q => XS.icmpNo w.here w.hx rfl (hb w.hby hd) rfl (XT.ii_le_f h) q
  · exact (k1 h).pre fun t q => XS.icmpYes w.here w.hx rfl rfl (hb w.hby hd) rfl (XT.ii_le_t h) ho hT q
theorem g_if_le (w : Wd p l e R s m args below meth c Z a0 n0 kb ws y bytes ml ret T L cells slots) {pc : Nat} {Ls : Array Slot} {x : Int32} {o : Int} {st : List Value} (hd : decode bytes pc = .ok (.ifCond .le o, 3)) (pcT : Nat) (ho : 0 ≤ (pc : Int) + o) (hT : ((pc : Int) + o).toNat = pcT) (pcF : Nat) (hF : pc + 3 = pcF)
    (k1 : ¬ 0 < x → Go p e below Z n0 kg E P T (mkF m pcT Ls st)) (k2 : 0 < x → Go p e below Z n0 kg E P T (mkF m pcF Ls st)) : Go p e below Z n0 kg E P T (mkF m pc Ls (.int x :: st)) := by
  subst hF
  by_cases h : 0 < x
  · exact (k2 h).pre fun t q => XS.ifNo w.here w.hx rfl (hb w.hby hd) rfl (XT.i0_le_f h) q
  · exact (k1 h).pre fun t q => XS.ifYes w.here w.hx rfl rfl (hb w.hby hd) rfl (XT.i0_le_t h) ho hT q
theorem g_lif_le (w : Wd p l e R s m args below meth c Z a0 n0 kb ws y bytes ml ret T L cells slots) {pc : Nat} {Ls : Array Slot} {x y' : Int64} {o : Int} {st : List Value} (hd : decode bytes pc = .ok (.ifCond .le o, 3)) (pcT : Nat) (ho : 0 ≤ (pc : Int) + o) (hT : ((pc : Int) + o).toNat = pcT) (pcF : Nat) (hF : pc + 3 = pcF)
    (k1 : ¬ y' < x → Go p e below Z n0 kg E P T (mkF m pcT Ls st)) (k2 : y' < x → Go p e below Z n0 kg E P T (mkF m pcF Ls st)) : Go p e below Z n0 kg E P T (mkF m pc Ls (.int (XT.cmpL x y') :: st)) := by
  subst hF
  by_cases h : y' < x
  · exact (k2 h).pre fun t q => XS.ifNo w.here w.hx rfl (hb w.hby hd) rfl (XT.ll_le_f h) q
  · exact (k1 h).pre fun t q => XS.ifYes w.here w.hx rfl rfl (hb w.hby hd) rfl (XT.ll_le_t h) ho hT q
theorem g_acmp_eq (w : Wd p l e R s m args below meth c Z a0 n0 kb ws y bytes ml ret T L cells slots) {pc : Nat} {Ls : Array Slot} {x y' : Value} {o : Int} {st : List Value} (hd : decode bytes pc = .ok (.if_acmp .eq o, 3)) (hx' : x.isRef = true) (hy' : y'.isRef = true) (pcT : Nat) (ho : 0 ≤ (pc : Int) + o) (hT : ((pc : Int) + o).toNat = pcT) (pcF : Nat) (hF : pc + 3 = pcF)
    (k1 : x = y' → Go p e below Z n0 kg E P T (mkF m pcT Ls st)) (k2 : ¬ x = y' → Go p e below Z n0 kg E P T (mkF m pcF Ls st)) : Go p e below Z n0 kg E P T (mkF m pc Ls (y' :: x :: st)) := by
  subst hF
  by_cases h : x = y'
  · exact (k1 h).pre fun t q => XT.acmpYes w.here w.hx rfl rfl (hb w.hby hd) rfl hx' hy' (XT.aa_eq_t h) ho hT q
  · exact (k2 h).pre fun t q => XT.acmpNo w.here w.hx rfl (hb w.hby hd) rfl hx' hy' (XT.aa_eq_f h) q
theorem g_acmp_ne (w : Wd p l e R s m args below meth c Z a0 n0 kb ws y bytes ml ret T L cells slots) {pc : Nat} {Ls : Array Slot} {x y' : Value} {o : Int} {st : List Value} (hd : decode bytes pc = .ok (.if_acmp .ne o, 3)) (hx' : x.isRef = true) (hy' : y'.isRef = true) (pcT : Nat) (ho : 0 ≤ (pc : Int) + o) (hT : ((pc : Int) + o).toNat = pcT) (pcF : Nat) (hF : pc + 3 = pcF)
    (k1 : ¬ x = y' → Go p e below Z n0 kg E P T (mkF m pcT Ls st)) (k2 : x = y' → Go p e below Z n0 kg E P T (mkF m pcF Ls st)) : Go p e below Z n0 kg E P T (mkF m pc Ls (y' :: x :: st)) := by
  subst hF
  by_cases h : x = y'
  · exact (k2 h).pre fun t q => XT.acmpNo w.here w.hx rfl (hb w.hby hd) rfl hx' hy' (XT.aa_ne_f h) q
  · exact (k1 h).pre fun t q => XT.acmpYes w.here w.hx rfl rfl (hb w.hby hd) rfl hx' hy' (XT.aa_ne_t h) ho hT q
theorem g_ifnullT (w : Wd p l e R s m args below meth c Z a0 n0 kb ws y bytes ml ret T L cells slots) {pc : Nat} {Ls : Array Slot} {o : Int} {st : List Value} (hd : decode bytes pc = .ok (.ifnull o, 3)) (pcT : Nat) (ho : 0 ≤ (pc : Int) + o) (hT : ((pc : Int) + o).toNat = pcT) (k : Go p e below Z n0 kg E P T (mkF m pcT Ls st)) : Go p e below Z n0 kg E P T (mkF m pc Ls (.null :: st)) := k.pre fun t q => XS.ifnullYes w.here w.hx rfl rfl (hb w.hby hd) rfl ho hT q
theorem g_ifnullF (w : Wd p l e R s m args below meth c Z a0 n0 kb ws y bytes ml ret T L cells slots) {pc : Nat} {Ls : Array Slot} {r : Addr} {o : Int} {st : List Value} (hd : decode bytes pc = .ok (.ifnull o, 3)) (pcF : Nat) (hF : pc + 3 = pcF) (k : Go p e below Z n0 kg E P T (mkF m pcF Ls st)) : Go p e below Z n0 kg E P T (mkF m pc Ls (.ref r :: st)) := by
  subst hF
  exact k.pre fun t q => XS.ifnullNo w.here w.hx rfl (hb w.hby hd) rfl q
theorem g_ifnonnullT (w : Wd p l e R s m args below meth c Z a0 n0 kb ws y bytes ml ret T L cells slots) {pc : Nat} {Ls : Array Slot} {r : Addr} {o : Int} {st : List Value} (hd : decode bytes pc = .ok (.ifnonnull o, 3)) (pcT : Nat) (ho : 0 ≤ (pc : Int) + o) (hT : ((pc : Int) + o).toNat = pcT) (k : Go p e below Z n0 kg E P T (mkF m pcT Ls st)) : Go p e below Z n0 kg E P T (mkF m pc Ls (.ref r :: st)) := k.pre fun t q => XT.ifnonnullYes w.here w.hx rfl rfl (hb w.hby hd) rfl ho hT q
theorem g_ifnonnullF (w : Wd p l e R s m args below meth c Z a0 n0 kb ws y bytes ml ret T L cells slots) {pc : Nat} {Ls : Array Slot} {o : Int} {st : List Value} (hd : decode bytes pc = .ok (.ifnonnull o, 3)) (pcF : Nat) (hF : pc + 3 = pcF) (k : Go p e below Z n0 kg E P T (mkF m pcF Ls st)) : Go p e below Z n0 kg E P T (mkF m pc Ls (.null :: st)) := by
  subst hF
  exact k.pre fun t q => XT.ifnonnullNo w.here w.hx rfl (hb w.hby hd) rfl q
/-! ## calls -/
theorem g_initO (w : Wd p l e R s m args below meth c Z a0 n0 kb ws y bytes ml ret T L cells slots) {pc : Nat} {Ls : Array Slot} {st : List Value} {idx : Nat} {a : Addr} (hd : decode bytes pc = .ok (.invokespecial idx, 3)) (k1 : Nat) (hk1 : ws[k1]? = some (.methodLink y.cls idx Lib.objectInit)) (k2 : Nat) (hk2 : ws[k2]? = some (.instanceMethod Lib.objectInit)) (k3 : Nat) (hk3 : ws[k3]? = some (.code Lib.objectInit ⟨#[0xb1]⟩ 1 none))
    (hsz : Ls.size = ml) (hf : 1 ≤ R.frames) (W : Nat) (hW : (st.map fun v => v.category).sum = W) (hl : W + 12 ≤ R.locals) (pc' : Nat) (hp : pc + 3 = pc')
    (kt : ∀ T', Wd p l e R s m args below meth c Z a0 n0 kb ws y bytes ml ret T' L cells slots → Go p e below Z n0 kg E P T' (mkF m pc' Ls st)) : Go p e below Z n0 kg E P T (mkF m pc Ls (.ref a :: st)) := by
  subst hp
  have hk1' := w.hw hk1
  have hk2' := w.hw hk2
  have hk3' := w.hw hk3
  obtain ⟨⟨locs, X, N⟩, H, hx, hZ, hown, hby, hml, hret, hlk, hnm, hws⟩ := w
  obtain ⟨T', X', e', st'⟩ := initO X hx hZ hown hk1' hk2' hk3' rfl (g := mkF m pc Ls (.ref a :: st)) rfl (by rw [hml]; exact hsz) rfl (hb hby hd) hf (W := W) (by show 2 * 0 + _ ≤ _; rw [hW]; omega) hl
  exact (kt T' ⟨⟨locs, X', N⟩, by rw [e']; exact H, hx, hZ, hown, hby, hml, hret, hlk, hnm, hws⟩).pre st'
theorem Con.back {y' : MethodName} {bytes' : ByteArray} {ml' : Nat} {ret' : Option FieldType} {rm : Room} {as' : Array Value} {P' : Option Value → HL → Prop} {h : Heap} {len W : Nat} (C : Con l y' bytes' ml' ret' rm Z n0 as' L P') (H : Hp Z n0 kb h L) (hZ : Z.Warmed39 s.vm) (wc : (Cond.code y' bytes' ml' ret').before a0 Z = true) (wz : (Cond.initialized y'.cls).before a0 Z = true) (hf : rm.frames + 1 ≤ R.frames) (hl : W + (ml' + 11) + rm.locals ≤ R.locals) :
    Back l R p e below s args y' len W (fun A a => a = as' ∧ A.U.heap = h ∧ A.cells + rm.cells ≤ R.cells ∧ A.slots + rm.slots ≤ R.slots)
      (fun A _ v B => ∃ Lc, (Fr n0 Lc ∧ ∃ L', Hp Z n0 kb B.U.heap L' ∧ P' v L') ∧ B.locs = A.locs ++ Lc ∧ B.cells = A.cells + rm.cells ∧ B.slots = A.slots + rm.slots) :=
  backOf (Q := fun v hh Lc => Fr n0 Lc ∧ ∃ L', Hp Z n0 kb hh L' ∧ P' v L') (C [] kb h H) hZ wc wz hf hl
/-- behind a call -/
theorem g_behind {rm : Room} {P' : Option Value → HL → Prop} {pc : Nat} {Ls : Array Slot} {rest : List Value} {v : Option Value} {B : Pt} {locs : List Loc}
    (N : Fr n0 locs) (hx : p.tables.exec = Jvm.exec) (hZ : Z.Warmed39 s.vm) (hown : s.vm.findClass y.cls = some m.cls) (hby : c.code = bytes) (hml : c.maxLocals = ml) (hret : meth.sig.returnType = ret) (hlk : meth.locks = false) (hnm : meth.name = y.name) (hws : ∀ d ∈ ws, d.before a0 Z = true)
    (X' : Stand p l e R s m args below meth c B.U B.locs B.cells B.slots)
    (hQ : ∃ Lc, (Fr n0 Lc ∧ ∃ L', Hp Z n0 kb B.U.heap L' ∧ P' v L') ∧ Pt.locs B = locs ++ Lc ∧ Pt.cells B = cells + rm.cells ∧ Pt.slots B = slots + rm.slots)
    (kt : ∀ T' v L', Wd p l e R s m args below meth c Z a0 n0 kb ws y bytes ml ret T' L' (cells + rm.cells) (slots + rm.slots) → P' v L' → Go p e below Z n0 kg E P T' (mkF m pc Ls (pushV v rest))) :
    Go p e below Z n0 kg E P B.U (mkF m pc Ls (v.toList ++ rest)) := by
  obtain ⟨Lc, ⟨N', L', H', hP⟩, h1, h2, h3⟩ := hQ
  obtain ⟨U, bl, bc, bs⟩ := B
  dsimp only [Pt.U, Pt.locs, Pt.cells, Pt.slots] at h1 h2 h3 X' H' ⊢
  subst h1 h2 h3
  rw [pushV_eq]
  exact kt U v L' ⟨⟨_, X', Fr.app N N'⟩, H', hx, hZ, hown, hby, hml, hret, hlk, hnm, hws⟩ hP
theorem g_static (w : Wd p l e R s m args below meth c Z a0 n0 kb ws y bytes ml ret T L cells slots) {pc : Nat} {Ls : Array Slot} {st : List Value} {idx : Nat} {y' : MethodName} {bytes' : ByteArray} {ml' : Nat} {ret' : Option FieldType} {rm : Room} {P' : Option Value → HL → Prop} {ps : List FieldType} {rt : Option FieldType} {argsL rest : List Value}
    (C : Con l y' bytes' ml' ret' rm Z n0 argsL.toArray L P') (hd : decode bytes pc = .ok (.invokestatic idx, 3)) (k1 : Nat) (hk1 : ws[k1]? = some (.methodLink y.cls idx y')) (k2 : Nat) (hk2 : ws[k2]? = some (.static y')) (k3 : Nat) (hk3 : ws[k3]? = some (.initialized y'.cls)) (k4 : Nat) (hk4 : ws[k4]? = some (.code y' bytes' ml' ret'))
    (hy : y'.cls ≠ "java/lang/invoke/MethodHandle" ∧ y'.cls ≠ "java/lang/invoke/VarHandle") (hpd : parseMethodDescriptor y'.desc = some ⟨ps, rt⟩) (hlen : argsL.length = ps.length) (hst : st = argsL.reverse ++ rest) (hsz : Ls.size = ml) (W : Nat) (hW : (rest.map fun v => v.category).sum = W) (hf : rm.frames + 1 ≤ R.frames) (hl : W + (ml' + 11) + rm.locals ≤ R.locals)
    (hc : cells + rm.cells ≤ R.cells) (hs : slots + rm.slots ≤ R.slots) (pc' : Nat) (hp : pc + 3 = pc')
    (kt : ∀ T' v L', Wd p l e R s m args below meth c Z a0 n0 kb ws y bytes ml ret T' L' (cells + rm.cells) (slots + rm.slots) → P' v L' → Go p e below Z n0 kg E P T' (mkF m pc' Ls (pushV v rest))) : Go p e below Z n0 kg E P T (mkF m pc Ls st) := by
  subst hp hst
  have hk1' := w.hw hk1
  have hk2' := w.hw hk2
  have hk3' := w.hw hk3
  have hk4' := w.hw hk4
  obtain ⟨⟨locs, X, N⟩, H, hx, hZ, hown, hby, hml, hret, hlk, hnm, hws⟩ := w
  obtain ⟨v, vm₁, B, -, X', hQ, st'⟩ := Jvm.LawKit.callS X hx hown (mvT hZ hk1') (mvT hZ hk2') (mvT hZ hk3') (mvT hZ hk4') hy (Con.back C H hZ hk4' hk3' hf hl) (g := mkF m pc Ls (argsL.reverse ++ rest)) rfl (by rw [hml]; exact hsz) (argsL := argsL) (rest := rest) (lenOf hpd hlen) rfl (by show 2 * 0 + _ ≤ _; rw [hW]; omega) (hb hby hd) (fun _ _ => ⟨rfl, rfl, hc, hs⟩)
  exact (g_behind (rm := rm) (P' := P') N hx hZ hown hby hml hret hlk hnm hws X' hQ kt).pre st'
theorem g_ctor (w : Wd p l e R s m args below meth c Z a0 n0 kb ws y bytes ml ret T L cells slots) {pc : Nat} {Ls : Array Slot} {st : List Value} {idx : Nat} {y' : MethodName} {bytes' : ByteArray} {ml' : Nat} {rm : Room} {P' : Option Value → HL → Prop} {ps : List FieldType} {rt : Option FieldType} {a : Addr} {argsL rest : List Value}
    (C : Con l y' bytes' ml' none rm Z n0 (Value.ref a :: argsL).toArray L P') (hd : decode bytes pc = .ok (.invokespecial idx, 3)) (k1 : Nat) (hk1 : ws[k1]? = some (.methodLink y.cls idx y')) (k2 : Nat) (hk2 : ws[k2]? = some (.instanceMethod y')) (k3 : Nat) (hk3 : ws[k3]? = some (.initialized y'.cls)) (k4 : Nat) (hk4 : ws[k4]? = some (.code y' bytes' ml' none))
    (hyn : y'.name = "<init>") (hy : y'.cls ≠ "java/lang/invoke/MethodHandle" ∧ y'.cls ≠ "java/lang/invoke/VarHandle") (hpd : parseMethodDescriptor y'.desc = some ⟨ps, rt⟩) (hlen : argsL.length = ps.length) (hst : st = argsL.reverse ++ .ref a :: rest) (hsz : Ls.size = ml) (W : Nat) (hW : (rest.map fun v => v.category).sum = W) (hf : rm.frames + 1 ≤ R.frames) (hl : W + (ml' + 11) + rm.locals ≤ R.locals)
    (hc : cells + rm.cells ≤ R.cells) (hs : slots + rm.slots ≤ R.slots) (pc' : Nat) (hp : pc + 3 = pc')
    (kt : ∀ T' v L', Wd p l e R s m args below meth c Z a0 n0 kb ws y bytes ml ret T' L' (cells + rm.cells) (slots + rm.slots) → P' v L' → Go p e below Z n0 kg E P T' (mkF m pc' Ls (pushV v rest))) : Go p e below Z n0 kg E P T (mkF m pc Ls st) := by
  subst hp hst
  have hk1' := w.hw hk1
  have hk2' := w.hw hk2
  have hk3' := w.hw hk3
  have hk4' := w.hw hk4
  obtain ⟨⟨locs, X, N⟩, H, hx, hZ, hown, hby, hml, hret, hlk, hnm, hws⟩ := w
  obtain ⟨v, vm₁, B, -, X', hQ, st'⟩ := X.specialBack hx hyn hown (mvT hZ hk1') (mvT hZ hk2') (mvT hZ hk4') hy (Con.back C H hZ hk4' hk3' hf hl) (g := mkF m pc Ls (argsL.reverse ++ .ref a :: rest)) rfl (by rw [hml]; exact hsz) (Steps.refl _) (a := a) (argsL := argsL) (rest := rest) (lenOf hpd hlen) rfl (by show 2 * 0 + _ ≤ _; rw [hW]; omega) (hb hby hd) (fun _ _ => ⟨rfl, rfl, hc, hs⟩)
  exact (g_behind (rm := rm) (P' := P') N hx hZ hown hby hml hret hlk hnm hws X' hQ kt).pre fun t q => st'.trans q
theorem g_virt (w : Wd p l e R s m args below meth c Z a0 n0 kb ws y bytes ml ret T L cells slots) {pc : Nat} {Ls : Array Slot} {st : List Value} {idx : Nat} {y' : MethodName} {bytes' : ByteArray} {ml' : Nat} {ret' : Option FieldType} {rm : Room} {P' : Option Value → HL → Prop} {ps : List FieldType} {rt : Option FieldType} {a : Addr} {Cn : String} {fs : List FldE} {argsL rest : List Value}
    (C : Con l y' bytes' ml' ret' rm Z n0 (Value.ref a :: argsL).toArray L P') (hd : decode bytes pc = .ok (.invokevirtual idx, 3)) (i : Nat) (hi : L[i]? = some (a, .inl (Cn, fs))) (k1 : Nat) (hk1 : ws[k1]? = some (.methodLink y.cls idx y')) (k2 : Nat) (hk2 : ws[k2]? = some (.declares y')) (k3 : Nat) (hk3 : ws[k3]? = some (.initialized y'.cls)) (k4 : Nat) (hk4 : ws[k4]? = some (.code y' bytes' ml' ret'))
    (k5 : Nat) (hk5 : ws[k5]? = some (.selects Cn y' y')) (k6 : Nat) (hk6 : ws[k6]? = some (.instanceMethod y'))
    (hy : y'.cls ≠ "java/lang/invoke/MethodHandle" ∧ y'.cls ≠ "java/lang/invoke/VarHandle") (hpd : parseMethodDescriptor y'.desc = some ⟨ps, rt⟩) (hlen : argsL.length = ps.length) (hst : st = argsL.reverse ++ .ref a :: rest) (hsz : Ls.size = ml) (W : Nat) (hW : (rest.map fun v => v.category).sum = W) (hf : rm.frames + 1 ≤ R.frames) (hl : W + (ml' + 11) + rm.locals ≤ R.locals)
    (hc : cells + rm.cells ≤ R.cells) (hs : slots + rm.slots ≤ R.slots) (pc' : Nat) (hp : pc + 3 = pc')
    (kt : ∀ T' v L', Wd p l e R s m args below meth c Z a0 n0 kb ws y bytes ml ret T' L' (cells + rm.cells) (slots + rm.slots) → P' v L' → Go p e below Z n0 kg E P T' (mkF m pc' Ls (pushV v rest))) : Go p e below Z n0 kg E P T (mkF m pc Ls st) := by
  subst hp hst
  have hk1' := w.hw hk1
  have hk2' := w.hw hk2
  have hk3' := w.hw hk3
  have hk4' := w.hw hk4
  have hk5' := w.hw hk5
  have hk6' := w.hw hk6
  obtain ⟨⟨locs, X, N⟩, H, hx, hZ, hown, hby, hml, hret, hlk, hnm, hws⟩ := w
  obtain ⟨cq, kq, qa, qb, qc⟩ := isOf hZ rfl (H.obj hi).1
  obtain ⟨v, vm₁, B, -, X', hQ, st'⟩ := X.virtualBack hx (y := y') (z := y') hown (mvT hZ hk1') (mvT hZ hk2') (notFace_of_selects (args := #[]) (mvT hZ hk5')) (mvT hZ hk5') (mvT hZ hk6') hy (Con.back C H hZ hk4' hk3' hf hl) qa qc (g := mkF m pc Ls (argsL.reverse ++ .ref a :: rest)) rfl (by rw [hml]; exact hsz) (Steps.refl _) (argsL := argsL) (rest := rest) (lenOf hpd hlen) rfl (by show 2 * 0 + _ ≤ _; rw [hW]; omega) (hb hby hd) (fun _ _ => ⟨rfl, rfl, hc, hs⟩)
  exact (g_behind (rm := rm) (P' := P') N hx hZ hown hby hml hret hlk hnm hws X' hQ kt).pre fun t q => st'.trans q
theorem g_virtO (w : Wd p l e R s m args below meth c Z a0 n0 kb ws y bytes ml ret T L cells slots) {pc : Nat} {Ls : Array Slot} {st : List Value} {idx : Nat} {y' : MethodName} {bytes' : ByteArray} {ml' : Nat} {ret' : Option FieldType} {rm : Room} {P' : Option Value → HL → Prop} {ps : List FieldType} {rt : Option FieldType} {a : Addr} {Cn : String} {argsL rest : List Value}
    (C : Con l y' bytes' ml' ret' rm Z n0 (Value.ref a :: argsL).toArray L P') (hd : decode bytes pc = .ok (.invokevirtual idx, 3)) (EO : Exa Z Z.heap a Cn) (k1 : Nat) (hk1 : ws[k1]? = some (.methodLink y.cls idx y')) (k2 : Nat) (hk2 : ws[k2]? = some (.declares y')) (k3 : Nat) (hk3 : ws[k3]? = some (.initialized y'.cls)) (k4 : Nat) (hk4 : ws[k4]? = some (.code y' bytes' ml' ret'))
    (k5 : Nat) (hk5 : ws[k5]? = some (.selects Cn y' y')) (k6 : Nat) (hk6 : ws[k6]? = some (.instanceMethod y'))
    (hy : y'.cls ≠ "java/lang/invoke/MethodHandle" ∧ y'.cls ≠ "java/lang/invoke/VarHandle") (hpd : parseMethodDescriptor y'.desc = some ⟨ps, rt⟩) (hlen : argsL.length = ps.length) (hst : st = argsL.reverse ++ .ref a :: rest) (hsz : Ls.size = ml) (W : Nat) (hW : (rest.map fun v => v.category).sum = W) (hf : rm.frames + 1 ≤ R.frames) (hl : W + (ml' + 11) + rm.locals ≤ R.locals)
    (hc : cells + rm.cells ≤ R.cells) (hs : slots + rm.slots ≤ R.slots) (pc' : Nat) (hp : pc + 3 = pc')
    (kt : ∀ T' v L', Wd p l e R s m args below meth c Z a0 n0 kb ws y bytes ml ret T' L' (cells + rm.cells) (slots + rm.slots) → P' v L' → Go p e below Z n0 kg E P T' (mkF m pc' Ls (pushV v rest))) : Go p e below Z n0 kg E P T (mkF m pc Ls st) := by
  subst hp hst
  have hk1' := w.hw hk1
  have hk2' := w.hw hk2
  have hk3' := w.hw hk3
  have hk4' := w.hw hk4
  have hk5' := w.hw hk5
  have hk6' := w.hw hk6
  obtain ⟨⟨locs, X, N⟩, H, hx, hZ, hown, hby, hml, hret, hlk, hnm, hws⟩ := w
  obtain ⟨cq, kq, qa, qb, qc⟩ := isOf hZ rfl (EO.ext H.old)
  obtain ⟨v, vm₁, B, -, X', hQ, st'⟩ := X.virtualBack hx (y := y') (z := y') hown (mvT hZ hk1') (mvT hZ hk2') (notFace_of_selects (args := #[]) (mvT hZ hk5')) (mvT hZ hk5') (mvT hZ hk6') hy (Con.back C H hZ hk4' hk3' hf hl) qa qc (g := mkF m pc Ls (argsL.reverse ++ .ref a :: rest)) rfl (by rw [hml]; exact hsz) (Steps.refl _) (argsL := argsL) (rest := rest) (lenOf hpd hlen) rfl (by show 2 * 0 + _ ≤ _; rw [hW]; omega) (hb hby hd) (fun _ _ => ⟨rfl, rfl, hc, hs⟩)
  exact (g_behind (rm := rm) (P' := P') N hx hZ hown hby hml hret hlk hnm hws X' hQ kt).pre fun t q => st'.trans q
theorem g_priv (w : Wd p l e R s m args below meth c Z a0 n0 kb ws y bytes ml ret T L cells slots) {pc : Nat} {Ls : Array Slot} {st : List Value} {idx nI : Nat} {y' : MethodName} {bytes' : ByteArray} {ml' : Nat} {ret' : Option FieldType} {rm : Room} {P' : Option Value → HL → Prop} {ps : List FieldType} {rt : Option FieldType} {a : Addr} {Cn : String} {fs : List FldE} {argsL rest : List Value}
    (C : Con l y' bytes' ml' ret' rm Z n0 (Value.ref a :: argsL).toArray L P') (hd : decode bytes pc = .ok (.invokevirtual idx, 3)) (i : Nat) (hi : L[i]? = some (a, .inl (Cn, fs))) (k1 : Nat) (hk1 : ws[k1]? = some (.methodLink y.cls idx y')) (k2 : Nat) (hk2 : ws[k2]? = some (.instanceMethod y')) (k3 : Nat) (hk3 : ws[k3]? = some (.initialized y'.cls)) (k4 : Nat) (hk4 : ws[k4]? = some (.code y' bytes' ml' ret'))
    (k5 : Nat) (hk5 : ws[k5]? = some (.privateMethod y')) (k6 : Nat) (hk6 : ws[k6]? = some (.instantiable y'.cls nI))
    (hy : y'.cls ≠ "java/lang/invoke/MethodHandle" ∧ y'.cls ≠ "java/lang/invoke/VarHandle") (hpd : parseMethodDescriptor y'.desc = some ⟨ps, rt⟩) (hlen : argsL.length = ps.length) (hst : st = argsL.reverse ++ .ref a :: rest) (hsz : Ls.size = ml) (W : Nat) (hW : (rest.map fun v => v.category).sum = W) (hf : rm.frames + 1 ≤ R.frames) (hl : W + (ml' + 11) + rm.locals ≤ R.locals)
    (hc : cells + rm.cells ≤ R.cells) (hs : slots + rm.slots ≤ R.slots) (pc' : Nat) (hp : pc + 3 = pc')
    (kt : ∀ T' v L', Wd p l e R s m args below meth c Z a0 n0 kb ws y bytes ml ret T' L' (cells + rm.cells) (slots + rm.slots) → P' v L' → Go p e below Z n0 kg E P T' (mkF m pc' Ls (pushV v rest))) : Go p e below Z n0 kg E P T (mkF m pc Ls st) := by
  subst hp hst
  have hk1' := w.hw hk1
  have hk2' := w.hw hk2
  have hk3' := w.hw hk3
  have hk4' := w.hw hk4
  have hk5' := w.hw hk5
  have hk6' := w.hw hk6
  obtain ⟨⟨locs, X, N⟩, H, hx, hZ, hown, hby, hml, hret, hlk, hnm, hws⟩ := w
  obtain ⟨cl, hcl, hst0⟩ := (H.obj hi).1.cell
  have hpa : s.PrivateAt y' := Cond.privateMethod_at (mvP hZ hk5' (args := #[]))
  have hin : (Cond.instanceMethod y').before args s = true := mvT hZ hk2'
  have hic : (Cond.instantiable y'.cls nI).before args s = true := mvT hZ hk6'
  obtain ⟨cI, kI, i1, i2, i3, i4, -⟩ := Cond.instantiable_spec hic
  have hsel : (Cond.selects y'.cls y' y').before args s = true := selects_self_of_private i1 i2 (Bool.or_eq_false_iff.mp i4).1 hpa hin hy
  obtain ⟨v, vm₁, B, -, X', hQ, st'⟩ := X.privateBack hx (y := y') hown (mvT hZ hk1') hin hsel hpa (mvT hZ hk4') hy (Con.back C H hZ hk4' hk3' hf hl) (g := mkF m pc Ls (argsL.reverse ++ .ref a :: rest)) rfl (by rw [hml]; exact hsz) (Steps.refl _) (a := a) hcl hst0 (argsL := argsL) (rest := rest) (lenOf hpd hlen) rfl (by show 2 * 0 + _ ≤ _; rw [hW]; omega) (hb hby hd) (fun _ _ => ⟨rfl, rfl, hc, hs⟩)
  exact (g_behind (rm := rm) (P' := P') N hx hZ hown hby hml hret hlk hnm hws X' hQ kt).pre fun t q => st'.trans q
/-! ## from the case's words to the contract of the law -/
theorem fr_end {Lc : List Loc} {v : Option Value} {u : State} (N : Fr s.heap.size Lc) (hq : FrameEnd s (.returned v) u Lc kc ks) (L0 : List Loc) {kc' ks' : Nat} (h1 : kc ≤ kc') (h2 : ks ≤ ks') : FrameEnd s (.returned v) u L0 kc' ks' :=
  ⟨hq.1, hq.2.1, (hq.2.2.sift fun y hy => Or.inr (N y hy)).mono h1 h2⟩
end Walk
end Jvm.OwnW
namespace Jvm.Pilot.@@N@@
open Jvm Jvm.ClassFile Sem Op Lib Jvm.Free Jvm.Stand Jvm.LawKit Jvm.RoadKit Bundle Jvm.OwnW Jvm.Pilot.@@N@@.Jvm.D
def own_pick (q : Int64) (b : Int32) : Int64 := if b &&& 1 = 0 then q else (q &&& 3) - 1
def own_lit (q : Int64) (s : Int32) : Int32 := if s = 0 then (if q = 1 then 1 else 0) else (if q = 0 then 1 else 0)
def own_at4 (w0 w1 w2 w3 : Int64) (x : Int32) : Int64 := if x = 0 then w0 else if x = 1 then w1 else if x = 2 then w2 else w3
def own_ok (x : Int32) : Prop := 0 ≤ x.toInt ∧ x.toInt ≤ 3
def own_h0 : Int32 := 0
def own_h1 (l0 : Int32) : Int32 := if l0 = 0 then 0 else 1
def own_h2 (l0 l1 : Int32) : Int32 := if l0 = 0 then (if l1 = 0 then 0 else 1) else 1
def own_h3 (l0 l1 l2 : Int32) : Int32 := if l0 = 0 then (if l1 = 0 then (if l2 = 0 then 0 else 1) else 1) else 1
theorem own_okOf (z : Int32) : own_ok (z &&& 3) := by
  have h := c_mask z 3 2 (by decide) (by decide)
  rw [show ((2 ^ 2 : Nat) : Int) = 4 from rfl] at h
  unfold own_ok
  omega
theorem own_ok_nn {x : Int32} (h : own_ok x) : ¬ x < 0 := by
  rw [Int32.lt_iff_toInt_lt]
  have k0 : (0 : Int32).toInt = 0 := rfl
  unfold own_ok at h
  omega
theorem own_get (w0 w1 w2 w3 : Int64) {x : Int32} (h : own_ok x) : ∃ j : Nat, x.toInt = (j : Int) ∧ ([(.long w0), (.long w1), (.long w2), (.long w3)] : List Value)[j]? = some (.long (own_at4 w0 w1 w2 w3 x)) := by
  obtain ⟨h1, h2⟩ := h
  have k0 : (0 : Int32).toInt = 0 := rfl
  have k1 : (1 : Int32).toInt = 1 := rfl
  have k2 : (2 : Int32).toInt = 2 := rfl
  unfold own_at4
  simp only [← Int32.toInt_inj, k0, k1, k2]
  generalize x.toInt = t at *
  have q : t = 0 ∨ t = 1 ∨ t = 2 ∨ t = 3 := by omega
  rcases q with rfl | rfl | rfl | rfl
  · exact ⟨0, rfl, rfl⟩
  · exact ⟨1, rfl, rfl⟩
  · exact ⟨2, rfl, rfl⟩
  · exact ⟨3, rfl, rfl⟩
theorem own_n (a : Int32) : a &&& 3 = 0 ∨ a &&& 3 = 1 ∨ a &&& 3 = 2 ∨ a &&& 3 = 3 := by
  have h := c_mask a 3 2 (by decide) (by decide)
  rw [show ((2 ^ 2 : Nat) : Int) = 4 from rfl] at h
  have k0 : (0 : Int32).toInt = 0 := rfl
  have k1 : (1 : Int32).toInt = 1 := rfl
  have k2 : (2 : Int32).toInt = 2 := rfl
  have k3 : (3 : Int32).toInt = 3 := rfl
  simp only [← Int32.toInt_inj, k0, k1, k2, k3]
  omega
theorem own_bool {s : Int32} (h : s = 0 ∨ s = 1) : (.int (nar .boolean s) : Value) = .int s := by
  rcases h with rfl | rfl <;> rfl
theorem own_fitb {s : Int32} (h : s = 0 ∨ s = 1) : fits .boolean (.int s) = true := by
  rcases h with rfl | rfl <;> rfl
abbrev O_Clause (f0 : Value) (f1 : Value) : Obj := .inl ("com/example/chancebound/chancebound/model/Clause", [("com/example/chancebound/chancebound/model/Clause", "variables", "[I", f0), ("com/example/chancebound/chancebound/model/Clause", "negated", "[Z", f1)])
theorem d1_0 : decode method_3_code 0 = .ok (.iload_n 2, 1) := by decide +kernel
theorem d1_1 : decode method_3_code 1 = .ok (.iconst 1, 1) := by decide +kernel
theorem d1_2 : decode method_3_code 2 = .ok (.iand, 1) := by decide +kernel
theorem d1_3 : decode method_3_code 3 = .ok (.ifCond .eq 11, 3) := by decide +kernel
theorem d1_6 : decode method_3_code 6 = .ok (.lload_n 0, 1) := by decide +kernel
theorem d1_7 : decode method_3_code 7 = .ok (.ldc2_w 26, 3) := by decide +kernel
theorem d1_10 : decode method_3_code 10 = .ok (.land, 1) := by decide +kernel
theorem d1_11 : decode method_3_code 11 = .ok (.lconst 1, 1) := by decide +kernel
theorem d1_12 : decode method_3_code 12 = .ok (.lsub, 1) := by decide +kernel
theorem d1_13 : decode method_3_code 13 = .ok (.lreturn, 1) := by decide +kernel
theorem d1_14 : decode method_3_code 14 = .ok (.lload_n 0, 1) := by decide +kernel
theorem d1_15 : decode method_3_code 15 = .ok (.lreturn, 1) := by decide +kernel
theorem pn_1 : plainFor (⟨"com/example/chancebound/chancebound/model/ClauseHoldsPinLaw", "pick", "(JI)J"⟩ : MethodName) = true := plainFor_of_name (by first | (simp [plainName, overriddenIn]; done) | decide +kernel)
set_option maxRecDepth 65536 in
set_option maxHeartbeats 40000000 in
theorem rm1 (l : Launch) (Z : State) (a0 : Array Value) (hw : ∀ d ∈ tables_1, d.before a0 Z = true) (n0 : Nat) (q : Int64) (b : Int32) (L : HL)  :
    Con l (⟨"com/example/chancebound/chancebound/model/ClauseHoldsPinLaw", "pick", "(JI)J"⟩ : MethodName) method_3_code 3 (some .long) ({ frames := 0, cells := 0, slots := 0, locals := 0 } : Room) Z n0 #[(.long q), (.int b)] L (fun v L' => v = some (.long (own_pick q b)) ∧ L' = L) := by
  refine Con.of (ws := tables_1) (a0 := a0) pn_1 hw ?_
  intro p e s m below meth cde T kb w
  refine g_entry #[.val (.long q), .second, .val (.int b)] (by first | (simp [entryFrame, mkF, argsToLocals, Value.category]; done) | rfl) ?_
  refine g_iloadN w d1_0 rfl 1 rfl ?_
  refine g_iconst w d1_1 (1 : Int32) rfl 2 rfl ?_
  refine g_iand w d1_2 3 rfl ?_
  refine g_if_eq w d1_3 14 (by decide) (by decide) 6 rfl (fun hc3 => ?_) (fun hc3 => ?_)
  · -- pc 14 (taken: (b &&& (1 : Int32)) = (0 : Int32))
    refine g_lloadN w d1_14 rfl 15 rfl ?_
    exact g_lret w d1_15 (by decide) (by decide) ⟨congrArg (fun z => some (Value.long z)) (by simp [own_pick, *]), rfl⟩
  · -- pc 6 (on: not (b &&& (1 : Int32)) = (0 : Int32))
    refine g_lloadN w d1_6 rfl 7 rfl ?_
    refine g_ldcl w d1_7 43 rfl 10 rfl ?_
    refine g_land w d1_10 11 rfl ?_
    refine g_lconst w d1_11 (1 : Int64) rfl 12 rfl ?_
    refine g_lsub w d1_12 13 rfl ?_
    exact g_lret w d1_13 (by decide) (by decide) ⟨congrArg (fun z => some (Value.long z)) (by simp [own_pick, *]), rfl⟩
theorem d4_0 : decode method_4_code 0 = .ok (.iload_n 2, 1) := by decide +kernel
theorem d4_1 : decode method_4_code 1 = .ok (.ifCond .eq 15, 3) := by decide +kernel
theorem d4_4 : decode method_4_code 4 = .ok (.lload_n 0, 1) := by decide +kernel
theorem d4_5 : decode method_4_code 5 = .ok (.lconst 0, 1) := by decide +kernel
theorem d4_6 : decode method_4_code 6 = .ok (.lcmp, 1) := by decide +kernel
theorem d4_7 : decode method_4_code 7 = .ok (.ifCond .ne 7, 3) := by decide +kernel
theorem d4_10 : decode method_4_code 10 = .ok (.iconst 1, 1) := by decide +kernel
theorem d4_11 : decode method_4_code 11 = .ok (.goto 4, 3) := by decide +kernel
theorem d4_14 : decode method_4_code 14 = .ok (.iconst 0, 1) := by decide +kernel
theorem d4_15 : decode method_4_code 15 = .ok (.ireturn, 1) := by decide +kernel
theorem d4_16 : decode method_4_code 16 = .ok (.lload_n 0, 1) := by decide +kernel
theorem d4_17 : decode method_4_code 17 = .ok (.lconst 1, 1) := by decide +kernel
theorem d4_18 : decode method_4_code 18 = .ok (.lcmp, 1) := by decide +kernel
theorem d4_19 : decode method_4_code 19 = .ok (.ifCond .ne 7, 3) := by decide +kernel
theorem d4_22 : decode method_4_code 22 = .ok (.iconst 1, 1) := by decide +kernel
theorem d4_23 : decode method_4_code 23 = .ok (.goto 4, 3) := by decide +kernel
theorem d4_26 : decode method_4_code 26 = .ok (.iconst 0, 1) := by decide +kernel
theorem d4_27 : decode method_4_code 27 = .ok (.ireturn, 1) := by decide +kernel
theorem pn_4 : plainFor (⟨"com/example/chancebound/chancebound/model/ClauseHoldsPinLaw", "lit", "(JZ)Z"⟩ : MethodName) = true := plainFor_of_name (by first | (simp [plainName, overriddenIn]; done) | decide +kernel)
set_option maxRecDepth 65536 in
set_option maxHeartbeats 40000000 in
theorem rm4 (l : Launch) (Z : State) (a0 : Array Value) (hw : ∀ d ∈ tables_1, d.before a0 Z = true) (n0 : Nat) (q : Int64) (b : Int32) (L : HL)  :
    Con l (⟨"com/example/chancebound/chancebound/model/ClauseHoldsPinLaw", "lit", "(JZ)Z"⟩ : MethodName) method_4_code 3 (some .boolean) ({ frames := 0, cells := 0, slots := 0, locals := 0 } : Room) Z n0 #[(.long q), (.int b)] L (fun v L' => v = some (.int (own_lit q b)) ∧ L' = L) := by
  refine Con.of (ws := tables_1) (a0 := a0) pn_4 hw ?_
  intro p e s m below meth cde T kb w
  refine g_entry #[.val (.long q), .second, .val (.int b)] (by first | (simp [entryFrame, mkF, argsToLocals, Value.category]; done) | rfl) ?_
  refine g_iloadN w d4_0 rfl 1 rfl ?_
  refine g_if_eq w d4_1 16 (by decide) (by decide) 4 rfl (fun hc1 => ?_) (fun hc1 => ?_)
  · -- pc 16 (taken: b = (0 : Int32))
    refine g_lloadN w d4_16 rfl 17 rfl ?_
    refine g_lconst w d4_17 (1 : Int64) rfl 18 rfl ?_
    refine g_lcmp w d4_18 19 rfl ?_
    refine g_lif_ne w d4_19 26 (by decide) (by decide) 22 rfl (fun hc19 => ?_) (fun hc19 => ?_)
    · -- pc 26 (taken: not q = (1 : Int64))
      refine g_iconst w d4_26 (0 : Int32) rfl 27 rfl ?_
      exact g_iretn w (by simp) d4_27 (by decide) (by decide) ⟨congrArg (fun z => some (Value.int z)) (by simp [own_lit, *] <;> rfl), rfl⟩
    · -- pc 22 (on: q = (1 : Int64))
      refine g_iconst w d4_22 (1 : Int32) rfl 23 rfl ?_
      refine g_goto w d4_23 27 (by decide) (by decide) ?_
      exact g_iretn w (by simp) d4_27 (by decide) (by decide) ⟨congrArg (fun z => some (Value.int z)) (by simp [own_lit, *] <;> rfl), rfl⟩
  · -- pc 4 (on: not b = (0 : Int32))
    refine g_lloadN w d4_4 rfl 5 rfl ?_
    refine g_lconst w d4_5 (0 : Int64) rfl 6 rfl ?_
    refine g_lcmp w d4_6 7 rfl ?_
    refine g_lif_ne w d4_7 14 (by decide) (by decide) 10 rfl (fun hc7 => ?_) (fun hc7 => ?_)
    · -- pc 14 (taken: not q = (0 : Int64))
      refine g_iconst w d4_14 (0 : Int32) rfl 15 rfl ?_
      exact g_iretn w (by simp) d4_15 (by decide) (by decide) ⟨congrArg (fun z => some (Value.int z)) (by simp [own_lit, *] <;> rfl), rfl⟩
    · -- pc 10 (on: q = (0 : Int64))
      refine g_iconst w d4_10 (1 : Int32) rfl 11 rfl ?_
      refine g_goto w d4_11 15 (by decide) (by decide) ?_
      exact g_iretn w (by simp) d4_15 (by decide) (by decide) ⟨congrArg (fun z => some (Value.int z)) (by simp [own_lit, *] <;> rfl), rfl⟩
theorem d2_0 : decode prog_8_method_1_code 0 = .ok (.aload_n 0, 1) := by decide +kernel
theorem d2_1 : decode prog_8_method_1_code 1 = .ok (.invokespecial 1, 3) := by decide +kernel
theorem d2_4 : decode prog_8_method_1_code 4 = .ok (.aload_n 1, 1) := by decide +kernel
theorem d2_5 : decode prog_8_method_1_code 5 = .ok (.arraylength, 1) := by decide +kernel
theorem d2_6 : decode prog_8_method_1_code 6 = .ok (.aload_n 2, 1) := by decide +kernel
theorem d2_7 : decode prog_8_method_1_code 7 = .ok (.arraylength, 1) := by decide +kernel
theorem d2_8 : decode prog_8_method_1_code 8 = .ok (.if_icmp .eq 13, 3) := by decide +kernel
theorem d2_11 : decode prog_8_method_1_code 11 = .ok (.new 7, 3) := by decide +kernel
theorem d2_14 : decode prog_8_method_1_code 14 = .ok (.dup, 1) := by decide +kernel
theorem d2_15 : decode prog_8_method_1_code 15 = .ok (.ldc 9, 2) := by decide +kernel
theorem d2_17 : decode prog_8_method_1_code 17 = .ok (.invokespecial 11, 3) := by decide +kernel
theorem d2_20 : decode prog_8_method_1_code 20 = .ok (.athrow, 1) := by decide +kernel
theorem d2_21 : decode prog_8_method_1_code 21 = .ok (.aload_n 1, 1) := by decide +kernel
theorem d2_22 : decode prog_8_method_1_code 22 = .ok (.astore_n 3, 1) := by decide +kernel
theorem d2_23 : decode prog_8_method_1_code 23 = .ok (.aload_n 3, 1) := by decide +kernel
theorem d2_24 : decode prog_8_method_1_code 24 = .ok (.arraylength, 1) := by decide +kernel
theorem d2_25 : decode prog_8_method_1_code 25 = .ok (.istore 4, 2) := by decide +kernel
theorem d2_27 : decode prog_8_method_1_code 27 = .ok (.iconst 0, 1) := by decide +kernel
theorem d2_28 : decode prog_8_method_1_code 28 = .ok (.istore 5, 2) := by decide +kernel
theorem d2_30 : decode prog_8_method_1_code 30 = .ok (.iload 5, 2) := by decide +kernel
theorem d2_32 : decode prog_8_method_1_code 32 = .ok (.iload 4, 2) := by decide +kernel
theorem d2_34 : decode prog_8_method_1_code 34 = .ok (.if_icmp .ge 35, 3) := by decide +kernel
theorem d2_37 : decode prog_8_method_1_code 37 = .ok (.aload_n 3, 1) := by decide +kernel
theorem d2_38 : decode prog_8_method_1_code 38 = .ok (.iload 5, 2) := by decide +kernel
theorem d2_40 : decode prog_8_method_1_code 40 = .ok (.iaload, 1) := by decide +kernel
theorem d2_41 : decode prog_8_method_1_code 41 = .ok (.istore 6, 2) := by decide +kernel
theorem d2_43 : decode prog_8_method_1_code 43 = .ok (.iload 6, 2) := by decide +kernel
theorem d2_45 : decode prog_8_method_1_code 45 = .ok (.ifCond .ge 18, 3) := by decide +kernel
theorem d2_48 : decode prog_8_method_1_code 48 = .ok (.new 7, 3) := by decide +kernel
theorem d2_51 : decode prog_8_method_1_code 51 = .ok (.dup, 1) := by decide +kernel
theorem d2_52 : decode prog_8_method_1_code 52 = .ok (.iload 6, 2) := by decide +kernel
theorem d2_59 : decode prog_8_method_1_code 59 = .ok (.invokespecial 11, 3) := by decide +kernel
theorem d2_62 : decode prog_8_method_1_code 62 = .ok (.athrow, 1) := by decide +kernel
theorem d2_63 : decode prog_8_method_1_code 63 = .ok (.iinc 5 1, 3) := by decide +kernel
theorem d2_66 : decode prog_8_method_1_code 66 = .ok (.goto (-36), 3) := by decide +kernel
theorem d2_69 : decode prog_8_method_1_code 69 = .ok (.aload_n 0, 1) := by decide +kernel
theorem d2_70 : decode prog_8_method_1_code 70 = .ok (.aload_n 1, 1) := by decide +kernel
theorem d2_71 : decode prog_8_method_1_code 71 = .ok (.invokevirtual 18, 3) := by decide +kernel
theorem d2_74 : decode prog_8_method_1_code 74 = .ok (.checkcast 19, 3) := by decide +kernel
theorem d2_77 : decode prog_8_method_1_code 77 = .ok (.putfield 24, 3) := by decide +kernel
theorem d2_80 : decode prog_8_method_1_code 80 = .ok (.aload_n 0, 1) := by decide +kernel
theorem d2_81 : decode prog_8_method_1_code 81 = .ok (.aload_n 2, 1) := by decide +kernel
theorem d2_82 : decode prog_8_method_1_code 82 = .ok (.invokevirtual 29, 3) := by decide +kernel
theorem d2_85 : decode prog_8_method_1_code 85 = .ok (.checkcast 30, 3) := by decide +kernel
theorem d2_88 : decode prog_8_method_1_code 88 = .ok (.putfield 32, 3) := by decide +kernel
theorem d2_91 : decode prog_8_method_1_code 91 = .ok (.return_, 1) := by decide +kernel
theorem pn_2 : plainFor (⟨"com/example/chancebound/chancebound/model/Clause", "<init>", "([I[Z)V"⟩ : MethodName) = true := plainFor_of_name (by first | (simp [plainName, overriddenIn]; done) | decide +kernel)
theorem d5_0 : decode prog_8_method_5_code 0 = .ok (.iconst 0, 1) := by decide +kernel
theorem d5_1 : decode prog_8_method_5_code 1 = .ok (.istore_n 2, 1) := by decide +kernel
theorem d5_2 : decode prog_8_method_5_code 2 = .ok (.iload_n 2, 1) := by decide +kernel
theorem d5_3 : decode prog_8_method_5_code 3 = .ok (.aload_n 0, 1) := by decide +kernel
theorem d5_4 : decode prog_8_method_5_code 4 = .ok (.getfield 24, 3) := by decide +kernel
theorem d5_7 : decode prog_8_method_5_code 7 = .ok (.arraylength, 1) := by decide +kernel
theorem d5_8 : decode prog_8_method_5_code 8 = .ok (.if_icmp .ge 38, 3) := by decide +kernel
theorem d5_11 : decode prog_8_method_5_code 11 = .ok (.aload_n 1, 1) := by decide +kernel
theorem d5_12 : decode prog_8_method_5_code 12 = .ok (.aload_n 0, 1) := by decide +kernel
theorem d5_13 : decode prog_8_method_5_code 13 = .ok (.getfield 24, 3) := by decide +kernel
theorem d5_16 : decode prog_8_method_5_code 16 = .ok (.iload_n 2, 1) := by decide +kernel
theorem d5_17 : decode prog_8_method_5_code 17 = .ok (.iaload, 1) := by decide +kernel
theorem d5_18 : decode prog_8_method_5_code 18 = .ok (.laload, 1) := by decide +kernel
theorem d5_19 : decode prog_8_method_5_code 19 = .ok (.aload_n 0, 1) := by decide +kernel
theorem d5_20 : decode prog_8_method_5_code 20 = .ok (.getfield 32, 3) := by decide +kernel
theorem d5_23 : decode prog_8_method_5_code 23 = .ok (.iload_n 2, 1) := by decide +kernel
theorem d5_24 : decode prog_8_method_5_code 24 = .ok (.baload, 1) := by decide +kernel
theorem d5_25 : decode prog_8_method_5_code 25 = .ok (.ifCond .eq 7, 3) := by decide +kernel
theorem d5_28 : decode prog_8_method_5_code 28 = .ok (.iconst 0, 1) := by decide +kernel
theorem d5_29 : decode prog_8_method_5_code 29 = .ok (.goto 4, 3) := by decide +kernel
theorem d5_32 : decode prog_8_method_5_code 32 = .ok (.iconst 1, 1) := by decide +kernel
theorem d5_33 : decode prog_8_method_5_code 33 = .ok (.i2l, 1) := by decide +kernel
theorem d5_34 : decode prog_8_method_5_code 34 = .ok (.lcmp, 1) := by decide +kernel
theorem d5_35 : decode prog_8_method_5_code 35 = .ok (.ifCond .ne 5, 3) := by decide +kernel
theorem d5_38 : decode prog_8_method_5_code 38 = .ok (.iconst 1, 1) := by decide +kernel
theorem d5_39 : decode prog_8_method_5_code 39 = .ok (.ireturn, 1) := by decide +kernel
theorem d5_40 : decode prog_8_method_5_code 40 = .ok (.iinc 2 1, 3) := by decide +kernel
theorem d5_43 : decode prog_8_method_5_code 43 = .ok (.goto (-41), 3) := by decide +kernel
theorem d5_46 : decode prog_8_method_5_code 46 = .ok (.iconst 0, 1) := by decide +kernel
theorem d5_47 : decode prog_8_method_5_code 47 = .ok (.ireturn, 1) := by decide +kernel
theorem pn_5 : plainFor (⟨"com/example/chancebound/chancebound/model/Clause", "holds", "([J)Z"⟩ : MethodName) = true := plainFor_of_name (by first | (simp [plainName, overriddenIn]; done) | decide +kernel)
set_option maxRecDepth 65536 in
set_option maxHeartbeats 40000000 in
theorem rmC_0 (l : Launch) (Z : State) (a0 : Array Value) (hw : ∀ d ∈ tables_1, d.before a0 Z = true) (n0 : Nat) (va vi vb co : Addr) (w0 w1 w2 w3 : Int64)  :
    Con l (⟨"com/example/chancebound/chancebound/model/Clause", "<init>", "([I[Z)V"⟩ : MethodName) prog_8_method_1_code 7 none ({ frames := 1, cells := 2, slots := 0, locals := 15 } : Room) Z n0 #[(.ref co), (.ref vi), (.ref vb)] ([(va, .inr (.long, [(.long w0), (.long w1), (.long w2), (.long w3)])), (vi, .inr (.int, [])), (vb, .inr (.boolean, [])), (co, O_Clause .null .null)]) (fun v L' => v = none ∧ ∃ y1 y2, L' = [(va, .inr (.long, [(.long w0), (.long w1), (.long w2), (.long w3)])), (vi, .inr (.int, [])), (vb, .inr (.boolean, [])), (co, O_Clause (.ref y1) (.ref y2)), (y1, .inr (.int, [])), (y2, .inr (.boolean, []))]) := by
  refine Con.of (ws := tables_1) (a0 := a0) pn_2 hw ?_
  intro p e s m below meth cde T kb w
  refine g_entry #[.val (.ref co), .val (.ref vi), .val (.ref vb), .unset, .unset, .unset, .unset] (by first | (simp [entryFrame, mkF, argsToLocals, Value.category]; done) | rfl) ?_
  refine g_aloadN w d2_0 rfl rfl 1 rfl ?_
  refine g_initO w d2_1 13 rfl 14 rfl 15 rfl rfl (by decide) 0 rfl (by decide) 4 rfl (fun T w => ?_)
  refine g_aloadN w d2_4 rfl rfl 5 rfl ?_
  refine g_alen w d2_5 1 rfl (0 : Int32) rfl 6 rfl ?_
  refine g_aloadN w d2_6 rfl rfl 7 rfl ?_
  refine g_alen w d2_7 2 rfl (0 : Int32) rfl 8 rfl ?_
  refine g_icmp_eq w d2_8 21 (by decide) (by decide) 11 rfl (fun hc8 => ?_) (fun h => absurd (by decide) h)
  refine g_aloadN w d2_21 rfl rfl 22 rfl ?_
  refine g_astoreN w d2_22 23 rfl rfl #[.val (.ref co), .val (.ref vi), .val (.ref vb), .val (.ref vi), .unset, .unset, .unset] rfl ?_
  refine g_aloadN w d2_23 rfl rfl 24 rfl ?_
  refine g_alen w d2_24 1 rfl (0 : Int32) rfl 25 rfl ?_
  refine g_istore w d2_25 27 rfl rfl #[.val (.ref co), .val (.ref vi), .val (.ref vb), .val (.ref vi), .val (.int (0 : Int32)), .unset, .unset] rfl ?_
  refine g_iconst w d2_27 (0 : Int32) rfl 28 rfl ?_
  refine g_istore w d2_28 30 rfl rfl #[.val (.ref co), .val (.ref vi), .val (.ref vb), .val (.ref vi), .val (.int (0 : Int32)), .val (.int (0 : Int32)), .unset] rfl ?_
  refine g_iload w d2_30 rfl 32 rfl ?_
  refine g_iload w d2_32 rfl 34 rfl ?_
  refine g_icmp_ge w d2_34 69 (by decide) (by decide) 37 rfl (fun hc34 => ?_) (fun h => absurd h (by decide))
  refine g_aloadN w d2_69 rfl rfl 70 rfl ?_
  refine g_aloadN w d2_70 rfl rfl 71 rfl ?_
  refine g_cloneA w d2_71 1 rfl (by decide) 16 rfl 17 rfl 21 rfl 19 rfl 20 rfl 22 rfl (fun v hv => (List.not_mem_nil hv).elim) rfl (by decide) 1 0 rfl (by decide) (Nat.le_of_ble_eq_true rfl) (by decide) (by decide) 74 rfl (fun T b1 w => ?_)
  replace w := w.to (L' := [(va, .inr (.long, [(.long w0), (.long w1), (.long w2), (.long w3)])), (vi, .inr (.int, [])), (vb, .inr (.boolean, [])), (co, O_Clause .null .null), (b1, .inr (.int, []))]) rfl
  refine g_castA w d2_74 4 rfl 23 rfl (by decide) 77 rfl (fun T w => ?_)
  refine g_putf w d2_77 3 rfl 0 rfl 25 rfl Via.refl 26 (Or.inr ⟨rfl, rfl, rfl⟩) 8 rfl (ty := (.array .int)) (by decide) rfl rfl 80 rfl (fun T w => ?_)
  replace w := w.to (L' := [(va, .inr (.long, [(.long w0), (.long w1), (.long w2), (.long w3)])), (vi, .inr (.int, [])), (vb, .inr (.boolean, [])), (co, O_Clause (.ref b1) .null), (b1, .inr (.int, []))]) rfl
  refine g_aloadN w d2_80 rfl rfl 81 rfl ?_
  refine g_aloadN w d2_81 rfl rfl 82 rfl ?_
  refine g_cloneA w d2_82 2 rfl (by decide) 27 rfl 28 rfl 21 rfl 19 rfl 29 rfl 30 rfl (fun v hv => (List.not_mem_nil hv).elim) rfl (by decide) 1 0 rfl (by decide) (Nat.le_of_ble_eq_true rfl) (by decide) (by decide) 85 rfl (fun T b2 w => ?_)
  replace w := w.to (L' := [(va, .inr (.long, [(.long w0), (.long w1), (.long w2), (.long w3)])), (vi, .inr (.int, [])), (vb, .inr (.boolean, [])), (co, O_Clause (.ref b1) .null), (b1, .inr (.int, [])), (b2, .inr (.boolean, []))]) rfl
  refine g_castA w d2_85 5 rfl 31 rfl (by decide) 88 rfl (fun T w => ?_)
  refine g_putf w d2_88 3 rfl 1 rfl 33 rfl Via.refl 34 (Or.inr ⟨rfl, rfl, rfl⟩) 8 rfl (ty := (.array .boolean)) (by decide) rfl rfl 91 rfl (fun T w => ?_)
  replace w := w.to (L' := [(va, .inr (.long, [(.long w0), (.long w1), (.long w2), (.long w3)])), (vi, .inr (.int, [])), (vb, .inr (.boolean, [])), (co, O_Clause (.ref b1) (.ref b2)), (b1, .inr (.int, [])), (b2, .inr (.boolean, []))]) rfl
  exact g_ret w d2_91 (by decide) (by decide) ⟨rfl, b1, b2, rfl⟩
set_option maxRecDepth 65536 in
set_option maxHeartbeats 40000000 in
theorem rmH_0 (l : Launch) (Z : State) (a0 : Array Value) (hw : ∀ d ∈ tables_1, d.before a0 Z = true) (n0 : Nat) (va vi vb co y1 y2 : Addr) (w0 w1 w2 w3 : Int64)  :
    Con l (⟨"com/example/chancebound/chancebound/model/Clause", "holds", "([J)Z"⟩ : MethodName) prog_8_method_5_code 3 (some .boolean) ({ frames := 0, cells := 0, slots := 0, locals := 0 } : Room) Z n0 #[(.ref co), (.ref va)] ([(va, .inr (.long, [(.long w0), (.long w1), (.long w2), (.long w3)])), (vi, .inr (.int, [])), (vb, .inr (.boolean, [])), (co, O_Clause (.ref y1) (.ref y2)), (y1, .inr (.int, [])), (y2, .inr (.boolean, []))]) (fun v L' => v = some (.int (own_h0 )) ∧ L' = [(va, .inr (.long, [(.long w0), (.long w1), (.long w2), (.long w3)])), (vi, .inr (.int, [])), (vb, .inr (.boolean, [])), (co, O_Clause (.ref y1) (.ref y2)), (y1, .inr (.int, [])), (y2, .inr (.boolean, []))]) := by
  refine Con.of (ws := tables_1) (a0 := a0) pn_5 hw ?_
  intro p e s m below meth cde T kb w
  refine g_entry #[.val (.ref co), .val (.ref va), .unset] (by first | (simp [entryFrame, mkF, argsToLocals, Value.category]; done) | rfl) ?_
  refine g_iconst w d5_0 (0 : Int32) rfl 1 rfl ?_
  refine g_istoreN w d5_1 2 rfl rfl #[.val (.ref co), .val (.ref va), .val (.int (0 : Int32))] rfl ?_
  refine g_iloadN w d5_2 rfl 3 rfl ?_
  refine g_aloadN w d5_3 rfl rfl 4 rfl ?_
  refine g_getf w d5_4 3 rfl 0 rfl 25 rfl Via.refl 7 rfl (fun T w => ?_)
  refine g_alen w d5_7 4 rfl (0 : Int32) rfl 8 rfl ?_
  refine g_icmp_ge w d5_8 46 (by decide) (by decide) 11 rfl (fun hc8 => ?_) (fun h => absurd h (by decide))
  refine g_iconst w d5_46 (0 : Int32) rfl 47 rfl ?_
  exact g_iretn w (by simp) d5_47 (by decide) (by decide) ⟨congrArg (fun z => some (Value.int z)) (by simp [own_h0, own_lit, *] <;> rfl), rfl⟩
set_option maxRecDepth 65536 in
set_option maxHeartbeats 40000000 in
theorem rmC_1 (l : Launch) (Z : State) (a0 : Array Value) (hw : ∀ d ∈ tables_1, d.before a0 Z = true) (n0 : Nat) (va vi vb co : Addr) (w0 w1 w2 w3 : Int64) (x0 s0 : Int32) (ok0 : own_ok x0) (hs0 : s0 = 0 ∨ s0 = 1) :
    Con l (⟨"com/example/chancebound/chancebound/model/Clause", "<init>", "([I[Z)V"⟩ : MethodName) prog_8_method_1_code 7 none ({ frames := 1, cells := 2, slots := 2, locals := 15 } : Room) Z n0 #[(.ref co), (.ref vi), (.ref vb)] ([(va, .inr (.long, [(.long w0), (.long w1), (.long w2), (.long w3)])), (vi, .inr (.int, [(.int x0)])), (vb, .inr (.boolean, [(.int s0)])), (co, O_Clause .null .null)]) (fun v L' => v = none ∧ ∃ y1 y2, L' = [(va, .inr (.long, [(.long w0), (.long w1), (.long w2), (.long w3)])), (vi, .inr (.int, [(.int x0)])), (vb, .inr (.boolean, [(.int s0)])), (co, O_Clause (.ref y1) (.ref y2)), (y1, .inr (.int, [(.int x0)])), (y2, .inr (.boolean, [(.int s0)]))]) := by
  refine Con.of (ws := tables_1) (a0 := a0) pn_2 hw ?_
  intro p e s m below meth cde T kb w
  refine g_entry #[.val (.ref co), .val (.ref vi), .val (.ref vb), .unset, .unset, .unset, .unset] (by first | (simp [entryFrame, mkF, argsToLocals, Value.category]; done) | rfl) ?_
  refine g_aloadN w d2_0 rfl rfl 1 rfl ?_
  refine g_initO w d2_1 13 rfl 14 rfl 15 rfl rfl (by decide) 0 rfl (by decide) 4 rfl (fun T w => ?_)
  refine g_aloadN w d2_4 rfl rfl 5 rfl ?_
  refine g_alen w d2_5 1 rfl (1 : Int32) rfl 6 rfl ?_
  refine g_aloadN w d2_6 rfl rfl 7 rfl ?_
  refine g_alen w d2_7 2 rfl (1 : Int32) rfl 8 rfl ?_
  refine g_icmp_eq w d2_8 21 (by decide) (by decide) 11 rfl (fun hc8 => ?_) (fun h => absurd (by decide) h)
  refine g_aloadN w d2_21 rfl rfl 22 rfl ?_
  refine g_astoreN w d2_22 23 rfl rfl #[.val (.ref co), .val (.ref vi), .val (.ref vb), .val (.ref vi), .unset, .unset, .unset] rfl ?_
  refine g_aloadN w d2_23 rfl rfl 24 rfl ?_
  refine g_alen w d2_24 1 rfl (1 : Int32) rfl 25 rfl ?_
  refine g_istore w d2_25 27 rfl rfl #[.val (.ref co), .val (.ref vi), .val (.ref vb), .val (.ref vi), .val (.int (1 : Int32)), .unset, .unset] rfl ?_
  refine g_iconst w d2_27 (0 : Int32) rfl 28 rfl ?_
  refine g_istore w d2_28 30 rfl rfl #[.val (.ref co), .val (.ref vi), .val (.ref vb), .val (.ref vi), .val (.int (1 : Int32)), .val (.int (0 : Int32)), .unset] rfl ?_
  refine g_iload w d2_30 rfl 32 rfl ?_
  refine g_iload w d2_32 rfl 34 rfl ?_
  refine g_icmp_ge w d2_34 69 (by decide) (by decide) 37 rfl (fun h => absurd (by decide) h) (fun hc34 => ?_)
  refine g_aloadN w d2_37 rfl rfl 38 rfl ?_
  refine g_iload w d2_38 rfl 40 rfl ?_
  refine g_iaload w d2_40 1 rfl 0 (by decide) rfl 41 rfl ?_
  refine g_istore w d2_41 43 rfl rfl #[.val (.ref co), .val (.ref vi), .val (.ref vb), .val (.ref vi), .val (.int (1 : Int32)), .val (.int (0 : Int32)), .val (.int x0)] rfl ?_
  refine g_iload w d2_43 rfl 45 rfl ?_
  refine g_if_ge w d2_45 63 (by decide) (by decide) 48 rfl (fun hc45 => ?_) (fun h => absurd h (own_ok_nn ok0))
  refine g_iinc w d2_63 66 rfl rfl (by decide) #[.val (.ref co), .val (.ref vi), .val (.ref vb), .val (.ref vi), .val (.int (1 : Int32)), .val (.int (1 : Int32)), .val (.int x0)] rfl ?_
  refine g_goto w d2_66 30 (by decide) (by decide) ?_
  refine g_iload w d2_30 rfl 32 rfl ?_
  refine g_iload w d2_32 rfl 34 rfl ?_
  refine g_icmp_ge w d2_34 69 (by decide) (by decide) 37 rfl (fun hc34 => ?_) (fun h => absurd h (by decide))
  refine g_aloadN w d2_69 rfl rfl 70 rfl ?_
  refine g_aloadN w d2_70 rfl rfl 71 rfl ?_
  refine g_cloneA w d2_71 1 rfl (by decide) 16 rfl 17 rfl 21 rfl 19 rfl 20 rfl 22 rfl (by intro v hv; simp only [List.mem_cons, List.not_mem_nil, or_false] at hv; rcases hv with rfl <;> rfl) rfl (by decide) 1 1 rfl (by decide) (Nat.le_of_ble_eq_true rfl) (by decide) (by decide) 74 rfl (fun T b1 w => ?_)
  replace w := w.to (L' := [(va, .inr (.long, [(.long w0), (.long w1), (.long w2), (.long w3)])), (vi, .inr (.int, [(.int x0)])), (vb, .inr (.boolean, [(.int s0)])), (co, O_Clause .null .null), (b1, .inr (.int, [(.int x0)]))]) rfl
  refine g_castA w d2_74 4 rfl 23 rfl (by decide) 77 rfl (fun T w => ?_)
  refine g_putf w d2_77 3 rfl 0 rfl 25 rfl Via.refl 26 (Or.inr ⟨rfl, rfl, rfl⟩) 8 rfl (ty := (.array .int)) (by decide) rfl rfl 80 rfl (fun T w => ?_)
  replace w := w.to (L' := [(va, .inr (.long, [(.long w0), (.long w1), (.long w2), (.long w3)])), (vi, .inr (.int, [(.int x0)])), (vb, .inr (.boolean, [(.int s0)])), (co, O_Clause (.ref b1) .null), (b1, .inr (.int, [(.int x0)]))]) rfl
  refine g_aloadN w d2_80 rfl rfl 81 rfl ?_
  refine g_aloadN w d2_81 rfl rfl 82 rfl ?_
  refine g_cloneA w d2_82 2 rfl (by decide) 27 rfl 28 rfl 21 rfl 19 rfl 29 rfl 30 rfl (by intro v hv; simp only [List.mem_cons, List.not_mem_nil, or_false] at hv; rcases hv with rfl <;> first | exact own_fitb hs0) rfl (by decide) 1 1 rfl (by decide) (Nat.le_of_ble_eq_true rfl) (by decide) (by decide) 85 rfl (fun T b2 w => ?_)
  replace w := w.to (L' := [(va, .inr (.long, [(.long w0), (.long w1), (.long w2), (.long w3)])), (vi, .inr (.int, [(.int x0)])), (vb, .inr (.boolean, [(.int s0)])), (co, O_Clause (.ref b1) .null), (b1, .inr (.int, [(.int x0)])), (b2, .inr (.boolean, [(.int s0)]))]) rfl
  refine g_castA w d2_85 5 rfl 31 rfl (by decide) 88 rfl (fun T w => ?_)
  refine g_putf w d2_88 3 rfl 1 rfl 33 rfl Via.refl 34 (Or.inr ⟨rfl, rfl, rfl⟩) 8 rfl (ty := (.array .boolean)) (by decide) rfl rfl 91 rfl (fun T w => ?_)
  replace w := w.to (L' := [(va, .inr (.long, [(.long w0), (.long w1), (.long w2), (.long w3)])), (vi, .inr (.int, [(.int x0)])), (vb, .inr (.boolean, [(.int s0)])), (co, O_Clause (.ref b1) (.ref b2)), (b1, .inr (.int, [(.int x0)])), (b2, .inr (.boolean, [(.int s0)]))]) rfl
  exact g_ret w d2_91 (by decide) (by decide) ⟨rfl, b1, b2, rfl⟩
set_option maxRecDepth 65536 in
set_option maxHeartbeats 40000000 in
theorem rmH_1 (l : Launch) (Z : State) (a0 : Array Value) (hw : ∀ d ∈ tables_1, d.before a0 Z = true) (n0 : Nat) (va vi vb co y1 y2 : Addr) (w0 w1 w2 w3 : Int64) (x0 s0 : Int32) (ok0 : own_ok x0) (hs0 : s0 = 0 ∨ s0 = 1) :
    Con l (⟨"com/example/chancebound/chancebound/model/Clause", "holds", "([J)Z"⟩ : MethodName) prog_8_method_5_code 3 (some .boolean) ({ frames := 0, cells := 0, slots := 0, locals := 0 } : Room) Z n0 #[(.ref co), (.ref va)] ([(va, .inr (.long, [(.long w0), (.long w1), (.long w2), (.long w3)])), (vi, .inr (.int, [(.int x0)])), (vb, .inr (.boolean, [(.int s0)])), (co, O_Clause (.ref y1) (.ref y2)), (y1, .inr (.int, [(.int x0)])), (y2, .inr (.boolean, [(.int s0)]))]) (fun v L' => v = some (.int (own_h1 (own_lit (own_at4 w0 w1 w2 w3 x0) s0))) ∧ L' = [(va, .inr (.long, [(.long w0), (.long w1), (.long w2), (.long w3)])), (vi, .inr (.int, [(.int x0)])), (vb, .inr (.boolean, [(.int s0)])), (co, O_Clause (.ref y1) (.ref y2)), (y1, .inr (.int, [(.int x0)])), (y2, .inr (.boolean, [(.int s0)]))]) := by
  refine Con.of (ws := tables_1) (a0 := a0) pn_5 hw ?_
  intro p e s m below meth cde T kb w
  refine g_entry #[.val (.ref co), .val (.ref va), .unset] (by first | (simp [entryFrame, mkF, argsToLocals, Value.category]; done) | rfl) ?_
  refine g_iconst w d5_0 (0 : Int32) rfl 1 rfl ?_
  refine g_istoreN w d5_1 2 rfl rfl #[.val (.ref co), .val (.ref va), .val (.int (0 : Int32))] rfl ?_
  refine g_iloadN w d5_2 rfl 3 rfl ?_
  refine g_aloadN w d5_3 rfl rfl 4 rfl ?_
  refine g_getf w d5_4 3 rfl 0 rfl 25 rfl Via.refl 7 rfl (fun T w => ?_)
  refine g_alen w d5_7 4 rfl (1 : Int32) rfl 8 rfl ?_
  refine g_icmp_ge w d5_8 46 (by decide) (by decide) 11 rfl (fun h => absurd (by decide) h) (fun hc8 => ?_)
  refine g_aloadN w d5_11 rfl rfl 12 rfl ?_
  refine g_aloadN w d5_12 rfl rfl 13 rfl ?_
  refine g_getf w d5_13 3 rfl 0 rfl 25 rfl Via.refl 16 rfl (fun T w => ?_)
  refine g_iloadN w d5_16 rfl 17 rfl ?_
  refine g_iaload w d5_17 4 rfl 0 (by decide) rfl 18 rfl ?_
  obtain ⟨jn, hj, hz⟩ := own_get w0 w1 w2 w3 ok0
  refine g_laload w d5_18 0 rfl jn hj hz 19 rfl ?_
  refine g_aloadN w d5_19 rfl rfl 20 rfl ?_
  refine g_getf w d5_20 3 rfl 1 rfl 33 rfl Via.refl 23 rfl (fun T w => ?_)
  refine g_iloadN w d5_23 rfl 24 rfl ?_
  refine g_zaload w d5_24 5 rfl 0 (by decide) rfl 25 rfl ?_
  refine g_if_eq w d5_25 32 (by decide) (by decide) 28 rfl (fun hc25 => ?_) (fun hc25 => ?_)
  · -- pc 32 (taken: s0 = (0 : Int32))
    refine g_iconst w d5_32 (1 : Int32) rfl 33 rfl ?_
    refine g_i2l w d5_33 34 rfl ?_
    refine g_long (x' := (1 : Int64)) (by decide) ?_
    refine g_lcmp w d5_34 35 rfl ?_
    refine g_lif_ne w d5_35 40 (by decide) (by decide) 38 rfl (fun hc35 => ?_) (fun hc35 => ?_)
    · -- pc 40 (taken: not (own_at4 w0 w1 w2 w3 x0) = (1 : Int64))
      refine g_iinc w d5_40 43 rfl rfl (by decide) #[.val (.ref co), .val (.ref va), .val (.int (1 : Int32))] rfl ?_
      refine g_goto w d5_43 2 (by decide) (by decide) ?_
      refine g_iloadN w d5_2 rfl 3 rfl ?_
      refine g_aloadN w d5_3 rfl rfl 4 rfl ?_
      refine g_getf w d5_4 3 rfl 0 rfl 25 rfl Via.refl 7 rfl (fun T w => ?_)
      refine g_alen w d5_7 4 rfl (1 : Int32) rfl 8 rfl ?_
      refine g_icmp_ge w d5_8 46 (by decide) (by decide) 11 rfl (fun hc8 => ?_) (fun h => absurd h (by decide))
      refine g_iconst w d5_46 (0 : Int32) rfl 47 rfl ?_
      exact g_iretn w (by simp) d5_47 (by decide) (by decide) ⟨congrArg (fun z => some (Value.int z)) (by simp [own_h1, own_lit, *] <;> rfl), rfl⟩
    · -- pc 38 (on: (own_at4 w0 w1 w2 w3 x0) = (1 : Int64))
      refine g_iconst w d5_38 (1 : Int32) rfl 39 rfl ?_
      exact g_iretn w (by simp) d5_39 (by decide) (by decide) ⟨congrArg (fun z => some (Value.int z)) (by simp [own_h1, own_lit, *] <;> rfl), rfl⟩
  · -- pc 28 (on: not s0 = (0 : Int32))
    refine g_iconst w d5_28 (0 : Int32) rfl 29 rfl ?_
    refine g_goto w d5_29 33 (by decide) (by decide) ?_
    refine g_i2l w d5_33 34 rfl ?_
    refine g_long (x' := (0 : Int64)) (by decide) ?_
    refine g_lcmp w d5_34 35 rfl ?_
    refine g_lif_ne w d5_35 40 (by decide) (by decide) 38 rfl (fun hc35 => ?_) (fun hc35 => ?_)
    · -- pc 40 (taken: not (own_at4 w0 w1 w2 w3 x0) = (0 : Int64))
      refine g_iinc w d5_40 43 rfl rfl (by decide) #[.val (.ref co), .val (.ref va), .val (.int (1 : Int32))] rfl ?_
      refine g_goto w d5_43 2 (by decide) (by decide) ?_
      refine g_iloadN w d5_2 rfl 3 rfl ?_
      refine g_aloadN w d5_3 rfl rfl 4 rfl ?_
      refine g_getf w d5_4 3 rfl 0 rfl 25 rfl Via.refl 7 rfl (fun T w => ?_)
      refine g_alen w d5_7 4 rfl (1 : Int32) rfl 8 rfl ?_
      refine g_icmp_ge w d5_8 46 (by decide) (by decide) 11 rfl (fun hc8 => ?_) (fun h => absurd h (by decide))
      refine g_iconst w d5_46 (0 : Int32) rfl 47 rfl ?_
      exact g_iretn w (by simp) d5_47 (by decide) (by decide) ⟨congrArg (fun z => some (Value.int z)) (by simp [own_h1, own_lit, *] <;> rfl), rfl⟩
    · -- pc 38 (on: (own_at4 w0 w1 w2 w3 x0) = (0 : Int64))
      refine g_iconst w d5_38 (1 : Int32) rfl 39 rfl ?_
      exact g_iretn w (by simp) d5_39 (by decide) (by decide) ⟨congrArg (fun z => some (Value.int z)) (by simp [own_h1, own_lit, *] <;> rfl), rfl⟩
set_option maxRecDepth 65536 in
set_option maxHeartbeats 40000000 in
theorem rmC_2 (l : Launch) (Z : State) (a0 : Array Value) (hw : ∀ d ∈ tables_1, d.before a0 Z = true) (n0 : Nat) (va vi vb co : Addr) (w0 w1 w2 w3 : Int64) (x0 s0 : Int32) (x1 s1 : Int32) (ok0 : own_ok x0) (hs0 : s0 = 0 ∨ s0 = 1) (ok1 : own_ok x1) (hs1 : s1 = 0 ∨ s1 = 1) :
    Con l (⟨"com/example/chancebound/chancebound/model/Clause", "<init>", "([I[Z)V"⟩ : MethodName) prog_8_method_1_code 7 none ({ frames := 1, cells := 2, slots := 4, locals := 15 } : Room) Z n0 #[(.ref co), (.ref vi), (.ref vb)] ([(va, .inr (.long, [(.long w0), (.long w1), (.long w2), (.long w3)])), (vi, .inr (.int, [(.int x0), (.int x1)])), (vb, .inr (.boolean, [(.int s0), (.int s1)])), (co, O_Clause .null .null)]) (fun v L' => v = none ∧ ∃ y1 y2, L' = [(va, .inr (.long, [(.long w0), (.long w1), (.long w2), (.long w3)])), (vi, .inr (.int, [(.int x0), (.int x1)])), (vb, .inr (.boolean, [(.int s0), (.int s1)])), (co, O_Clause (.ref y1) (.ref y2)), (y1, .inr (.int, [(.int x0), (.int x1)])), (y2, .inr (.boolean, [(.int s0), (.int s1)]))]) := by
  refine Con.of (ws := tables_1) (a0 := a0) pn_2 hw ?_
  intro p e s m below meth cde T kb w
  refine g_entry #[.val (.ref co), .val (.ref vi), .val (.ref vb), .unset, .unset, .unset, .unset] (by first | (simp [entryFrame, mkF, argsToLocals, Value.category]; done) | rfl) ?_
  refine g_aloadN w d2_0 rfl rfl 1 rfl ?_
  refine g_initO w d2_1 13 rfl 14 rfl 15 rfl rfl (by decide) 0 rfl (by decide) 4 rfl (fun T w => ?_)
  refine g_aloadN w d2_4 rfl rfl 5 rfl ?_
  refine g_alen w d2_5 1 rfl (2 : Int32) rfl 6 rfl ?_
  refine g_aloadN w d2_6 rfl rfl 7 rfl ?_
  refine g_alen w d2_7 2 rfl (2 : Int32) rfl 8 rfl ?_
  refine g_icmp_eq w d2_8 21 (by decide) (by decide) 11 rfl (fun hc8 => ?_) (fun h => absurd (by decide) h)
  refine g_aloadN w d2_21 rfl rfl 22 rfl ?_
  refine g_astoreN w d2_22 23 rfl rfl #[.val (.ref co), .val (.ref vi), .val (.ref vb), .val (.ref vi), .unset, .unset, .unset] rfl ?_
  refine g_aloadN w d2_23 rfl rfl 24 rfl ?_
  refine g_alen w d2_24 1 rfl (2 : Int32) rfl 25 rfl ?_
  refine g_istore w d2_25 27 rfl rfl #[.val (.ref co), .val (.ref vi), .val (.ref vb), .val (.ref vi), .val (.int (2 : Int32)), .unset, .unset] rfl ?_
  refine g_iconst w d2_27 (0 : Int32) rfl 28 rfl ?_
  refine g_istore w d2_28 30 rfl rfl #[.val (.ref co), .val (.ref vi), .val (.ref vb), .val (.ref vi), .val (.int (2 : Int32)), .val (.int (0 : Int32)), .unset] rfl ?_
  refine g_iload w d2_30 rfl 32 rfl ?_
  refine g_iload w d2_32 rfl 34 rfl ?_
  refine g_icmp_ge w d2_34 69 (by decide) (by decide) 37 rfl (fun h => absurd (by decide) h) (fun hc34 => ?_)
  refine g_aloadN w d2_37 rfl rfl 38 rfl ?_
  refine g_iload w d2_38 rfl 40 rfl ?_
  refine g_iaload w d2_40 1 rfl 0 (by decide) rfl 41 rfl ?_
  refine g_istore w d2_41 43 rfl rfl #[.val (.ref co), .val (.ref vi), .val (.ref vb), .val (.ref vi), .val (.int (2 : Int32)), .val (.int (0 : Int32)), .val (.int x0)] rfl ?_
  refine g_iload w d2_43 rfl 45 rfl ?_
  refine g_if_ge w d2_45 63 (by decide) (by decide) 48 rfl (fun hc45 => ?_) (fun h => absurd h (own_ok_nn ok0))
  refine g_iinc w d2_63 66 rfl rfl (by decide) #[.val (.ref co), .val (.ref vi), .val (.ref vb), .val (.ref vi), .val (.int (2 : Int32)), .val (.int (1 : Int32)), .val (.int x0)] rfl ?_
  refine g_goto w d2_66 30 (by decide) (by decide) ?_
  refine g_iload w d2_30 rfl 32 rfl ?_
  refine g_iload w d2_32 rfl 34 rfl ?_
  refine g_icmp_ge w d2_34 69 (by decide) (by decide) 37 rfl (fun h => absurd (by decide) h) (fun hc34 => ?_)
  refine g_aloadN w d2_37 rfl rfl 38 rfl ?_
  refine g_iload w d2_38 rfl 40 rfl ?_
  refine g_iaload w d2_40 1 rfl 1 (by decide) rfl 41 rfl ?_
  refine g_istore w d2_41 43 rfl rfl #[.val (.ref co), .val (.ref vi), .val (.ref vb), .val (.ref vi), .val (.int (2 : Int32)), .val (.int (1 : Int32)), .val (.int x1)] rfl ?_
  refine g_iload w d2_43 rfl 45 rfl ?_
  refine g_if_ge w d2_45 63 (by decide) (by decide) 48 rfl (fun hc45 => ?_) (fun h => absurd h (own_ok_nn ok1))
  refine g_iinc w d2_63 66 rfl rfl (by decide) #[.val (.ref co), .val (.ref vi), .val (.ref vb), .val (.ref vi), .val (.int (2 : Int32)), .val (.int (2 : Int32)), .val (.int x1)] rfl ?_
  refine g_goto w d2_66 30 (by decide) (by decide) ?_
  refine g_iload w d2_30 rfl 32 rfl ?_
  refine g_iload w d2_32 rfl 34 rfl ?_
  refine g_icmp_ge w d2_34 69 (by decide) (by decide) 37 rfl (fun hc34 => ?_) (fun h => absurd h (by decide))
  refine g_aloadN w d2_69 rfl rfl 70 rfl ?_
  refine g_aloadN w d2_70 rfl rfl 71 rfl ?_
  refine g_cloneA w d2_71 1 rfl (by decide) 16 rfl 17 rfl 21 rfl 19 rfl 20 rfl 22 rfl (by intro v hv; simp only [List.mem_cons, List.not_mem_nil, or_false] at hv; rcases hv with rfl | rfl <;> rfl) rfl (by decide) 1 2 rfl (by decide) (Nat.le_of_ble_eq_true rfl) (by decide) (by decide) 74 rfl (fun T b1 w => ?_)
  replace w := w.to (L' := [(va, .inr (.long, [(.long w0), (.long w1), (.long w2), (.long w3)])), (vi, .inr (.int, [(.int x0), (.int x1)])), (vb, .inr (.boolean, [(.int s0), (.int s1)])), (co, O_Clause .null .null), (b1, .inr (.int, [(.int x0), (.int x1)]))]) rfl
  refine g_castA w d2_74 4 rfl 23 rfl (by decide) 77 rfl (fun T w => ?_)
  refine g_putf w d2_77 3 rfl 0 rfl 25 rfl Via.refl 26 (Or.inr ⟨rfl, rfl, rfl⟩) 8 rfl (ty := (.array .int)) (by decide) rfl rfl 80 rfl (fun T w => ?_)
  replace w := w.to (L' := [(va, .inr (.long, [(.long w0), (.long w1), (.long w2), (.long w3)])), (vi, .inr (.int, [(.int x0), (.int x1)])), (vb, .inr (.boolean, [(.int s0), (.int s1)])), (co, O_Clause (.ref b1) .null), (b1, .inr (.int, [(.int x0), (.int x1)]))]) rfl
  refine g_aloadN w d2_80 rfl rfl 81 rfl ?_
  refine g_aloadN w d2_81 rfl rfl 82 rfl ?_
  refine g_cloneA w d2_82 2 rfl (by decide) 27 rfl 28 rfl 21 rfl 19 rfl 29 rfl 30 rfl (by intro v hv; simp only [List.mem_cons, List.not_mem_nil, or_false] at hv; rcases hv with rfl | rfl <;> first | exact own_fitb hs0 | exact own_fitb hs1) rfl (by decide) 1 2 rfl (by decide) (Nat.le_of_ble_eq_true rfl) (by decide) (by decide) 85 rfl (fun T b2 w => ?_)
  replace w := w.to (L' := [(va, .inr (.long, [(.long w0), (.long w1), (.long w2), (.long w3)])), (vi, .inr (.int, [(.int x0), (.int x1)])), (vb, .inr (.boolean, [(.int s0), (.int s1)])), (co, O_Clause (.ref b1) .null), (b1, .inr (.int, [(.int x0), (.int x1)])), (b2, .inr (.boolean, [(.int s0), (.int s1)]))]) rfl
  refine g_castA w d2_85 5 rfl 31 rfl (by decide) 88 rfl (fun T w => ?_)
  refine g_putf w d2_88 3 rfl 1 rfl 33 rfl Via.refl 34 (Or.inr ⟨rfl, rfl, rfl⟩) 8 rfl (ty := (.array .boolean)) (by decide) rfl rfl 91 rfl (fun T w => ?_)
  replace w := w.to (L' := [(va, .inr (.long, [(.long w0), (.long w1), (.long w2), (.long w3)])), (vi, .inr (.int, [(.int x0), (.int x1)])), (vb, .inr (.boolean, [(.int s0), (.int s1)])), (co, O_Clause (.ref b1) (.ref b2)), (b1, .inr (.int, [(.int x0), (.int x1)])), (b2, .inr (.boolean, [(.int s0), (.int s1)]))]) rfl
  exact g_ret w d2_91 (by decide) (by decide) ⟨rfl, b1, b2, rfl⟩
set_option maxRecDepth 65536 in
set_option maxHeartbeats 40000000 in
theorem rmH_2 (l : Launch) (Z : State) (a0 : Array Value) (hw : ∀ d ∈ tables_1, d.before a0 Z = true) (n0 : Nat) (va vi vb co y1 y2 : Addr) (w0 w1 w2 w3 : Int64) (x0 s0 : Int32) (x1 s1 : Int32) (ok0 : own_ok x0) (hs0 : s0 = 0 ∨ s0 = 1) (ok1 : own_ok x1) (hs1 : s1 = 0 ∨ s1 = 1) :
    Con l (⟨"com/example/chancebound/chancebound/model/Clause", "holds", "([J)Z"⟩ : MethodName) prog_8_method_5_code 3 (some .boolean) ({ frames := 0, cells := 0, slots := 0, locals := 0 } : Room) Z n0 #[(.ref co), (.ref va)] ([(va, .inr (.long, [(.long w0), (.long w1), (.long w2), (.long w3)])), (vi, .inr (.int, [(.int x0), (.int x1)])), (vb, .inr (.boolean, [(.int s0), (.int s1)])), (co, O_Clause (.ref y1) (.ref y2)), (y1, .inr (.int, [(.int x0), (.int x1)])), (y2, .inr (.boolean, [(.int s0), (.int s1)]))]) (fun v L' => v = some (.int (own_h2 (own_lit (own_at4 w0 w1 w2 w3 x0) s0) (own_lit (own_at4 w0 w1 w2 w3 x1) s1))) ∧ L' = [(va, .inr (.long, [(.long w0), (.long w1), (.long w2), (.long w3)])), (vi, .inr (.int, [(.int x0), (.int x1)])), (vb, .inr (.boolean, [(.int s0), (.int s1)])), (co, O_Clause (.ref y1) (.ref y2)), (y1, .inr (.int, [(.int x0), (.int x1)])), (y2, .inr (.boolean, [(.int s0), (.int s1)]))]) := by
  refine Con.of (ws := tables_1) (a0 := a0) pn_5 hw ?_
  intro p e s m below meth cde T kb w
  refine g_entry #[.val (.ref co), .val (.ref va), .unset] (by first | (simp [entryFrame, mkF, argsToLocals, Value.category]; done) | rfl) ?_
  refine g_iconst w d5_0 (0 : Int32) rfl 1 rfl ?_
  refine g_istoreN w d5_1 2 rfl rfl #[.val (.ref co), .val (.ref va), .val (.int (0 : Int32))] rfl ?_
  refine g_iloadN w d5_2 rfl 3 rfl ?_
  refine g_aloadN w d5_3 rfl rfl 4 rfl ?_
  refine g_getf w d5_4 3 rfl 0 rfl 25 rfl Via.refl 7 rfl (fun T w => ?_)
  refine g_alen w d5_7 4 rfl (2 : Int32) rfl 8 rfl ?_
  refine g_icmp_ge w d5_8 46 (by decide) (by decide) 11 rfl (fun h => absurd (by decide) h) (fun hc8 => ?_)
  refine g_aloadN w d5_11 rfl rfl 12 rfl ?_
  refine g_aloadN w d5_12 rfl rfl 13 rfl ?_
  refine g_getf w d5_13 3 rfl 0 rfl 25 rfl Via.refl 16 rfl (fun T w => ?_)
  refine g_iloadN w d5_16 rfl 17 rfl ?_
  refine g_iaload w d5_17 4 rfl 0 (by decide) rfl 18 rfl ?_
  obtain ⟨jn, hj, hz⟩ := own_get w0 w1 w2 w3 ok0
  refine g_laload w d5_18 0 rfl jn hj hz 19 rfl ?_
  refine g_aloadN w d5_19 rfl rfl 20 rfl ?_
  refine g_getf w d5_20 3 rfl 1 rfl 33 rfl Via.refl 23 rfl (fun T w => ?_)
  refine g_iloadN w d5_23 rfl 24 rfl ?_
  refine g_zaload w d5_24 5 rfl 0 (by decide) rfl 25 rfl ?_
  refine g_if_eq w d5_25 32 (by decide) (by decide) 28 rfl (fun hc25 => ?_) (fun hc25 => ?_)
  · -- pc 32 (taken: s0 = (0 : Int32))
    refine g_iconst w d5_32 (1 : Int32) rfl 33 rfl ?_
    refine g_i2l w d5_33 34 rfl ?_
    refine g_long (x' := (1 : Int64)) (by decide) ?_
    refine g_lcmp w d5_34 35 rfl ?_
    refine g_lif_ne w d5_35 40 (by decide) (by decide) 38 rfl (fun hc35 => ?_) (fun hc35 => ?_)
    · -- pc 40 (taken: not (own_at4 w0 w1 w2 w3 x0) = (1 : Int64))
      refine g_iinc w d5_40 43 rfl rfl (by decide) #[.val (.ref co), .val (.ref va), .val (.int (1 : Int32))] rfl ?_
      refine g_goto w d5_43 2 (by decide) (by decide) ?_
      refine g_iloadN w d5_2 rfl 3 rfl ?_
      refine g_aloadN w d5_3 rfl rfl 4 rfl ?_
      refine g_getf w d5_4 3 rfl 0 rfl 25 rfl Via.refl 7 rfl (fun T w => ?_)
      refine g_alen w d5_7 4 rfl (2 : Int32) rfl 8 rfl ?_
      refine g_icmp_ge w d5_8 46 (by decide) (by decide) 11 rfl (fun h => absurd (by decide) h) (fun hc8 => ?_)
      refine g_aloadN w d5_11 rfl rfl 12 rfl ?_
      refine g_aloadN w d5_12 rfl rfl 13 rfl ?_
      refine g_getf w d5_13 3 rfl 0 rfl 25 rfl Via.refl 16 rfl (fun T w => ?_)
      refine g_iloadN w d5_16 rfl 17 rfl ?_
      refine g_iaload w d5_17 4 rfl 1 (by decide) rfl 18 rfl ?_
      obtain ⟨jn, hj, hz⟩ := own_get w0 w1 w2 w3 ok1
      refine g_laload w d5_18 0 rfl jn hj hz 19 rfl ?_
      refine g_aloadN w d5_19 rfl rfl 20 rfl ?_
      refine g_getf w d5_20 3 rfl 1 rfl 33 rfl Via.refl 23 rfl (fun T w => ?_)
      refine g_iloadN w d5_23 rfl 24 rfl ?_
      refine g_zaload w d5_24 5 rfl 1 (by decide) rfl 25 rfl ?_
      refine g_if_eq w d5_25 32 (by decide) (by decide) 28 rfl (fun hc25 => ?_) (fun hc25 => ?_)
      · -- pc 32 (taken: s1 = (0 : Int32))
        refine g_iconst w d5_32 (1 : Int32) rfl 33 rfl ?_
        refine g_i2l w d5_33 34 rfl ?_
        refine g_long (x' := (1 : Int64)) (by decide) ?_
        refine g_lcmp w d5_34 35 rfl ?_
        refine g_lif_ne w d5_35 40 (by decide) (by decide) 38 rfl (fun hc35 => ?_) (fun hc35 => ?_)
        · -- pc 40 (taken: not (own_at4 w0 w1 w2 w3 x1) = (1 : Int64))
          refine g_iinc w d5_40 43 rfl rfl (by decide) #[.val (.ref co), .val (.ref va), .val (.int (2 : Int32))] rfl ?_
          refine g_goto w d5_43 2 (by decide) (by decide) ?_
          refine g_iloadN w d5_2 rfl 3 rfl ?_
          refine g_aloadN w d5_3 rfl rfl 4 rfl ?_
          refine g_getf w d5_4 3 rfl 0 rfl 25 rfl Via.refl 7 rfl (fun T w => ?_)
          refine g_alen w d5_7 4 rfl (2 : Int32) rfl 8 rfl ?_
          refine g_icmp_ge w d5_8 46 (by decide) (by decide) 11 rfl (fun hc8 => ?_) (fun h => absurd h (by decide))
          refine g_iconst w d5_46 (0 : Int32) rfl 47 rfl ?_
          exact g_iretn w (by simp) d5_47 (by decide) (by decide) ⟨congrArg (fun z => some (Value.int z)) (by simp [own_h2, own_lit, *] <;> rfl), rfl⟩
        · -- pc 38 (on: (own_at4 w0 w1 w2 w3 x1) = (1 : Int64))
          refine g_iconst w d5_38 (1 : Int32) rfl 39 rfl ?_
          exact g_iretn w (by simp) d5_39 (by decide) (by decide) ⟨congrArg (fun z => some (Value.int z)) (by simp [own_h2, own_lit, *] <;> rfl), rfl⟩
      · -- pc 28 (on: not s1 = (0 : Int32))
        refine g_iconst w d5_28 (0 : Int32) rfl 29 rfl ?_
        refine g_goto w d5_29 33 (by decide) (by decide) ?_
        refine g_i2l w d5_33 34 rfl ?_
        refine g_long (x' := (0 : Int64)) (by decide) ?_
        refine g_lcmp w d5_34 35 rfl ?_
        refine g_lif_ne w d5_35 40 (by decide) (by decide) 38 rfl (fun hc35 => ?_) (fun hc35 => ?_)
        · -- pc 40 (taken: not (own_at4 w0 w1 w2 w3 x1) = (0 : Int64))
          refine g_iinc w d5_40 43 rfl rfl (by decide) #[.val (.ref co), .val (.ref va), .val (.int (2 : Int32))] rfl ?_
          refine g_goto w d5_43 2 (by decide) (by decide) ?_
          refine g_iloadN w d5_2 rfl 3 rfl ?_
          refine g_aloadN w d5_3 rfl rfl 4 rfl ?_
          refine g_getf w d5_4 3 rfl 0 rfl 25 rfl Via.refl 7 rfl (fun T w => ?_)
          refine g_alen w d5_7 4 rfl (2 : Int32) rfl 8 rfl ?_
          refine g_icmp_ge w d5_8 46 (by decide) (by decide) 11 rfl (fun hc8 => ?_) (fun h => absurd h (by decide))
          refine g_iconst w d5_46 (0 : Int32) rfl 47 rfl ?_
          exact g_iretn w (by simp) d5_47 (by decide) (by decide) ⟨congrArg (fun z => some (Value.int z)) (by simp [own_h2, own_lit, *] <;> rfl), rfl⟩
        · -- pc 38 (on: (own_at4 w0 w1 w2 w3 x1) = (0 : Int64))
          refine g_iconst w d5_38 (1 : Int32) rfl 39 rfl ?_
          exact g_iretn w (by simp) d5_39 (by decide) (by decide) ⟨congrArg (fun z => some (Value.int z)) (by simp [own_h2, own_lit, *] <;> rfl), rfl⟩
    · -- pc 38 (on: (own_at4 w0 w1 w2 w3 x0) = (1 : Int64))
      refine g_iconst w d5_38 (1 : Int32) rfl 39 rfl ?_
      exact g_iretn w (by simp) d5_39 (by decide) (by decide) ⟨congrArg (fun z => some (Value.int z)) (by simp [own_h2, own_lit, *] <;> rfl), rfl⟩
  · -- pc 28 (on: not s0 = (0 : Int32))
    refine g_iconst w d5_28 (0 : Int32) rfl 29 rfl ?_
    refine g_goto w d5_29 33 (by decide) (by decide) ?_
    refine g_i2l w d5_33 34 rfl ?_
    refine g_long (x' := (0 : Int64)) (by decide) ?_
    refine g_lcmp w d5_34 35 rfl ?_
    refine g_lif_ne w d5_35 40 (by decide) (by decide) 38 rfl (fun hc35 => ?_) (fun hc35 => ?_)
    · -- pc 40 (taken: not (own_at4 w0 w1 w2 w3 x0) = (0 : Int64))
      refine g_iinc w d5_40 43 rfl rfl (by decide) #[.val (.ref co), .val (.ref va), .val (.int (1 : Int32))] rfl ?_
      refine g_goto w d5_43 2 (by decide) (by decide) ?_
      refine g_iloadN w d5_2 rfl 3 rfl ?_
      refine g_aloadN w d5_3 rfl rfl 4 rfl ?_
      refine g_getf w d5_4 3 rfl 0 rfl 25 rfl Via.refl 7 rfl (fun T w => ?_)
      refine g_alen w d5_7 4 rfl (2 : Int32) rfl 8 rfl ?_
      refine g_icmp_ge w d5_8 46 (by decide) (by decide) 11 rfl (fun h => absurd (by decide) h) (fun hc8 => ?_)
      refine g_aloadN w d5_11 rfl rfl 12 rfl ?_
      refine g_aloadN w d5_12 rfl rfl 13 rfl ?_
      refine g_getf w d5_13 3 rfl 0 rfl 25 rfl Via.refl 16 rfl (fun T w => ?_)
      refine g_iloadN w d5_16 rfl 17 rfl ?_
      refine g_iaload w d5_17 4 rfl 1 (by decide) rfl 18 rfl ?_
      obtain ⟨jn, hj, hz⟩ := own_get w0 w1 w2 w3 ok1
      refine g_laload w d5_18 0 rfl jn hj hz 19 rfl ?_
      refine g_aloadN w d5_19 rfl rfl 20 rfl ?_
      refine g_getf w d5_20 3 rfl 1 rfl 33 rfl Via.refl 23 rfl (fun T w => ?_)
      refine g_iloadN w d5_23 rfl 24 rfl ?_
      refine g_zaload w d5_24 5 rfl 1 (by decide) rfl 25 rfl ?_
      refine g_if_eq w d5_25 32 (by decide) (by decide) 28 rfl (fun hc25 => ?_) (fun hc25 => ?_)
      · -- pc 32 (taken: s1 = (0 : Int32))
        refine g_iconst w d5_32 (1 : Int32) rfl 33 rfl ?_
        refine g_i2l w d5_33 34 rfl ?_
        refine g_long (x' := (1 : Int64)) (by decide) ?_
        refine g_lcmp w d5_34 35 rfl ?_
        refine g_lif_ne w d5_35 40 (by decide) (by decide) 38 rfl (fun hc35 => ?_) (fun hc35 => ?_)
        · -- pc 40 (taken: not (own_at4 w0 w1 w2 w3 x1) = (1 : Int64))
          refine g_iinc w d5_40 43 rfl rfl (by decide) #[.val (.ref co), .val (.ref va), .val (.int (2 : Int32))] rfl ?_
          refine g_goto w d5_43 2 (by decide) (by decide) ?_
          refine g_iloadN w d5_2 rfl 3 rfl ?_
          refine g_aloadN w d5_3 rfl rfl 4 rfl ?_
          refine g_getf w d5_4 3 rfl 0 rfl 25 rfl Via.refl 7 rfl (fun T w => ?_)
          refine g_alen w d5_7 4 rfl (2 : Int32) rfl 8 rfl ?_
          refine g_icmp_ge w d5_8 46 (by decide) (by decide) 11 rfl (fun hc8 => ?_) (fun h => absurd h (by decide))
          refine g_iconst w d5_46 (0 : Int32) rfl 47 rfl ?_
          exact g_iretn w (by simp) d5_47 (by decide) (by decide) ⟨congrArg (fun z => some (Value.int z)) (by simp [own_h2, own_lit, *] <;> rfl), rfl⟩
        · -- pc 38 (on: (own_at4 w0 w1 w2 w3 x1) = (1 : Int64))
          refine g_iconst w d5_38 (1 : Int32) rfl 39 rfl ?_
          exact g_iretn w (by simp) d5_39 (by decide) (by decide) ⟨congrArg (fun z => some (Value.int z)) (by simp [own_h2, own_lit, *] <;> rfl), rfl⟩
      · -- pc 28 (on: not s1 = (0 : Int32))
        refine g_iconst w d5_28 (0 : Int32) rfl 29 rfl ?_
        refine g_goto w d5_29 33 (by decide) (by decide) ?_
        refine g_i2l w d5_33 34 rfl ?_
        refine g_long (x' := (0 : Int64)) (by decide) ?_
        refine g_lcmp w d5_34 35 rfl ?_
        refine g_lif_ne w d5_35 40 (by decide) (by decide) 38 rfl (fun hc35 => ?_) (fun hc35 => ?_)
        · -- pc 40 (taken: not (own_at4 w0 w1 w2 w3 x1) = (0 : Int64))
          refine g_iinc w d5_40 43 rfl rfl (by decide) #[.val (.ref co), .val (.ref va), .val (.int (2 : Int32))] rfl ?_
          refine g_goto w d5_43 2 (by decide) (by decide) ?_
          refine g_iloadN w d5_2 rfl 3 rfl ?_
          refine g_aloadN w d5_3 rfl rfl 4 rfl ?_
          refine g_getf w d5_4 3 rfl 0 rfl 25 rfl Via.refl 7 rfl (fun T w => ?_)
          refine g_alen w d5_7 4 rfl (2 : Int32) rfl 8 rfl ?_
          refine g_icmp_ge w d5_8 46 (by decide) (by decide) 11 rfl (fun hc8 => ?_) (fun h => absurd h (by decide))
          refine g_iconst w d5_46 (0 : Int32) rfl 47 rfl ?_
          exact g_iretn w (by simp) d5_47 (by decide) (by decide) ⟨congrArg (fun z => some (Value.int z)) (by simp [own_h2, own_lit, *] <;> rfl), rfl⟩
        · -- pc 38 (on: (own_at4 w0 w1 w2 w3 x1) = (0 : Int64))
          refine g_iconst w d5_38 (1 : Int32) rfl 39 rfl ?_
          exact g_iretn w (by simp) d5_39 (by decide) (by decide) ⟨congrArg (fun z => some (Value.int z)) (by simp [own_h2, own_lit, *] <;> rfl), rfl⟩
    · -- pc 38 (on: (own_at4 w0 w1 w2 w3 x0) = (0 : Int64))
      refine g_iconst w d5_38 (1 : Int32) rfl 39 rfl ?_
      exact g_iretn w (by simp) d5_39 (by decide) (by decide) ⟨congrArg (fun z => some (Value.int z)) (by simp [own_h2, own_lit, *] <;> rfl), rfl⟩
set_option maxRecDepth 65536 in
set_option maxHeartbeats 40000000 in
theorem rmC_3 (l : Launch) (Z : State) (a0 : Array Value) (hw : ∀ d ∈ tables_1, d.before a0 Z = true) (n0 : Nat) (va vi vb co : Addr) (w0 w1 w2 w3 : Int64) (x0 s0 : Int32) (x1 s1 : Int32) (x2 s2 : Int32) (ok0 : own_ok x0) (hs0 : s0 = 0 ∨ s0 = 1) (ok1 : own_ok x1) (hs1 : s1 = 0 ∨ s1 = 1) (ok2 : own_ok x2) (hs2 : s2 = 0 ∨ s2 = 1) :
    Con l (⟨"com/example/chancebound/chancebound/model/Clause", "<init>", "([I[Z)V"⟩ : MethodName) prog_8_method_1_code 7 none ({ frames := 1, cells := 2, slots := 6, locals := 15 } : Room) Z n0 #[(.ref co), (.ref vi), (.ref vb)] ([(va, .inr (.long, [(.long w0), (.long w1), (.long w2), (.long w3)])), (vi, .inr (.int, [(.int x0), (.int x1), (.int x2)])), (vb, .inr (.boolean, [(.int s0), (.int s1), (.int s2)])), (co, O_Clause .null .null)]) (fun v L' => v = none ∧ ∃ y1 y2, L' = [(va, .inr (.long, [(.long w0), (.long w1), (.long w2), (.long w3)])), (vi, .inr (.int, [(.int x0), (.int x1), (.int x2)])), (vb, .inr (.boolean, [(.int s0), (.int s1), (.int s2)])), (co, O_Clause (.ref y1) (.ref y2)), (y1, .inr (.int, [(.int x0), (.int x1), (.int x2)])), (y2, .inr (.boolean, [(.int s0), (.int s1), (.int s2)]))]) := by
  refine Con.of (ws := tables_1) (a0 := a0) pn_2 hw ?_
  intro p e s m below meth cde T kb w
  refine g_entry #[.val (.ref co), .val (.ref vi), .val (.ref vb), .unset, .unset, .unset, .unset] (by first | (simp [entryFrame, mkF, argsToLocals, Value.category]; done) | rfl) ?_
  refine g_aloadN w d2_0 rfl rfl 1 rfl ?_
  refine g_initO w d2_1 13 rfl 14 rfl 15 rfl rfl (by decide) 0 rfl (by decide) 4 rfl (fun T w => ?_)
  refine g_aloadN w d2_4 rfl rfl 5 rfl ?_
  refine g_alen w d2_5 1 rfl (3 : Int32) rfl 6 rfl ?_
  refine g_aloadN w d2_6 rfl rfl 7 rfl ?_
  refine g_alen w d2_7 2 rfl (3 : Int32) rfl 8 rfl ?_
  refine g_icmp_eq w d2_8 21 (by decide) (by decide) 11 rfl (fun hc8 => ?_) (fun h => absurd (by decide) h)
  refine g_aloadN w d2_21 rfl rfl 22 rfl ?_
  refine g_astoreN w d2_22 23 rfl rfl #[.val (.ref co), .val (.ref vi), .val (.ref vb), .val (.ref vi), .unset, .unset, .unset] rfl ?_
  refine g_aloadN w d2_23 rfl rfl 24 rfl ?_
  refine g_alen w d2_24 1 rfl (3 : Int32) rfl 25 rfl ?_
  refine g_istore w d2_25 27 rfl rfl #[.val (.ref co), .val (.ref vi), .val (.ref vb), .val (.ref vi), .val (.int (3 : Int32)), .unset, .unset] rfl ?_
  refine g_iconst w d2_27 (0 : Int32) rfl 28 rfl ?_
  refine g_istore w d2_28 30 rfl rfl #[.val (.ref co), .val (.ref vi), .val (.ref vb), .val (.ref vi), .val (.int (3 : Int32)), .val (.int (0 : Int32)), .unset] rfl ?_
  refine g_iload w d2_30 rfl 32 rfl ?_
  refine g_iload w d2_32 rfl 34 rfl ?_
  refine g_icmp_ge w d2_34 69 (by decide) (by decide) 37 rfl (fun h => absurd (by decide) h) (fun hc34 => ?_)
  refine g_aloadN w d2_37 rfl rfl 38 rfl ?_
  refine g_iload w d2_38 rfl 40 rfl ?_
  refine g_iaload w d2_40 1 rfl 0 (by decide) rfl 41 rfl ?_
  refine g_istore w d2_41 43 rfl rfl #[.val (.ref co), .val (.ref vi), .val (.ref vb), .val (.ref vi), .val (.int (3 : Int32)), .val (.int (0 : Int32)), .val (.int x0)] rfl ?_
  refine g_iload w d2_43 rfl 45 rfl ?_
  refine g_if_ge w d2_45 63 (by decide) (by decide) 48 rfl (fun hc45 => ?_) (fun h => absurd h (own_ok_nn ok0))
  refine g_iinc w d2_63 66 rfl rfl (by decide) #[.val (.ref co), .val (.ref vi), .val (.ref vb), .val (.ref vi), .val (.int (3 : Int32)), .val (.int (1 : Int32)), .val (.int x0)] rfl ?_
  refine g_goto w d2_66 30 (by decide) (by decide) ?_
  refine g_iload w d2_30 rfl 32 rfl ?_
  refine g_iload w d2_32 rfl 34 rfl ?_
  refine g_icmp_ge w d2_34 69 (by decide) (by decide) 37 rfl (fun h => absurd (by decide) h) (fun hc34 => ?_)
  refine g_aloadN w d2_37 rfl rfl 38 rfl ?_
  refine g_iload w d2_38 rfl 40 rfl ?_
  refine g_iaload w d2_40 1 rfl 1 (by decide) rfl 41 rfl ?_
  refine g_istore w d2_41 43 rfl rfl #[.val (.ref co), .val (.ref vi), .val (.ref vb), .val (.ref vi), .val (.int (3 : Int32)), .val (.int (1 : Int32)), .val (.int x1)] rfl ?_
  refine g_iload w d2_43 rfl 45 rfl ?_
  refine g_if_ge w d2_45 63 (by decide) (by decide) 48 rfl (fun hc45 => ?_) (fun h => absurd h (own_ok_nn ok1))
  refine g_iinc w d2_63 66 rfl rfl (by decide) #[.val (.ref co), .val (.ref vi), .val (.ref vb), .val (.ref vi), .val (.int (3 : Int32)), .val (.int (2 : Int32)), .val (.int x1)] rfl ?_
  refine g_goto w d2_66 30 (by decide) (by decide) ?_
  refine g_iload w d2_30 rfl 32 rfl ?_
  refine g_iload w d2_32 rfl 34 rfl ?_
  refine g_icmp_ge w d2_34 69 (by decide) (by decide) 37 rfl (fun h => absurd (by decide) h) (fun hc34 => ?_)
  refine g_aloadN w d2_37 rfl rfl 38 rfl ?_
  refine g_iload w d2_38 rfl 40 rfl ?_
  refine g_iaload w d2_40 1 rfl 2 (by decide) rfl 41 rfl ?_
  refine g_istore w d2_41 43 rfl rfl #[.val (.ref co), .val (.ref vi), .val (.ref vb), .val (.ref vi), .val (.int (3 : Int32)), .val (.int (2 : Int32)), .val (.int x2)] rfl ?_
  refine g_iload w d2_43 rfl 45 rfl ?_
  refine g_if_ge w d2_45 63 (by decide) (by decide) 48 rfl (fun hc45 => ?_) (fun h => absurd h (own_ok_nn ok2))
  refine g_iinc w d2_63 66 rfl rfl (by decide) #[.val (.ref co), .val (.ref vi), .val (.ref vb), .val (.ref vi), .val (.int (3 : Int32)), .val (.int (3 : Int32)), .val (.int x2)] rfl ?_
  refine g_goto w d2_66 30 (by decide) (by decide) ?_
  refine g_iload w d2_30 rfl 32 rfl ?_
  refine g_iload w d2_32 rfl 34 rfl ?_
  refine g_icmp_ge w d2_34 69 (by decide) (by decide) 37 rfl (fun hc34 => ?_) (fun h => absurd h (by decide))
  refine g_aloadN w d2_69 rfl rfl 70 rfl ?_
  refine g_aloadN w d2_70 rfl rfl 71 rfl ?_
  refine g_cloneA w d2_71 1 rfl (by decide) 16 rfl 17 rfl 21 rfl 19 rfl 20 rfl 22 rfl (by intro v hv; simp only [List.mem_cons, List.not_mem_nil, or_false] at hv; rcases hv with rfl | rfl | rfl <;> rfl) rfl (by decide) 1 3 rfl (by decide) (Nat.le_of_ble_eq_true rfl) (by decide) (by decide) 74 rfl (fun T b1 w => ?_)
  replace w := w.to (L' := [(va, .inr (.long, [(.long w0), (.long w1), (.long w2), (.long w3)])), (vi, .inr (.int, [(.int x0), (.int x1), (.int x2)])), (vb, .inr (.boolean, [(.int s0), (.int s1), (.int s2)])), (co, O_Clause .null .null), (b1, .inr (.int, [(.int x0), (.int x1), (.int x2)]))]) rfl
  refine g_castA w d2_74 4 rfl 23 rfl (by decide) 77 rfl (fun T w => ?_)
  refine g_putf w d2_77 3 rfl 0 rfl 25 rfl Via.refl 26 (Or.inr ⟨rfl, rfl, rfl⟩) 8 rfl (ty := (.array .int)) (by decide) rfl rfl 80 rfl (fun T w => ?_)
  replace w := w.to (L' := [(va, .inr (.long, [(.long w0), (.long w1), (.long w2), (.long w3)])), (vi, .inr (.int, [(.int x0), (.int x1), (.int x2)])), (vb, .inr (.boolean, [(.int s0), (.int s1), (.int s2)])), (co, O_Clause (.ref b1) .null), (b1, .inr (.int, [(.int x0), (.int x1), (.int x2)]))]) rfl
  refine g_aloadN w d2_80 rfl rfl 81 rfl ?_
  refine g_aloadN w d2_81 rfl rfl 82 rfl ?_
  refine g_cloneA w d2_82 2 rfl (by decide) 27 rfl 28 rfl 21 rfl 19 rfl 29 rfl 30 rfl (by intro v hv; simp only [List.mem_cons, List.not_mem_nil, or_false] at hv; rcases hv with rfl | rfl | rfl <;> first | exact own_fitb hs0 | exact own_fitb hs1 | exact own_fitb hs2) rfl (by decide) 1 3 rfl (by decide) (Nat.le_of_ble_eq_true rfl) (by decide) (by decide) 85 rfl (fun T b2 w => ?_)
  replace w := w.to (L' := [(va, .inr (.long, [(.long w0), (.long w1), (.long w2), (.long w3)])), (vi, .inr (.int, [(.int x0), (.int x1), (.int x2)])), (vb, .inr (.boolean, [(.int s0), (.int s1), (.int s2)])), (co, O_Clause (.ref b1) .null), (b1, .inr (.int, [(.int x0), (.int x1), (.int x2)])), (b2, .inr (.boolean, [(.int s0), (.int s1), (.int s2)]))]) rfl
  refine g_castA w d2_85 5 rfl 31 rfl (by decide) 88 rfl (fun T w => ?_)
  refine g_putf w d2_88 3 rfl 1 rfl 33 rfl Via.refl 34 (Or.inr ⟨rfl, rfl, rfl⟩) 8 rfl (ty := (.array .boolean)) (by decide) rfl rfl 91 rfl (fun T w => ?_)
  replace w := w.to (L' := [(va, .inr (.long, [(.long w0), (.long w1), (.long w2), (.long w3)])), (vi, .inr (.int, [(.int x0), (.int x1), (.int x2)])), (vb, .inr (.boolean, [(.int s0), (.int s1), (.int s2)])), (co, O_Clause (.ref b1) (.ref b2)), (b1, .inr (.int, [(.int x0), (.int x1), (.int x2)])), (b2, .inr (.boolean, [(.int s0), (.int s1), (.int s2)]))]) rfl
  exact g_ret w d2_91 (by decide) (by decide) ⟨rfl, b1, b2, rfl⟩
set_option maxRecDepth 65536 in
set_option maxHeartbeats 40000000 in
theorem rmH_3 (l : Launch) (Z : State) (a0 : Array Value) (hw : ∀ d ∈ tables_1, d.before a0 Z = true) (n0 : Nat) (va vi vb co y1 y2 : Addr) (w0 w1 w2 w3 : Int64) (x0 s0 : Int32) (x1 s1 : Int32) (x2 s2 : Int32) (ok0 : own_ok x0) (hs0 : s0 = 0 ∨ s0 = 1) (ok1 : own_ok x1) (hs1 : s1 = 0 ∨ s1 = 1) (ok2 : own_ok x2) (hs2 : s2 = 0 ∨ s2 = 1) :
    Con l (⟨"com/example/chancebound/chancebound/model/Clause", "holds", "([J)Z"⟩ : MethodName) prog_8_method_5_code 3 (some .boolean) ({ frames := 0, cells := 0, slots := 0, locals := 0 } : Room) Z n0 #[(.ref co), (.ref va)] ([(va, .inr (.long, [(.long w0), (.long w1), (.long w2), (.long w3)])), (vi, .inr (.int, [(.int x0), (.int x1), (.int x2)])), (vb, .inr (.boolean, [(.int s0), (.int s1), (.int s2)])), (co, O_Clause (.ref y1) (.ref y2)), (y1, .inr (.int, [(.int x0), (.int x1), (.int x2)])), (y2, .inr (.boolean, [(.int s0), (.int s1), (.int s2)]))]) (fun v L' => v = some (.int (own_h3 (own_lit (own_at4 w0 w1 w2 w3 x0) s0) (own_lit (own_at4 w0 w1 w2 w3 x1) s1) (own_lit (own_at4 w0 w1 w2 w3 x2) s2))) ∧ L' = [(va, .inr (.long, [(.long w0), (.long w1), (.long w2), (.long w3)])), (vi, .inr (.int, [(.int x0), (.int x1), (.int x2)])), (vb, .inr (.boolean, [(.int s0), (.int s1), (.int s2)])), (co, O_Clause (.ref y1) (.ref y2)), (y1, .inr (.int, [(.int x0), (.int x1), (.int x2)])), (y2, .inr (.boolean, [(.int s0), (.int s1), (.int s2)]))]) := by
  refine Con.of (ws := tables_1) (a0 := a0) pn_5 hw ?_
  intro p e s m below meth cde T kb w
  refine g_entry #[.val (.ref co), .val (.ref va), .unset] (by first | (simp [entryFrame, mkF, argsToLocals, Value.category]; done) | rfl) ?_
  refine g_iconst w d5_0 (0 : Int32) rfl 1 rfl ?_
  refine g_istoreN w d5_1 2 rfl rfl #[.val (.ref co), .val (.ref va), .val (.int (0 : Int32))] rfl ?_
  refine g_iloadN w d5_2 rfl 3 rfl ?_
  refine g_aloadN w d5_3 rfl rfl 4 rfl ?_
  refine g_getf w d5_4 3 rfl 0 rfl 25 rfl Via.refl 7 rfl (fun T w => ?_)
  refine g_alen w d5_7 4 rfl (3 : Int32) rfl 8 rfl ?_
  refine g_icmp_ge w d5_8 46 (by decide) (by decide) 11 rfl (fun h => absurd (by decide) h) (fun hc8 => ?_)
  refine g_aloadN w d5_11 rfl rfl 12 rfl ?_
  refine g_aloadN w d5_12 rfl rfl 13 rfl ?_
  refine g_getf w d5_13 3 rfl 0 rfl 25 rfl Via.refl 16 rfl (fun T w => ?_)
  refine g_iloadN w d5_16 rfl 17 rfl ?_
  refine g_iaload w d5_17 4 rfl 0 (by decide) rfl 18 rfl ?_
  obtain ⟨jn, hj, hz⟩ := own_get w0 w1 w2 w3 ok0
  refine g_laload w d5_18 0 rfl jn hj hz 19 rfl ?_
  refine g_aloadN w d5_19 rfl rfl 20 rfl ?_
  refine g_getf w d5_20 3 rfl 1 rfl 33 rfl Via.refl 23 rfl (fun T w => ?_)
  refine g_iloadN w d5_23 rfl 24 rfl ?_
  refine g_zaload w d5_24 5 rfl 0 (by decide) rfl 25 rfl ?_
  refine g_if_eq w d5_25 32 (by decide) (by decide) 28 rfl (fun hc25 => ?_) (fun hc25 => ?_)
  · -- pc 32 (taken: s0 = (0 : Int32))
    refine g_iconst w d5_32 (1 : Int32) rfl 33 rfl ?_
    refine g_i2l w d5_33 34 rfl ?_
    refine g_long (x' := (1 : Int64)) (by decide) ?_
    refine g_lcmp w d5_34 35 rfl ?_
    refine g_lif_ne w d5_35 40 (by decide) (by decide) 38 rfl (fun hc35 => ?_) (fun hc35 => ?_)
    · -- pc 40 (taken: not (own_at4 w0 w1 w2 w3 x0) = (1 : Int64))
      refine g_iinc w d5_40 43 rfl rfl (by decide) #[.val (.ref co), .val (.ref va), .val (.int (1 : Int32))] rfl ?_
      refine g_goto w d5_43 2 (by decide) (by decide) ?_
      refine g_iloadN w d5_2 rfl 3 rfl ?_
      refine g_aloadN w d5_3 rfl rfl 4 rfl ?_
      refine g_getf w d5_4 3 rfl 0 rfl 25 rfl Via.refl 7 rfl (fun T w => ?_)
      refine g_alen w d5_7 4 rfl (3 : Int32) rfl 8 rfl ?_
      refine g_icmp_ge w d5_8 46 (by decide) (by decide) 11 rfl (fun h => absurd (by decide) h) (fun hc8 => ?_)
      refine g_aloadN w d5_11 rfl rfl 12 rfl ?_
      refine g_aloadN w d5_12 rfl rfl 13 rfl ?_
      refine g_getf w d5_13 3 rfl 0 rfl 25 rfl Via.refl 16 rfl (fun T w => ?_)
      refine g_iloadN w d5_16 rfl 17 rfl ?_
      refine g_iaload w d5_17 4 rfl 1 (by decide) rfl 18 rfl ?_
      obtain ⟨jn, hj, hz⟩ := own_get w0 w1 w2 w3 ok1
      refine g_laload w d5_18 0 rfl jn hj hz 19 rfl ?_
      refine g_aloadN w d5_19 rfl rfl 20 rfl ?_
      refine g_getf w d5_20 3 rfl 1 rfl 33 rfl Via.refl 23 rfl (fun T w => ?_)
      refine g_iloadN w d5_23 rfl 24 rfl ?_
      refine g_zaload w d5_24 5 rfl 1 (by decide) rfl 25 rfl ?_
      refine g_if_eq w d5_25 32 (by decide) (by decide) 28 rfl (fun hc25 => ?_) (fun hc25 => ?_)
      · -- pc 32 (taken: s1 = (0 : Int32))
        refine g_iconst w d5_32 (1 : Int32) rfl 33 rfl ?_
        refine g_i2l w d5_33 34 rfl ?_
        refine g_long (x' := (1 : Int64)) (by decide) ?_
        refine g_lcmp w d5_34 35 rfl ?_
        refine g_lif_ne w d5_35 40 (by decide) (by decide) 38 rfl (fun hc35 => ?_) (fun hc35 => ?_)
        · -- pc 40 (taken: not (own_at4 w0 w1 w2 w3 x1) = (1 : Int64))
          refine g_iinc w d5_40 43 rfl rfl (by decide) #[.val (.ref co), .val (.ref va), .val (.int (2 : Int32))] rfl ?_
          refine g_goto w d5_43 2 (by decide) (by decide) ?_
          refine g_iloadN w d5_2 rfl 3 rfl ?_
          refine g_aloadN w d5_3 rfl rfl 4 rfl ?_
          refine g_getf w d5_4 3 rfl 0 rfl 25 rfl Via.refl 7 rfl (fun T w => ?_)
          refine g_alen w d5_7 4 rfl (3 : Int32) rfl 8 rfl ?_
          refine g_icmp_ge w d5_8 46 (by decide) (by decide) 11 rfl (fun h => absurd (by decide) h) (fun hc8 => ?_)
          refine g_aloadN w d5_11 rfl rfl 12 rfl ?_
          refine g_aloadN w d5_12 rfl rfl 13 rfl ?_
          refine g_getf w d5_13 3 rfl 0 rfl 25 rfl Via.refl 16 rfl (fun T w => ?_)
          refine g_iloadN w d5_16 rfl 17 rfl ?_
          refine g_iaload w d5_17 4 rfl 2 (by decide) rfl 18 rfl ?_
          obtain ⟨jn, hj, hz⟩ := own_get w0 w1 w2 w3 ok2
          refine g_laload w d5_18 0 rfl jn hj hz 19 rfl ?_
          refine g_aloadN w d5_19 rfl rfl 20 rfl ?_
          refine g_getf w d5_20 3 rfl 1 rfl 33 rfl Via.refl 23 rfl (fun T w => ?_)
          refine g_iloadN w d5_23 rfl 24 rfl ?_
          refine g_zaload w d5_24 5 rfl 2 (by decide) rfl 25 rfl ?_
          refine g_if_eq w d5_25 32 (by decide) (by decide) 28 rfl (fun hc25 => ?_) (fun hc25 => ?_)
          · -- pc 32 (taken: s2 = (0 : Int32))
            refine g_iconst w d5_32 (1 : Int32) rfl 33 rfl ?_
            refine g_i2l w d5_33 34 rfl ?_
            refine g_long (x' := (1 : Int64)) (by decide) ?_
            refine g_lcmp w d5_34 35 rfl ?_
            refine g_lif_ne w d5_35 40 (by decide) (by decide) 38 rfl (fun hc35 => ?_) (fun hc35 => ?_)
            · -- pc 40 (taken: not (own_at4 w0 w1 w2 w3 x2) = (1 : Int64))
              refine g_iinc w d5_40 43 rfl rfl (by decide) #[.val (.ref co), .val (.ref va), .val (.int (3 : Int32))] rfl ?_
              refine g_goto w d5_43 2 (by decide) (by decide) ?_
              refine g_iloadN w d5_2 rfl 3 rfl ?_
              refine g_aloadN w d5_3 rfl rfl 4 rfl ?_
              refine g_getf w d5_4 3 rfl 0 rfl 25 rfl Via.refl 7 rfl (fun T w => ?_)
              refine g_alen w d5_7 4 rfl (3 : Int32) rfl 8 rfl ?_
              refine g_icmp_ge w d5_8 46 (by decide) (by decide) 11 rfl (fun hc8 => ?_) (fun h => absurd h (by decide))
              refine g_iconst w d5_46 (0 : Int32) rfl 47 rfl ?_
              exact g_iretn w (by simp) d5_47 (by decide) (by decide) ⟨congrArg (fun z => some (Value.int z)) (by simp [own_h3, own_lit, *] <;> rfl), rfl⟩
            · -- pc 38 (on: (own_at4 w0 w1 w2 w3 x2) = (1 : Int64))
              refine g_iconst w d5_38 (1 : Int32) rfl 39 rfl ?_
              exact g_iretn w (by simp) d5_39 (by decide) (by decide) ⟨congrArg (fun z => some (Value.int z)) (by simp [own_h3, own_lit, *] <;> rfl), rfl⟩
          · -- pc 28 (on: not s2 = (0 : Int32))
            refine g_iconst w d5_28 (0 : Int32) rfl 29 rfl ?_
            refine g_goto w d5_29 33 (by decide) (by decide) ?_
            refine g_i2l w d5_33 34 rfl ?_
            refine g_long (x' := (0 : Int64)) (by decide) ?_
            refine g_lcmp w d5_34 35 rfl ?_
            refine g_lif_ne w d5_35 40 (by decide) (by decide) 38 rfl (fun hc35 => ?_) (fun hc35 => ?_)
            · -- pc 40 (taken: not (own_at4 w0 w1 w2 w3 x2) = (0 : Int64))
              refine g_iinc w d5_40 43 rfl rfl (by decide) #[.val (.ref co), .val (.ref va), .val (.int (3 : Int32))] rfl ?_
              refine g_goto w d5_43 2 (by decide) (by decide) ?_
              refine g_iloadN w d5_2 rfl 3 rfl ?_
              refine g_aloadN w d5_3 rfl rfl 4 rfl ?_
              refine g_getf w d5_4 3 rfl 0 rfl 25 rfl Via.refl 7 rfl (fun T w => ?_)
              refine g_alen w d5_7 4 rfl (3 : Int32) rfl 8 rfl ?_
              refine g_icmp_ge w d5_8 46 (by decide) (by decide) 11 rfl (fun hc8 => ?_) (fun h => absurd h (by decide))
              refine g_iconst w d5_46 (0 : Int32) rfl 47 rfl ?_
              exact g_iretn w (by simp) d5_47 (by decide) (by decide) ⟨congrArg (fun z => some (Value.int z)) (by simp [own_h3, own_lit, *] <;> rfl), rfl⟩
            · -- pc 38 (on: (own_at4 w0 w1 w2 w3 x2) = (0 : Int64))
              refine g_iconst w d5_38 (1 : Int32) rfl 39 rfl ?_
              exact g_iretn w (by simp) d5_39 (by decide) (by decide) ⟨congrArg (fun z => some (Value.int z)) (by simp [own_h3, own_lit, *] <;> rfl), rfl⟩
        · -- pc 38 (on: (own_at4 w0 w1 w2 w3 x1) = (1 : Int64))
          refine g_iconst w d5_38 (1 : Int32) rfl 39 rfl ?_
          exact g_iretn w (by simp) d5_39 (by decide) (by decide) ⟨congrArg (fun z => some (Value.int z)) (by simp [own_h3, own_lit, *] <;> rfl), rfl⟩
      · -- pc 28 (on: not s1 = (0 : Int32))
        refine g_iconst w d5_28 (0 : Int32) rfl 29 rfl ?_
        refine g_goto w d5_29 33 (by decide) (by decide) ?_
        refine g_i2l w d5_33 34 rfl ?_
        refine g_long (x' := (0 : Int64)) (by decide) ?_
        refine g_lcmp w d5_34 35 rfl ?_
        refine g_lif_ne w d5_35 40 (by decide) (by decide) 38 rfl (fun hc35 => ?_) (fun hc35 => ?_)
        · -- pc 40 (taken: not (own_at4 w0 w1 w2 w3 x1) = (0 : Int64))
          refine g_iinc w d5_40 43 rfl rfl (by decide) #[.val (.ref co), .val (.ref va), .val (.int (2 : Int32))] rfl ?_
          refine g_goto w d5_43 2 (by decide) (by decide) ?_
          refine g_iloadN w d5_2 rfl 3 rfl ?_
          refine g_aloadN w d5_3 rfl rfl 4 rfl ?_
          refine g_getf w d5_4 3 rfl 0 rfl 25 rfl Via.refl 7 rfl (fun T w => ?_)
          refine g_alen w d5_7 4 rfl (3 : Int32) rfl 8 rfl ?_
          refine g_icmp_ge w d5_8 46 (by decide) (by decide) 11 rfl (fun h => absurd (by decide) h) (fun hc8 => ?_)
          refine g_aloadN w d5_11 rfl rfl 12 rfl ?_
          refine g_aloadN w d5_12 rfl rfl 13 rfl ?_
          refine g_getf w d5_13 3 rfl 0 rfl 25 rfl Via.refl 16 rfl (fun T w => ?_)
          refine g_iloadN w d5_16 rfl 17 rfl ?_
          refine g_iaload w d5_17 4 rfl 2 (by decide) rfl 18 rfl ?_
          obtain ⟨jn, hj, hz⟩ := own_get w0 w1 w2 w3 ok2
          refine g_laload w d5_18 0 rfl jn hj hz 19 rfl ?_
          refine g_aloadN w d5_19 rfl rfl 20 rfl ?_
          refine g_getf w d5_20 3 rfl 1 rfl 33 rfl Via.refl 23 rfl (fun T w => ?_)
          refine g_iloadN w d5_23 rfl 24 rfl ?_
          refine g_zaload w d5_24 5 rfl 2 (by decide) rfl 25 rfl ?_
          refine g_if_eq w d5_25 32 (by decide) (by decide) 28 rfl (fun hc25 => ?_) (fun hc25 => ?_)
          · -- pc 32 (taken: s2 = (0 : Int32))
            refine g_iconst w d5_32 (1 : Int32) rfl 33 rfl ?_
            refine g_i2l w d5_33 34 rfl ?_
            refine g_long (x' := (1 : Int64)) (by decide) ?_
            refine g_lcmp w d5_34 35 rfl ?_
            refine g_lif_ne w d5_35 40 (by decide) (by decide) 38 rfl (fun hc35 => ?_) (fun hc35 => ?_)
            · -- pc 40 (taken: not (own_at4 w0 w1 w2 w3 x2) = (1 : Int64))
              refine g_iinc w d5_40 43 rfl rfl (by decide) #[.val (.ref co), .val (.ref va), .val (.int (3 : Int32))] rfl ?_
              refine g_goto w d5_43 2 (by decide) (by decide) ?_
              refine g_iloadN w d5_2 rfl 3 rfl ?_
              refine g_aloadN w d5_3 rfl rfl 4 rfl ?_
              refine g_getf w d5_4 3 rfl 0 rfl 25 rfl Via.refl 7 rfl (fun T w => ?_)
              refine g_alen w d5_7 4 rfl (3 : Int32) rfl 8 rfl ?_
              refine g_icmp_ge w d5_8 46 (by decide) (by decide) 11 rfl (fun hc8 => ?_) (fun h => absurd h (by decide))
              refine g_iconst w d5_46 (0 : Int32) rfl 47 rfl ?_
              exact g_iretn w (by simp) d5_47 (by decide) (by decide) ⟨congrArg (fun z => some (Value.int z)) (by simp [own_h3, own_lit, *] <;> rfl), rfl⟩
            · -- pc 38 (on: (own_at4 w0 w1 w2 w3 x2) = (1 : Int64))
              refine g_iconst w d5_38 (1 : Int32) rfl 39 rfl ?_
              exact g_iretn w (by simp) d5_39 (by decide) (by decide) ⟨congrArg (fun z => some (Value.int z)) (by simp [own_h3, own_lit, *] <;> rfl), rfl⟩
          · -- pc 28 (on: not s2 = (0 : Int32))
            refine g_iconst w d5_28 (0 : Int32) rfl 29 rfl ?_
            refine g_goto w d5_29 33 (by decide) (by decide) ?_
            refine g_i2l w d5_33 34 rfl ?_
            refine g_long (x' := (0 : Int64)) (by decide) ?_
            refine g_lcmp w d5_34 35 rfl ?_
            refine g_lif_ne w d5_35 40 (by decide) (by decide) 38 rfl (fun hc35 => ?_) (fun hc35 => ?_)
            · -- pc 40 (taken: not (own_at4 w0 w1 w2 w3 x2) = (0 : Int64))
              refine g_iinc w d5_40 43 rfl rfl (by decide) #[.val (.ref co), .val (.ref va), .val (.int (3 : Int32))] rfl ?_
              refine g_goto w d5_43 2 (by decide) (by decide) ?_
              refine g_iloadN w d5_2 rfl 3 rfl ?_
              refine g_aloadN w d5_3 rfl rfl 4 rfl ?_
              refine g_getf w d5_4 3 rfl 0 rfl 25 rfl Via.refl 7 rfl (fun T w => ?_)
              refine g_alen w d5_7 4 rfl (3 : Int32) rfl 8 rfl ?_
              refine g_icmp_ge w d5_8 46 (by decide) (by decide) 11 rfl (fun hc8 => ?_) (fun h => absurd h (by decide))
              refine g_iconst w d5_46 (0 : Int32) rfl 47 rfl ?_
              exact g_iretn w (by simp) d5_47 (by decide) (by decide) ⟨congrArg (fun z => some (Value.int z)) (by simp [own_h3, own_lit, *] <;> rfl), rfl⟩
            · -- pc 38 (on: (own_at4 w0 w1 w2 w3 x2) = (0 : Int64))
              refine g_iconst w d5_38 (1 : Int32) rfl 39 rfl ?_
              exact g_iretn w (by simp) d5_39 (by decide) (by decide) ⟨congrArg (fun z => some (Value.int z)) (by simp [own_h3, own_lit, *] <;> rfl), rfl⟩
        · -- pc 38 (on: (own_at4 w0 w1 w2 w3 x1) = (0 : Int64))
          refine g_iconst w d5_38 (1 : Int32) rfl 39 rfl ?_
          exact g_iretn w (by simp) d5_39 (by decide) (by decide) ⟨congrArg (fun z => some (Value.int z)) (by simp [own_h3, own_lit, *] <;> rfl), rfl⟩
    · -- pc 38 (on: (own_at4 w0 w1 w2 w3 x0) = (1 : Int64))
      refine g_iconst w d5_38 (1 : Int32) rfl 39 rfl ?_
      exact g_iretn w (by simp) d5_39 (by decide) (by decide) ⟨congrArg (fun z => some (Value.int z)) (by simp [own_h3, own_lit, *] <;> rfl), rfl⟩
  · -- pc 28 (on: not s0 = (0 : Int32))
    refine g_iconst w d5_28 (0 : Int32) rfl 29 rfl ?_
    refine g_goto w d5_29 33 (by decide) (by decide) ?_
    refine g_i2l w d5_33 34 rfl ?_
    refine g_long (x' := (0 : Int64)) (by decide) ?_
    refine g_lcmp w d5_34 35 rfl ?_
    refine g_lif_ne w d5_35 40 (by decide) (by decide) 38 rfl (fun hc35 => ?_) (fun hc35 => ?_)
    · -- pc 40 (taken: not (own_at4 w0 w1 w2 w3 x0) = (0 : Int64))
      refine g_iinc w d5_40 43 rfl rfl (by decide) #[.val (.ref co), .val (.ref va), .val (.int (1 : Int32))] rfl ?_
      refine g_goto w d5_43 2 (by decide) (by decide) ?_
      refine g_iloadN w d5_2 rfl 3 rfl ?_
      refine g_aloadN w d5_3 rfl rfl 4 rfl ?_
      refine g_getf w d5_4 3 rfl 0 rfl 25 rfl Via.refl 7 rfl (fun T w => ?_)
      refine g_alen w d5_7 4 rfl (3 : Int32) rfl 8 rfl ?_
      refine g_icmp_ge w d5_8 46 (by decide) (by decide) 11 rfl (fun h => absurd (by decide) h) (fun hc8 => ?_)
      refine g_aloadN w d5_11 rfl rfl 12 rfl ?_
      refine g_aloadN w d5_12 rfl rfl 13 rfl ?_
      refine g_getf w d5_13 3 rfl 0 rfl 25 rfl Via.refl 16 rfl (fun T w => ?_)
      refine g_iloadN w d5_16 rfl 17 rfl ?_
      refine g_iaload w d5_17 4 rfl 1 (by decide) rfl 18 rfl ?_
      obtain ⟨jn, hj, hz⟩ := own_get w0 w1 w2 w3 ok1
      refine g_laload w d5_18 0 rfl jn hj hz 19 rfl ?_
      refine g_aloadN w d5_19 rfl rfl 20 rfl ?_
      refine g_getf w d5_20 3 rfl 1 rfl 33 rfl Via.refl 23 rfl (fun T w => ?_)
      refine g_iloadN w d5_23 rfl 24 rfl ?_
      refine g_zaload w d5_24 5 rfl 1 (by decide) rfl 25 rfl ?_
      refine g_if_eq w d5_25 32 (by decide) (by decide) 28 rfl (fun hc25 => ?_) (fun hc25 => ?_)
      · -- pc 32 (taken: s1 = (0 : Int32))
        refine g_iconst w d5_32 (1 : Int32) rfl 33 rfl ?_
        refine g_i2l w d5_33 34 rfl ?_
        refine g_long (x' := (1 : Int64)) (by decide) ?_
        refine g_lcmp w d5_34 35 rfl ?_
        refine g_lif_ne w d5_35 40 (by decide) (by decide) 38 rfl (fun hc35 => ?_) (fun hc35 => ?_)
        · -- pc 40 (taken: not (own_at4 w0 w1 w2 w3 x1) = (1 : Int64))
          refine g_iinc w d5_40 43 rfl rfl (by decide) #[.val (.ref co), .val (.ref va), .val (.int (2 : Int32))] rfl ?_
          refine g_goto w d5_43 2 (by decide) (by decide) ?_
          refine g_iloadN w d5_2 rfl 3 rfl ?_
          refine g_aloadN w d5_3 rfl rfl 4 rfl ?_
          refine g_getf w d5_4 3 rfl 0 rfl 25 rfl Via.refl 7 rfl (fun T w => ?_)
          refine g_alen w d5_7 4 rfl (3 : Int32) rfl 8 rfl ?_
          refine g_icmp_ge w d5_8 46 (by decide) (by decide) 11 rfl (fun h => absurd (by decide) h) (fun hc8 => ?_)
          refine g_aloadN w d5_11 rfl rfl 12 rfl ?_
          refine g_aloadN w d5_12 rfl rfl 13 rfl ?_
          refine g_getf w d5_13 3 rfl 0 rfl 25 rfl Via.refl 16 rfl (fun T w => ?_)
          refine g_iloadN w d5_16 rfl 17 rfl ?_
          refine g_iaload w d5_17 4 rfl 2 (by decide) rfl 18 rfl ?_
          obtain ⟨jn, hj, hz⟩ := own_get w0 w1 w2 w3 ok2
          refine g_laload w d5_18 0 rfl jn hj hz 19 rfl ?_
          refine g_aloadN w d5_19 rfl rfl 20 rfl ?_
          refine g_getf w d5_20 3 rfl 1 rfl 33 rfl Via.refl 23 rfl (fun T w => ?_)
          refine g_iloadN w d5_23 rfl 24 rfl ?_
          refine g_zaload w d5_24 5 rfl 2 (by decide) rfl 25 rfl ?_
          refine g_if_eq w d5_25 32 (by decide) (by decide) 28 rfl (fun hc25 => ?_) (fun hc25 => ?_)
          · -- pc 32 (taken: s2 = (0 : Int32))
            refine g_iconst w d5_32 (1 : Int32) rfl 33 rfl ?_
            refine g_i2l w d5_33 34 rfl ?_
            refine g_long (x' := (1 : Int64)) (by decide) ?_
            refine g_lcmp w d5_34 35 rfl ?_
            refine g_lif_ne w d5_35 40 (by decide) (by decide) 38 rfl (fun hc35 => ?_) (fun hc35 => ?_)
            · -- pc 40 (taken: not (own_at4 w0 w1 w2 w3 x2) = (1 : Int64))
              refine g_iinc w d5_40 43 rfl rfl (by decide) #[.val (.ref co), .val (.ref va), .val (.int (3 : Int32))] rfl ?_
              refine g_goto w d5_43 2 (by decide) (by decide) ?_
              refine g_iloadN w d5_2 rfl 3 rfl ?_
              refine g_aloadN w d5_3 rfl rfl 4 rfl ?_
              refine g_getf w d5_4 3 rfl 0 rfl 25 rfl Via.refl 7 rfl (fun T w => ?_)
              refine g_alen w d5_7 4 rfl (3 : Int32) rfl 8 rfl ?_
              refine g_icmp_ge w d5_8 46 (by decide) (by decide) 11 rfl (fun hc8 => ?_) (fun h => absurd h (by decide))
              refine g_iconst w d5_46 (0 : Int32) rfl 47 rfl ?_
              exact g_iretn w (by simp) d5_47 (by decide) (by decide) ⟨congrArg (fun z => some (Value.int z)) (by simp [own_h3, own_lit, *] <;> rfl), rfl⟩
            · -- pc 38 (on: (own_at4 w0 w1 w2 w3 x2) = (1 : Int64))
              refine g_iconst w d5_38 (1 : Int32) rfl 39 rfl ?_
              exact g_iretn w (by simp) d5_39 (by decide) (by decide) ⟨congrArg (fun z => some (Value.int z)) (by simp [own_h3, own_lit, *] <;> rfl), rfl⟩
          · -- pc 28 (on: not s2 = (0 : Int32))
            refine g_iconst w d5_28 (0 : Int32) rfl 29 rfl ?_
            refine g_goto w d5_29 33 (by decide) (by decide) ?_
            refine g_i2l w d5_33 34 rfl ?_
            refine g_long (x' := (0 : Int64)) (by decide) ?_
            refine g_lcmp w d5_34 35 rfl ?_
            refine g_lif_ne w d5_35 40 (by decide) (by decide) 38 rfl (fun hc35 => ?_) (fun hc35 => ?_)
            · -- pc 40 (taken: not (own_at4 w0 w1 w2 w3 x2) = (0 : Int64))
              refine g_iinc w d5_40 43 rfl rfl (by decide) #[.val (.ref co), .val (.ref va), .val (.int (3 : Int32))] rfl ?_
              refine g_goto w d5_43 2 (by decide) (by decide) ?_
              refine g_iloadN w d5_2 rfl 3 rfl ?_
              refine g_aloadN w d5_3 rfl rfl 4 rfl ?_
              refine g_getf w d5_4 3 rfl 0 rfl 25 rfl Via.refl 7 rfl (fun T w => ?_)
              refine g_alen w d5_7 4 rfl (3 : Int32) rfl 8 rfl ?_
              refine g_icmp_ge w d5_8 46 (by decide) (by decide) 11 rfl (fun hc8 => ?_) (fun h => absurd h (by decide))
              refine g_iconst w d5_46 (0 : Int32) rfl 47 rfl ?_
              exact g_iretn w (by simp) d5_47 (by decide) (by decide) ⟨congrArg (fun z => some (Value.int z)) (by simp [own_h3, own_lit, *] <;> rfl), rfl⟩
            · -- pc 38 (on: (own_at4 w0 w1 w2 w3 x2) = (0 : Int64))
              refine g_iconst w d5_38 (1 : Int32) rfl 39 rfl ?_
              exact g_iretn w (by simp) d5_39 (by decide) (by decide) ⟨congrArg (fun z => some (Value.int z)) (by simp [own_h3, own_lit, *] <;> rfl), rfl⟩
        · -- pc 38 (on: (own_at4 w0 w1 w2 w3 x1) = (1 : Int64))
          refine g_iconst w d5_38 (1 : Int32) rfl 39 rfl ?_
          exact g_iretn w (by simp) d5_39 (by decide) (by decide) ⟨congrArg (fun z => some (Value.int z)) (by simp [own_h3, own_lit, *] <;> rfl), rfl⟩
      · -- pc 28 (on: not s1 = (0 : Int32))
        refine g_iconst w d5_28 (0 : Int32) rfl 29 rfl ?_
        refine g_goto w d5_29 33 (by decide) (by decide) ?_
        refine g_i2l w d5_33 34 rfl ?_
        refine g_long (x' := (0 : Int64)) (by decide) ?_
        refine g_lcmp w d5_34 35 rfl ?_
        refine g_lif_ne w d5_35 40 (by decide) (by decide) 38 rfl (fun hc35 => ?_) (fun hc35 => ?_)
        · -- pc 40 (taken: not (own_at4 w0 w1 w2 w3 x1) = (0 : Int64))
          refine g_iinc w d5_40 43 rfl rfl (by decide) #[.val (.ref co), .val (.ref va), .val (.int (2 : Int32))] rfl ?_
          refine g_goto w d5_43 2 (by decide) (by decide) ?_
          refine g_iloadN w d5_2 rfl 3 rfl ?_
          refine g_aloadN w d5_3 rfl rfl 4 rfl ?_
          refine g_getf w d5_4 3 rfl 0 rfl 25 rfl Via.refl 7 rfl (fun T w => ?_)
          refine g_alen w d5_7 4 rfl (3 : Int32) rfl 8 rfl ?_
          refine g_icmp_ge w d5_8 46 (by decide) (by decide) 11 rfl (fun h => absurd (by decide) h) (fun hc8 => ?_)
          refine g_aloadN w d5_11 rfl rfl 12 rfl ?_
          refine g_aloadN w d5_12 rfl rfl 13 rfl ?_
          refine g_getf w d5_13 3 rfl 0 rfl 25 rfl Via.refl 16 rfl (fun T w => ?_)
          refine g_iloadN w d5_16 rfl 17 rfl ?_
          refine g_iaload w d5_17 4 rfl 2 (by decide) rfl 18 rfl ?_
          obtain ⟨jn, hj, hz⟩ := own_get w0 w1 w2 w3 ok2
          refine g_laload w d5_18 0 rfl jn hj hz 19 rfl ?_
          refine g_aloadN w d5_19 rfl rfl 20 rfl ?_
          refine g_getf w d5_20 3 rfl 1 rfl 33 rfl Via.refl 23 rfl (fun T w => ?_)
          refine g_iloadN w d5_23 rfl 24 rfl ?_
          refine g_zaload w d5_24 5 rfl 2 (by decide) rfl 25 rfl ?_
          refine g_if_eq w d5_25 32 (by decide) (by decide) 28 rfl (fun hc25 => ?_) (fun hc25 => ?_)
          · -- pc 32 (taken: s2 = (0 : Int32))
            refine g_iconst w d5_32 (1 : Int32) rfl 33 rfl ?_
            refine g_i2l w d5_33 34 rfl ?_
            refine g_long (x' := (1 : Int64)) (by decide) ?_
            refine g_lcmp w d5_34 35 rfl ?_
            refine g_lif_ne w d5_35 40 (by decide) (by decide) 38 rfl (fun hc35 => ?_) (fun hc35 => ?_)
            · -- pc 40 (taken: not (own_at4 w0 w1 w2 w3 x2) = (1 : Int64))
              refine g_iinc w d5_40 43 rfl rfl (by decide) #[.val (.ref co), .val (.ref va), .val (.int (3 : Int32))] rfl ?_
              refine g_goto w d5_43 2 (by decide) (by decide) ?_
              refine g_iloadN w d5_2 rfl 3 rfl ?_
              refine g_aloadN w d5_3 rfl rfl 4 rfl ?_
              refine g_getf w d5_4 3 rfl 0 rfl 25 rfl Via.refl 7 rfl (fun T w => ?_)
              refine g_alen w d5_7 4 rfl (3 : Int32) rfl 8 rfl ?_
              refine g_icmp_ge w d5_8 46 (by decide) (by decide) 11 rfl (fun hc8 => ?_) (fun h => absurd h (by decide))
              refine g_iconst w d5_46 (0 : Int32) rfl 47 rfl ?_
              exact g_iretn w (by simp) d5_47 (by decide) (by decide) ⟨congrArg (fun z => some (Value.int z)) (by simp [own_h3, own_lit, *] <;> rfl), rfl⟩
            · -- pc 38 (on: (own_at4 w0 w1 w2 w3 x2) = (1 : Int64))
              refine g_iconst w d5_38 (1 : Int32) rfl 39 rfl ?_
              exact g_iretn w (by simp) d5_39 (by decide) (by decide) ⟨congrArg (fun z => some (Value.int z)) (by simp [own_h3, own_lit, *] <;> rfl), rfl⟩
          · -- pc 28 (on: not s2 = (0 : Int32))
            refine g_iconst w d5_28 (0 : Int32) rfl 29 rfl ?_
            refine g_goto w d5_29 33 (by decide) (by decide) ?_
            refine g_i2l w d5_33 34 rfl ?_
            refine g_long (x' := (0 : Int64)) (by decide) ?_
            refine g_lcmp w d5_34 35 rfl ?_
            refine g_lif_ne w d5_35 40 (by decide) (by decide) 38 rfl (fun hc35 => ?_) (fun hc35 => ?_)
            · -- pc 40 (taken: not (own_at4 w0 w1 w2 w3 x2) = (0 : Int64))
              refine g_iinc w d5_40 43 rfl rfl (by decide) #[.val (.ref co), .val (.ref va), .val (.int (3 : Int32))] rfl ?_
              refine g_goto w d5_43 2 (by decide) (by decide) ?_
              refine g_iloadN w d5_2 rfl 3 rfl ?_
              refine g_aloadN w d5_3 rfl rfl 4 rfl ?_
              refine g_getf w d5_4 3 rfl 0 rfl 25 rfl Via.refl 7 rfl (fun T w => ?_)
              refine g_alen w d5_7 4 rfl (3 : Int32) rfl 8 rfl ?_
              refine g_icmp_ge w d5_8 46 (by decide) (by decide) 11 rfl (fun hc8 => ?_) (fun h => absurd h (by decide))
              refine g_iconst w d5_46 (0 : Int32) rfl 47 rfl ?_
              exact g_iretn w (by simp) d5_47 (by decide) (by decide) ⟨congrArg (fun z => some (Value.int z)) (by simp [own_h3, own_lit, *] <;> rfl), rfl⟩
            · -- pc 38 (on: (own_at4 w0 w1 w2 w3 x2) = (0 : Int64))
              refine g_iconst w d5_38 (1 : Int32) rfl 39 rfl ?_
              exact g_iretn w (by simp) d5_39 (by decide) (by decide) ⟨congrArg (fun z => some (Value.int z)) (by simp [own_h3, own_lit, *] <;> rfl), rfl⟩
        · -- pc 38 (on: (own_at4 w0 w1 w2 w3 x1) = (0 : Int64))
          refine g_iconst w d5_38 (1 : Int32) rfl 39 rfl ?_
          exact g_iretn w (by simp) d5_39 (by decide) (by decide) ⟨congrArg (fun z => some (Value.int z)) (by simp [own_h3, own_lit, *] <;> rfl), rfl⟩
    · -- pc 38 (on: (own_at4 w0 w1 w2 w3 x0) = (0 : Int64))
      refine g_iconst w d5_38 (1 : Int32) rfl 39 rfl ?_
      exact g_iretn w (by simp) d5_39 (by decide) (by decide) ⟨congrArg (fun z => some (Value.int z)) (by simp [own_h3, own_lit, *] <;> rfl), rfl⟩
theorem pd_0 : parseMethodDescriptor "(JI)J" = some ⟨[.long, .int], some .long⟩ := by decide +kernel
theorem pd_1 : parseMethodDescriptor "([I[Z)V" = some ⟨[(.array .int), (.array .boolean)], none⟩ := by decide +kernel
theorem pd_2 : parseMethodDescriptor "(JZ)Z" = some ⟨[.long, .boolean], some .boolean⟩ := by decide +kernel
theorem pd_3 : parseMethodDescriptor "([J)Z" = some ⟨[(.array .long)], some .boolean⟩ := by decide +kernel
theorem pn_0 : plainFor x = true := plainFor_of_name (by first | (simp [plainName, overriddenIn, x]; done) | decide +kernel)
set_option maxRecDepth 65536 in
set_option maxHeartbeats 40000000 in
theorem rm0 (l : Launch) (Z : State) (a0 : Array Value) (hw : ∀ d ∈ tables_1, d.before a0 Z = true) (n0 : Nat) (u : Int32) (q0 q1 q2 q3 : Int64)  :
    Con l x code maxLocals ret room_1 Z n0 #[(.int u), (.long q0), (.long q1), (.long q2), (.long q3)] ([]) (fun v _ => v = some (.int 1)) := by
  refine Con.of (ws := tables_1) (a0 := a0) pn_0 hw ?_
  intro p e s m below meth cde T kb w
  refine g_entry #[.val (.int u), .val (.long q0), .second, .val (.long q1), .second, .val (.long q2), .second, .val (.long q3), .second, .unset, .unset, .unset, .unset, .unset, .unset, .unset, .unset, .unset, .unset, .unset, .unset, .unset, .unset, .unset, .unset, .unset, .unset, .unset, .unset, .unset, .unset, .unset] (by first | (simp [entryFrame, mkF, argsToLocals, Value.category, maxLocals]; done) | rfl) ?_
  refine g_iloadN w at_0 rfl 1 rfl ?_
  refine g_iconst w at_1 (3 : Int32) rfl 2 rfl ?_
  refine g_iand w at_2 3 rfl ?_
  refine g_istore w at_3 5 rfl rfl #[.val (.int u), .val (.long q0), .second, .val (.long q1), .second, .val (.long q2), .second, .val (.long q3), .second, .val (.int (u &&& (3 : Int32))), .unset, .unset, .unset, .unset, .unset, .unset, .unset, .unset, .unset, .unset, .unset, .unset, .unset, .unset, .unset, .unset, .unset, .unset, .unset, .unset, .unset, .unset] rfl ?_
  refine g_iloadN w at_5 rfl 6 rfl ?_
  refine g_iconst w at_6 (2 : Int32) rfl 7 rfl ?_
  refine g_iushr w at_7 8 rfl ?_
  refine g_iconst w at_8 (3 : Int32) rfl 9 rfl ?_
  refine g_iand w at_9 10 rfl ?_
  obtain ⟨x0, hx0⟩ : ∃ own_z, own_z = (((ushrI u (2 : Int32)) &&& (3 : Int32)) : Int32) := ⟨_, rfl⟩
  refine g_istore w at_10 12 rfl hx0.symm #[.val (.int u), .val (.long q0), .second, .val (.long q1), .second, .val (.long q2), .second, .val (.long q3), .second, .val (.int (u &&& (3 : Int32))), .val (.int x0), .unset, .unset, .unset, .unset, .unset, .unset, .unset, .unset, .unset, .unset, .unset, .unset, .unset, .unset, .unset, .unset, .unset, .unset, .unset, .unset, .unset] rfl ?_
  have ok0 : own_ok x0 := by rw [hx0]; exact own_okOf _
  refine g_iloadN w at_12 rfl 13 rfl ?_
  refine g_iconst w at_13 (4 : Int32) rfl 14 rfl ?_
  refine g_iushr w at_14 15 rfl ?_
  refine g_iconst w at_15 (3 : Int32) rfl 16 rfl ?_
  refine g_iand w at_16 17 rfl ?_
  obtain ⟨x1, hx1⟩ : ∃ own_z, own_z = (((ushrI u (4 : Int32)) &&& (3 : Int32)) : Int32) := ⟨_, rfl⟩
  refine g_istore w at_17 19 rfl hx1.symm #[.val (.int u), .val (.long q0), .second, .val (.long q1), .second, .val (.long q2), .second, .val (.long q3), .second, .val (.int (u &&& (3 : Int32))), .val (.int x0), .val (.int x1), .unset, .unset, .unset, .unset, .unset, .unset, .unset, .unset, .unset, .unset, .unset, .unset, .unset, .unset, .unset, .unset, .unset, .unset, .unset, .unset] rfl ?_
  have ok1 : own_ok x1 := by rw [hx1]; exact own_okOf _
  refine g_iloadN w at_19 rfl 20 rfl ?_
  refine g_bipush w at_20 (6 : Int32) rfl 22 rfl ?_
  refine g_iushr w at_22 23 rfl ?_
  refine g_iconst w at_23 (3 : Int32) rfl 24 rfl ?_
  refine g_iand w at_24 25 rfl ?_
  obtain ⟨x2, hx2⟩ : ∃ own_z, own_z = (((ushrI u (6 : Int32)) &&& (3 : Int32)) : Int32) := ⟨_, rfl⟩
  refine g_istore w at_25 27 rfl hx2.symm #[.val (.int u), .val (.long q0), .second, .val (.long q1), .second, .val (.long q2), .second, .val (.long q3), .second, .val (.int (u &&& (3 : Int32))), .val (.int x0), .val (.int x1), .val (.int x2), .unset, .unset, .unset, .unset, .unset, .unset, .unset, .unset, .unset, .unset, .unset, .unset, .unset, .unset, .unset, .unset, .unset, .unset, .unset] rfl ?_
  have ok2 : own_ok x2 := by rw [hx2]; exact own_okOf _
  refine g_iloadN w at_27 rfl 28 rfl ?_
  refine g_bipush w at_28 (8 : Int32) rfl 30 rfl ?_
  refine g_iushr w at_30 31 rfl ?_
  refine g_iconst w at_31 (1 : Int32) rfl 32 rfl ?_
  refine g_iand w at_32 33 rfl ?_
  have J41 : ∀ s0 : Int32, s0 = 0 ∨ s0 = 1 → Go p e below Z n0 kb (EndN s room_1.cells room_1.slots) (fun v _ => v = some (.int 1)) T (mkF m 41 #[.val (.int u), .val (.long q0), .second, .val (.long q1), .second, .val (.long q2), .second, .val (.long q3), .second, .val (.int (u &&& (3 : Int32))), .val (.int x0), .val (.int x1), .val (.int x2), .unset, .unset, .unset, .unset, .unset, .unset, .unset, .unset, .unset, .unset, .unset, .unset, .unset, .unset, .unset, .unset, .unset, .unset, .unset] [(.int s0)]) := by
    intro s0 hs0
    refine g_istore w at_41 43 rfl rfl #[.val (.int u), .val (.long q0), .second, .val (.long q1), .second, .val (.long q2), .second, .val (.long q3), .second, .val (.int (u &&& (3 : Int32))), .val (.int x0), .val (.int x1), .val (.int x2), .val (.int s0), .unset, .unset, .unset, .unset, .unset, .unset, .unset, .unset, .unset, .unset, .unset, .unset, .unset, .unset, .unset, .unset, .unset, .unset] rfl ?_
    refine g_iloadN w at_43 rfl 44 rfl ?_
    refine g_bipush w at_44 (9 : Int32) rfl 46 rfl ?_
    refine g_iushr w at_46 47 rfl ?_
    refine g_iconst w at_47 (1 : Int32) rfl 48 rfl ?_
    refine g_iand w at_48 49 rfl ?_
    have J57 : ∀ s1 : Int32, s1 = 0 ∨ s1 = 1 → Go p e below Z n0 kb (EndN s room_1.cells room_1.slots) (fun v _ => v = some (.int 1)) T (mkF m 57 #[.val (.int u), .val (.long q0), .second, .val (.long q1), .second, .val (.long q2), .second, .val (.long q3), .second, .val (.int (u &&& (3 : Int32))), .val (.int x0), .val (.int x1), .val (.int x2), .val (.int s0), .unset, .unset, .unset, .unset, .unset, .unset, .unset, .unset, .unset, .unset, .unset, .unset, .unset, .unset, .unset, .unset, .unset, .unset] [(.int s1)]) := by
      intro s1 hs1
      refine g_istore w at_57 59 rfl rfl #[.val (.int u), .val (.long q0), .second, .val (.long q1), .second, .val (.long q2), .second, .val (.long q3), .second, .val (.int (u &&& (3 : Int32))), .val (.int x0), .val (.int x1), .val (.int x2), .val (.int s0), .val (.int s1), .unset, .unset, .unset, .unset, .unset, .unset, .unset, .unset, .unset, .unset, .unset, .unset, .unset, .unset, .unset, .unset, .unset] rfl ?_
      refine g_iloadN w at_59 rfl 60 rfl ?_
      refine g_bipush w at_60 (10 : Int32) rfl 62 rfl ?_
      refine g_iushr w at_62 63 rfl ?_
      refine g_iconst w at_63 (1 : Int32) rfl 64 rfl ?_
      refine g_iand w at_64 65 rfl ?_
      have J73 : ∀ s2 : Int32, s2 = 0 ∨ s2 = 1 → Go p e below Z n0 kb (EndN s room_1.cells room_1.slots) (fun v _ => v = some (.int 1)) T (mkF m 73 #[.val (.int u), .val (.long q0), .second, .val (.long q1), .second, .val (.long q2), .second, .val (.long q3), .second, .val (.int (u &&& (3 : Int32))), .val (.int x0), .val (.int x1), .val (.int x2), .val (.int s0), .val (.int s1), .unset, .unset, .unset, .unset, .unset, .unset, .unset, .unset, .unset, .unset, .unset, .unset, .unset, .unset, .unset, .unset, .unset] [(.int s2)]) := by
        intro s2 hs2
        refine g_istore w at_73 75 rfl rfl #[.val (.int u), .val (.long q0), .second, .val (.long q1), .second, .val (.long q2), .second, .val (.long q3), .second, .val (.int (u &&& (3 : Int32))), .val (.int x0), .val (.int x1), .val (.int x2), .val (.int s0), .val (.int s1), .val (.int s2), .unset, .unset, .unset, .unset, .unset, .unset, .unset, .unset, .unset, .unset, .unset, .unset, .unset, .unset, .unset, .unset] rfl ?_
        refine g_lloadN w at_75 rfl 76 rfl ?_
        refine g_iloadN w at_76 rfl 77 rfl ?_
        refine g_bipush w at_77 (11 : Int32) rfl 79 rfl ?_
        refine g_iushr w at_79 80 rfl ?_
        refine g_static w (argsL := [(.long q0), (.int (ushrI u (11 : Int32)))]) (rest := []) (rm1 l Z a0 hw n0 q0 (ushrI u (11 : Int32)) ([])) at_80 0 rfl 1 rfl 2 rfl 3 rfl ⟨by decide, by decide⟩ pd_0 rfl rfl rfl 0 rfl (by decide) (by decide) (by decide) (by decide) 83 rfl (fun T v L w h => ?_)
        obtain ⟨rfl, hL⟩ := h
        replace w := w.to hL
        obtain ⟨w0, hw0⟩ : ∃ own_z, own_z = ((own_pick q0 (ushrI u (11 : Int32))) : Int64) := ⟨_, rfl⟩
        refine g_lstore w at_83 85 rfl hw0.symm #[.val (.int u), .val (.long q0), .second, .val (.long q1), .second, .val (.long q2), .second, .val (.long q3), .second, .val (.int (u &&& (3 : Int32))), .val (.int x0), .val (.int x1), .val (.int x2), .val (.int s0), .val (.int s1), .val (.int s2), .val (.long w0), .second, .unset, .unset, .unset, .unset, .unset, .unset, .unset, .unset, .unset, .unset, .unset, .unset, .unset, .unset] rfl ?_
        refine g_lloadN w at_85 rfl 86 rfl ?_
        refine g_iloadN w at_86 rfl 87 rfl ?_
        refine g_bipush w at_87 (12 : Int32) rfl 89 rfl ?_
        refine g_iushr w at_89 90 rfl ?_
        refine g_static w (argsL := [(.long q1), (.int (ushrI u (12 : Int32)))]) (rest := []) (rm1 l Z a0 hw n0 q1 (ushrI u (12 : Int32)) ([])) at_90 0 rfl 1 rfl 2 rfl 3 rfl ⟨by decide, by decide⟩ pd_0 rfl rfl rfl 0 rfl (by decide) (by decide) (by decide) (by decide) 93 rfl (fun T v L w h => ?_)
        obtain ⟨rfl, hL⟩ := h
        replace w := w.to hL
        obtain ⟨w1, hw1⟩ : ∃ own_z, own_z = ((own_pick q1 (ushrI u (12 : Int32))) : Int64) := ⟨_, rfl⟩
        refine g_lstore w at_93 95 rfl hw1.symm #[.val (.int u), .val (.long q0), .second, .val (.long q1), .second, .val (.long q2), .second, .val (.long q3), .second, .val (.int (u &&& (3 : Int32))), .val (.int x0), .val (.int x1), .val (.int x2), .val (.int s0), .val (.int s1), .val (.int s2), .val (.long w0), .second, .val (.long w1), .second, .unset, .unset, .unset, .unset, .unset, .unset, .unset, .unset, .unset, .unset, .unset, .unset] rfl ?_
        refine g_lload w at_95 rfl 97 rfl ?_
        refine g_iloadN w at_97 rfl 98 rfl ?_
        refine g_bipush w at_98 (13 : Int32) rfl 100 rfl ?_
        refine g_iushr w at_100 101 rfl ?_
        refine g_static w (argsL := [(.long q2), (.int (ushrI u (13 : Int32)))]) (rest := []) (rm1 l Z a0 hw n0 q2 (ushrI u (13 : Int32)) ([])) at_101 0 rfl 1 rfl 2 rfl 3 rfl ⟨by decide, by decide⟩ pd_0 rfl rfl rfl 0 rfl (by decide) (by decide) (by decide) (by decide) 104 rfl (fun T v L w h => ?_)
        obtain ⟨rfl, hL⟩ := h
        replace w := w.to hL
        obtain ⟨w2, hw2⟩ : ∃ own_z, own_z = ((own_pick q2 (ushrI u (13 : Int32))) : Int64) := ⟨_, rfl⟩
        refine g_lstore w at_104 106 rfl hw2.symm #[.val (.int u), .val (.long q0), .second, .val (.long q1), .second, .val (.long q2), .second, .val (.long q3), .second, .val (.int (u &&& (3 : Int32))), .val (.int x0), .val (.int x1), .val (.int x2), .val (.int s0), .val (.int s1), .val (.int s2), .val (.long w0), .second, .val (.long w1), .second, .val (.long w2), .second, .unset, .unset, .unset, .unset, .unset, .unset, .unset, .unset, .unset, .unset] rfl ?_
        refine g_lload w at_106 rfl 108 rfl ?_
        refine g_iloadN w at_108 rfl 109 rfl ?_
        refine g_bipush w at_109 (14 : Int32) rfl 111 rfl ?_
        refine g_iushr w at_111 112 rfl ?_
        refine g_static w (argsL := [(.long q3), (.int (ushrI u (14 : Int32)))]) (rest := []) (rm1 l Z a0 hw n0 q3 (ushrI u (14 : Int32)) ([])) at_112 0 rfl 1 rfl 2 rfl 3 rfl ⟨by decide, by decide⟩ pd_0 rfl rfl rfl 0 rfl (by decide) (by decide) (by decide) (by decide) 115 rfl (fun T v L w h => ?_)
        obtain ⟨rfl, hL⟩ := h
        replace w := w.to hL
        obtain ⟨w3, hw3⟩ : ∃ own_z, own_z = ((own_pick q3 (ushrI u (14 : Int32))) : Int64) := ⟨_, rfl⟩
        refine g_lstore w at_115 117 rfl hw3.symm #[.val (.int u), .val (.long q0), .second, .val (.long q1), .second, .val (.long q2), .second, .val (.long q3), .second, .val (.int (u &&& (3 : Int32))), .val (.int x0), .val (.int x1), .val (.int x2), .val (.int s0), .val (.int s1), .val (.int s2), .val (.long w0), .second, .val (.long w1), .second, .val (.long w2), .second, .val (.long w3), .second, .unset, .unset, .unset, .unset, .unset, .unset, .unset, .unset] rfl ?_
        refine g_iconst w at_117 (4 : Int32) rfl 118 rfl ?_
        refine g_newarr w at_118 4 rfl 4 4 (by decide) (by decide) (by decide) [(.long (0 : Int64)), (.long (0 : Int64)), (.long (0 : Int64)), (.long (0 : Int64))] rfl (by decide) (by decide) 120 rfl (fun T b1 w => ?_)
        replace w := w.to (L' := [(b1, .inr (.long, [(.long (0 : Int64)), (.long (0 : Int64)), (.long (0 : Int64)), (.long (0 : Int64))]))]) rfl
        refine g_dup w at_120 rfl 121 rfl ?_
        refine g_iconst w at_121 (0 : Int32) rfl 122 rfl ?_
        refine g_lload w at_122 rfl 124 rfl ?_
        refine g_lastore w at_124 0 rfl 0 (by decide) (Nat.le_of_ble_eq_true rfl) (.long w0) rfl 125 rfl (fun T w => ?_)
        replace w := w.to (L' := [(b1, .inr (.long, [(.long w0), (.long (0 : Int64)), (.long (0 : Int64)), (.long (0 : Int64))]))]) rfl
        refine g_dup w at_125 rfl 126 rfl ?_
        refine g_iconst w at_126 (1 : Int32) rfl 127 rfl ?_
        refine g_lload w at_127 rfl 129 rfl ?_
        refine g_lastore w at_129 0 rfl 1 (by decide) (Nat.le_of_ble_eq_true rfl) (.long w1) rfl 130 rfl (fun T w => ?_)
        replace w := w.to (L' := [(b1, .inr (.long, [(.long w0), (.long w1), (.long (0 : Int64)), (.long (0 : Int64))]))]) rfl
        refine g_dup w at_130 rfl 131 rfl ?_
        refine g_iconst w at_131 (2 : Int32) rfl 132 rfl ?_
        refine g_lload w at_132 rfl 134 rfl ?_
        refine g_lastore w at_134 0 rfl 2 (by decide) (Nat.le_of_ble_eq_true rfl) (.long w2) rfl 135 rfl (fun T w => ?_)
        replace w := w.to (L' := [(b1, .inr (.long, [(.long w0), (.long w1), (.long w2), (.long (0 : Int64))]))]) rfl
        refine g_dup w at_135 rfl 136 rfl ?_
        refine g_iconst w at_136 (3 : Int32) rfl 137 rfl ?_
        refine g_lload w at_137 rfl 139 rfl ?_
        refine g_lastore w at_139 0 rfl 3 (by decide) (Nat.le_of_ble_eq_true rfl) (.long w3) rfl 140 rfl (fun T w => ?_)
        replace w := w.to (L' := [(b1, .inr (.long, [(.long w0), (.long w1), (.long w2), (.long w3)]))]) rfl
        refine g_astore w at_140 142 rfl rfl #[.val (.int u), .val (.long q0), .second, .val (.long q1), .second, .val (.long q2), .second, .val (.long q3), .second, .val (.int (u &&& (3 : Int32))), .val (.int x0), .val (.int x1), .val (.int x2), .val (.int s0), .val (.int s1), .val (.int s2), .val (.long w0), .second, .val (.long w1), .second, .val (.long w2), .second, .val (.long w3), .second, .val (.ref b1), .unset, .unset, .unset, .unset, .unset, .unset, .unset] rfl ?_
        rcases own_n u with hn | hn | hn | hn
        · -- pc 142 n = 0
          rw [hn]
          refine g_iload w at_142 rfl 144 rfl ?_
          refine g_if_ne w at_144 160 (by decide) (by decide) 147 rfl (fun h => absurd (by decide) h) (fun hc144 => ?_)
          refine g_iconst w at_147 (0 : Int32) rfl 148 rfl ?_
          refine g_newarr w at_148 5 rfl 0 0 (by decide) (by decide) (by decide) [] rfl (by decide) (by decide) 150 rfl (fun T b2 w => ?_)
          replace w := w.to (L' := [(b1, .inr (.long, [(.long w0), (.long w1), (.long w2), (.long w3)])), (b2, .inr (.int, []))]) rfl
          refine g_astore w at_150 152 rfl rfl #[.val (.int u), .val (.long q0), .second, .val (.long q1), .second, .val (.long q2), .second, .val (.long q3), .second, .val (.int (0 : Int32)), .val (.int x0), .val (.int x1), .val (.int x2), .val (.int s0), .val (.int s1), .val (.int s2), .val (.long w0), .second, .val (.long w1), .second, .val (.long w2), .second, .val (.long w3), .second, .val (.ref b1), .val (.ref b2), .unset, .unset, .unset, .unset, .unset, .unset] rfl ?_
          refine g_iconst w at_152 (0 : Int32) rfl 153 rfl ?_
          refine g_newarr w at_153 6 rfl 0 0 (by decide) (by decide) (by decide) [] rfl (by decide) (by decide) 155 rfl (fun T b3 w => ?_)
          replace w := w.to (L' := [(b1, .inr (.long, [(.long w0), (.long w1), (.long w2), (.long w3)])), (b2, .inr (.int, [])), (b3, .inr (.boolean, []))]) rfl
          refine g_astore w at_155 157 rfl rfl #[.val (.int u), .val (.long q0), .second, .val (.long q1), .second, .val (.long q2), .second, .val (.long q3), .second, .val (.int (0 : Int32)), .val (.int x0), .val (.int x1), .val (.int x2), .val (.int s0), .val (.int s1), .val (.int s2), .val (.long w0), .second, .val (.long w1), .second, .val (.long w2), .second, .val (.long w3), .second, .val (.ref b1), .val (.ref b2), .val (.ref b3), .unset, .unset, .unset, .unset, .unset] rfl ?_
          refine g_goto w at_157 268 (by decide) (by decide) ?_
          refine g_new w [("com/example/chancebound/chancebound/model/Clause", "variables", "[I", .null), ("com/example/chancebound/chancebound/model/Clause", "negated", "[Z", .null)] at_268 7 rfl 8 rfl 9 rfl (FOk.cons (Or.inr (w.hw (k := 26) rfl)) (ty := (.array .int)) (by decide) rfl (FOk.cons (Or.inr (w.hw (k := 34) rfl)) (ty := (.array .boolean)) (by decide) rfl trivial)) (by decide) (by decide) (by decide) 271 rfl (fun T b4 w => ?_)
          replace w := w.to (L' := [(b1, .inr (.long, [(.long w0), (.long w1), (.long w2), (.long w3)])), (b2, .inr (.int, [])), (b3, .inr (.boolean, [])), (b4, O_Clause .null .null)]) rfl
          refine g_dup w at_271 rfl 272 rfl ?_
          refine g_aload w at_272 rfl rfl 274 rfl ?_
          refine g_aload w at_274 rfl rfl 276 rfl ?_
          refine g_ctor w (argsL := [(.ref b2), (.ref b3)]) (rest := [(.ref b4)]) (rmC_0 l Z a0 hw n0 b1 b2 b3 b4 w0 w1 w2 w3 ) at_276 10 rfl 11 rfl 9 rfl 12 rfl rfl ⟨by decide, by decide⟩ pd_1 rfl rfl rfl 1 rfl (by decide) (by decide) (by decide) (by decide) 279 rfl (fun T v L w h => ?_)
          obtain ⟨rfl, y1, y2, rfl⟩ := h
          refine g_astore w at_279 281 rfl rfl #[.val (.int u), .val (.long q0), .second, .val (.long q1), .second, .val (.long q2), .second, .val (.long q3), .second, .val (.int (0 : Int32)), .val (.int x0), .val (.int x1), .val (.int x2), .val (.int s0), .val (.int s1), .val (.int s2), .val (.long w0), .second, .val (.long w1), .second, .val (.long w2), .second, .val (.long w3), .second, .val (.ref b1), .val (.ref b2), .val (.ref b3), .val (.ref b4), .unset, .unset, .unset, .unset] rfl ?_
          refine g_aload w at_281 rfl rfl 283 rfl ?_
          refine g_iload w at_283 rfl 285 rfl ?_
          obtain ⟨jn, hj, hz⟩ := own_get w0 w1 w2 w3 ok0
          refine g_laload w at_285 0 rfl jn hj hz 286 rfl ?_
          refine g_iload w at_286 rfl 288 rfl ?_
          refine g_static w (argsL := [(.long (own_at4 w0 w1 w2 w3 x0)), (.int s0)]) (rest := []) (rm4 l Z a0 hw n0 (own_at4 w0 w1 w2 w3 x0) s0 ([(b1, .inr (.long, [(.long w0), (.long w1), (.long w2), (.long w3)])), (b2, .inr (.int, [])), (b3, .inr (.boolean, [])), (b4, O_Clause (.ref y1) (.ref y2)), (y1, .inr (.int, [])), (y2, .inr (.boolean, []))])) at_288 35 rfl 36 rfl 2 rfl 37 rfl ⟨by decide, by decide⟩ pd_2 rfl rfl rfl 0 rfl (by decide) (by decide) (by decide) (by decide) 291 rfl (fun T v L w h => ?_)
          obtain ⟨rfl, hL⟩ := h
          replace w := w.to hL
          refine g_istore w at_291 293 rfl rfl #[.val (.int u), .val (.long q0), .second, .val (.long q1), .second, .val (.long q2), .second, .val (.long q3), .second, .val (.int (0 : Int32)), .val (.int x0), .val (.int x1), .val (.int x2), .val (.int s0), .val (.int s1), .val (.int s2), .val (.long w0), .second, .val (.long w1), .second, .val (.long w2), .second, .val (.long w3), .second, .val (.ref b1), .val (.ref b2), .val (.ref b3), .val (.ref b4), .val (.int (own_lit (own_at4 w0 w1 w2 w3 x0) s0)), .unset, .unset, .unset] rfl ?_
          refine g_aload w at_293 rfl rfl 295 rfl ?_
          refine g_iload w at_295 rfl 297 rfl ?_
          obtain ⟨jn, hj, hz⟩ := own_get w0 w1 w2 w3 ok1
          refine g_laload w at_297 0 rfl jn hj hz 298 rfl ?_
          refine g_iload w at_298 rfl 300 rfl ?_
          refine g_static w (argsL := [(.long (own_at4 w0 w1 w2 w3 x1)), (.int s1)]) (rest := []) (rm4 l Z a0 hw n0 (own_at4 w0 w1 w2 w3 x1) s1 ([(b1, .inr (.long, [(.long w0), (.long w1), (.long w2), (.long w3)])), (b2, .inr (.int, [])), (b3, .inr (.boolean, [])), (b4, O_Clause (.ref y1) (.ref y2)), (y1, .inr (.int, [])), (y2, .inr (.boolean, []))])) at_300 35 rfl 36 rfl 2 rfl 37 rfl ⟨by decide, by decide⟩ pd_2 rfl rfl rfl 0 rfl (by decide) (by decide) (by decide) (by decide) 303 rfl (fun T v L w h => ?_)
          obtain ⟨rfl, hL⟩ := h
          replace w := w.to hL
          refine g_istore w at_303 305 rfl rfl #[.val (.int u), .val (.long q0), .second, .val (.long q1), .second, .val (.long q2), .second, .val (.long q3), .second, .val (.int (0 : Int32)), .val (.int x0), .val (.int x1), .val (.int x2), .val (.int s0), .val (.int s1), .val (.int s2), .val (.long w0), .second, .val (.long w1), .second, .val (.long w2), .second, .val (.long w3), .second, .val (.ref b1), .val (.ref b2), .val (.ref b3), .val (.ref b4), .val (.int (own_lit (own_at4 w0 w1 w2 w3 x0) s0)), .val (.int (own_lit (own_at4 w0 w1 w2 w3 x1) s1)), .unset, .unset] rfl ?_
          refine g_aload w at_305 rfl rfl 307 rfl ?_
          refine g_iload w at_307 rfl 309 rfl ?_
          obtain ⟨jn, hj, hz⟩ := own_get w0 w1 w2 w3 ok2
          refine g_laload w at_309 0 rfl jn hj hz 310 rfl ?_
          refine g_iload w at_310 rfl 312 rfl ?_
          refine g_static w (argsL := [(.long (own_at4 w0 w1 w2 w3 x2)), (.int s2)]) (rest := []) (rm4 l Z a0 hw n0 (own_at4 w0 w1 w2 w3 x2) s2 ([(b1, .inr (.long, [(.long w0), (.long w1), (.long w2), (.long w3)])), (b2, .inr (.int, [])), (b3, .inr (.boolean, [])), (b4, O_Clause (.ref y1) (.ref y2)), (y1, .inr (.int, [])), (y2, .inr (.boolean, []))])) at_312 35 rfl 36 rfl 2 rfl 37 rfl ⟨by decide, by decide⟩ pd_2 rfl rfl rfl 0 rfl (by decide) (by decide) (by decide) (by decide) 315 rfl (fun T v L w h => ?_)
          obtain ⟨rfl, hL⟩ := h
          replace w := w.to hL
          refine g_istore w at_315 317 rfl rfl #[.val (.int u), .val (.long q0), .second, .val (.long q1), .second, .val (.long q2), .second, .val (.long q3), .second, .val (.int (0 : Int32)), .val (.int x0), .val (.int x1), .val (.int x2), .val (.int s0), .val (.int s1), .val (.int s2), .val (.long w0), .second, .val (.long w1), .second, .val (.long w2), .second, .val (.long w3), .second, .val (.ref b1), .val (.ref b2), .val (.ref b3), .val (.ref b4), .val (.int (own_lit (own_at4 w0 w1 w2 w3 x0) s0)), .val (.int (own_lit (own_at4 w0 w1 w2 w3 x1) s1)), .val (.int (own_lit (own_at4 w0 w1 w2 w3 x2) s2)), .unset] rfl ?_
          refine g_iload w at_317 rfl 319 rfl ?_
          refine g_iconst w at_319 (1 : Int32) rfl 320 rfl ?_
          refine g_icmp_lt w at_320 328 (by decide) (by decide) 323 rfl (fun hc320 => ?_) (fun h => absurd (by decide) h)
          refine g_iload w at_328 rfl 330 rfl ?_
          refine g_iconst w at_330 (2 : Int32) rfl 331 rfl ?_
          refine g_icmp_lt w at_331 339 (by decide) (by decide) 334 rfl (fun hc331 => ?_) (fun h => absurd (by decide) h)
          refine g_iload w at_339 rfl 341 rfl ?_
          refine g_iconst w at_341 (3 : Int32) rfl 342 rfl ?_
          refine g_icmp_lt w at_342 354 (by decide) (by decide) 345 rfl (fun hc342 => ?_) (fun h => absurd (by decide) h)
          refine g_iconst w at_354 (0 : Int32) rfl 355 rfl ?_
          refine g_istore w at_355 357 rfl rfl #[.val (.int u), .val (.long q0), .second, .val (.long q1), .second, .val (.long q2), .second, .val (.long q3), .second, .val (.int (0 : Int32)), .val (.int x0), .val (.int x1), .val (.int x2), .val (.int s0), .val (.int s1), .val (.int s2), .val (.long w0), .second, .val (.long w1), .second, .val (.long w2), .second, .val (.long w3), .second, .val (.ref b1), .val (.ref b2), .val (.ref b3), .val (.ref b4), .val (.int (own_lit (own_at4 w0 w1 w2 w3 x0) s0)), .val (.int (own_lit (own_at4 w0 w1 w2 w3 x1) s1)), .val (.int (own_lit (own_at4 w0 w1 w2 w3 x2) s2)), .val (.int (0 : Int32))] rfl ?_
          refine g_aload w at_357 rfl rfl 359 rfl ?_
          refine g_aload w at_359 rfl rfl 361 rfl ?_
          refine g_virt w (argsL := [(.ref b1)]) (rest := []) (rmH_0 l Z a0 hw n0 b1 b2 b3 b4 y1 y2 w0 w1 w2 w3 ) at_361 3 rfl 38 rfl 39 rfl 9 rfl 42 rfl 41 rfl 40 rfl ⟨by decide, by decide⟩ pd_3 rfl rfl rfl 0 rfl (by decide) (by decide) (by decide) (by decide) 364 rfl (fun T v L w h => ?_)
          obtain ⟨rfl, hL⟩ := h
          replace w := w.to hL
          refine g_iload w at_364 rfl 366 rfl ?_
          refine g_icmp_ne w at_366 373 (by decide) (by decide) 369 rfl (fun h => absurd (show own_h0 = 0 from rfl) h) (fun hc366 => ?_)
          refine g_iconst w at_369 (1 : Int32) rfl 370 rfl ?_
          refine g_goto w at_370 374 (by decide) (by decide) ?_
          exact g_iretn w (by simp) at_374 (by decide) (by decide) rfl
        · -- pc 142 n = 1
          rw [hn]
          refine g_iload w at_142 rfl 144 rfl ?_
          refine g_if_ne w at_144 160 (by decide) (by decide) 147 rfl (fun hc144 => ?_) (fun h => absurd h (by decide))
          refine g_iload w at_160 rfl 162 rfl ?_
          refine g_iconst w at_162 (1 : Int32) rfl 163 rfl ?_
          refine g_icmp_ne w at_163 189 (by decide) (by decide) 166 rfl (fun h => absurd (by decide) h) (fun hc163 => ?_)
          refine g_iconst w at_166 (1 : Int32) rfl 167 rfl ?_
          refine g_newarr w at_167 5 rfl 1 1 (by decide) (by decide) (by decide) [(.int (0 : Int32))] rfl (by decide) (by decide) 169 rfl (fun T b5 w => ?_)
          replace w := w.to (L' := [(b1, .inr (.long, [(.long w0), (.long w1), (.long w2), (.long w3)])), (b5, .inr (.int, [(.int (0 : Int32))]))]) rfl
          refine g_dup w at_169 rfl 170 rfl ?_
          refine g_iconst w at_170 (0 : Int32) rfl 171 rfl ?_
          refine g_iload w at_171 rfl 173 rfl ?_
          refine g_iastore w at_173 1 rfl 0 (by decide) (Nat.le_of_ble_eq_true rfl) (.int x0) rfl 174 rfl (fun T w => ?_)
          replace w := w.to (L' := [(b1, .inr (.long, [(.long w0), (.long w1), (.long w2), (.long w3)])), (b5, .inr (.int, [(.int x0)]))]) rfl
          refine g_astore w at_174 176 rfl rfl #[.val (.int u), .val (.long q0), .second, .val (.long q1), .second, .val (.long q2), .second, .val (.long q3), .second, .val (.int (1 : Int32)), .val (.int x0), .val (.int x1), .val (.int x2), .val (.int s0), .val (.int s1), .val (.int s2), .val (.long w0), .second, .val (.long w1), .second, .val (.long w2), .second, .val (.long w3), .second, .val (.ref b1), .val (.ref b5), .unset, .unset, .unset, .unset, .unset, .unset] rfl ?_
          refine g_iconst w at_176 (1 : Int32) rfl 177 rfl ?_
          refine g_newarr w at_177 6 rfl 1 1 (by decide) (by decide) (by decide) [(.int (0 : Int32))] rfl (by decide) (by decide) 179 rfl (fun T b6 w => ?_)
          replace w := w.to (L' := [(b1, .inr (.long, [(.long w0), (.long w1), (.long w2), (.long w3)])), (b5, .inr (.int, [(.int x0)])), (b6, .inr (.boolean, [(.int (0 : Int32))]))]) rfl
          refine g_dup w at_179 rfl 180 rfl ?_
          refine g_iconst w at_180 (0 : Int32) rfl 181 rfl ?_
          refine g_iload w at_181 rfl 183 rfl ?_
          refine g_zastore w at_183 2 rfl 0 (by decide) (Nat.le_of_ble_eq_true rfl) (.int s0) (own_bool hs0) 184 rfl (fun T w => ?_)
          replace w := w.to (L' := [(b1, .inr (.long, [(.long w0), (.long w1), (.long w2), (.long w3)])), (b5, .inr (.int, [(.int x0)])), (b6, .inr (.boolean, [(.int s0)]))]) rfl
          refine g_astore w at_184 186 rfl rfl #[.val (.int u), .val (.long q0), .second, .val (.long q1), .second, .val (.long q2), .second, .val (.long q3), .second, .val (.int (1 : Int32)), .val (.int x0), .val (.int x1), .val (.int x2), .val (.int s0), .val (.int s1), .val (.int s2), .val (.long w0), .second, .val (.long w1), .second, .val (.long w2), .second, .val (.long w3), .second, .val (.ref b1), .val (.ref b5), .val (.ref b6), .unset, .unset, .unset, .unset, .unset] rfl ?_
          refine g_goto w at_186 268 (by decide) (by decide) ?_
          refine g_new w [("com/example/chancebound/chancebound/model/Clause", "variables", "[I", .null), ("com/example/chancebound/chancebound/model/Clause", "negated", "[Z", .null)] at_268 7 rfl 8 rfl 9 rfl (FOk.cons (Or.inr (w.hw (k := 26) rfl)) (ty := (.array .int)) (by decide) rfl (FOk.cons (Or.inr (w.hw (k := 34) rfl)) (ty := (.array .boolean)) (by decide) rfl trivial)) (by decide) (by decide) (by decide) 271 rfl (fun T b7 w => ?_)
          replace w := w.to (L' := [(b1, .inr (.long, [(.long w0), (.long w1), (.long w2), (.long w3)])), (b5, .inr (.int, [(.int x0)])), (b6, .inr (.boolean, [(.int s0)])), (b7, O_Clause .null .null)]) rfl
          refine g_dup w at_271 rfl 272 rfl ?_
          refine g_aload w at_272 rfl rfl 274 rfl ?_
          refine g_aload w at_274 rfl rfl 276 rfl ?_
          refine g_ctor w (argsL := [(.ref b5), (.ref b6)]) (rest := [(.ref b7)]) (rmC_1 l Z a0 hw n0 b1 b5 b6 b7 w0 w1 w2 w3 x0 s0 ok0 hs0) at_276 10 rfl 11 rfl 9 rfl 12 rfl rfl ⟨by decide, by decide⟩ pd_1 rfl rfl rfl 1 rfl (by decide) (by decide) (by decide) (by decide) 279 rfl (fun T v L w h => ?_)
          obtain ⟨rfl, y1, y2, rfl⟩ := h
          refine g_astore w at_279 281 rfl rfl #[.val (.int u), .val (.long q0), .second, .val (.long q1), .second, .val (.long q2), .second, .val (.long q3), .second, .val (.int (1 : Int32)), .val (.int x0), .val (.int x1), .val (.int x2), .val (.int s0), .val (.int s1), .val (.int s2), .val (.long w0), .second, .val (.long w1), .second, .val (.long w2), .second, .val (.long w3), .second, .val (.ref b1), .val (.ref b5), .val (.ref b6), .val (.ref b7), .unset, .unset, .unset, .unset] rfl ?_
          refine g_aload w at_281 rfl rfl 283 rfl ?_
          refine g_iload w at_283 rfl 285 rfl ?_
          obtain ⟨jn, hj, hz⟩ := own_get w0 w1 w2 w3 ok0
          refine g_laload w at_285 0 rfl jn hj hz 286 rfl ?_
          refine g_iload w at_286 rfl 288 rfl ?_
          refine g_static w (argsL := [(.long (own_at4 w0 w1 w2 w3 x0)), (.int s0)]) (rest := []) (rm4 l Z a0 hw n0 (own_at4 w0 w1 w2 w3 x0) s0 ([(b1, .inr (.long, [(.long w0), (.long w1), (.long w2), (.long w3)])), (b5, .inr (.int, [(.int x0)])), (b6, .inr (.boolean, [(.int s0)])), (b7, O_Clause (.ref y1) (.ref y2)), (y1, .inr (.int, [(.int x0)])), (y2, .inr (.boolean, [(.int s0)]))])) at_288 35 rfl 36 rfl 2 rfl 37 rfl ⟨by decide, by decide⟩ pd_2 rfl rfl rfl 0 rfl (by decide) (by decide) (by decide) (by decide) 291 rfl (fun T v L w h => ?_)
          obtain ⟨rfl, hL⟩ := h
          replace w := w.to hL
          refine g_istore w at_291 293 rfl rfl #[.val (.int u), .val (.long q0), .second, .val (.long q1), .second, .val (.long q2), .second, .val (.long q3), .second, .val (.int (1 : Int32)), .val (.int x0), .val (.int x1), .val (.int x2), .val (.int s0), .val (.int s1), .val (.int s2), .val (.long w0), .second, .val (.long w1), .second, .val (.long w2), .second, .val (.long w3), .second, .val (.ref b1), .val (.ref b5), .val (.ref b6), .val (.ref b7), .val (.int (own_lit (own_at4 w0 w1 w2 w3 x0) s0)), .unset, .unset, .unset] rfl ?_
          refine g_aload w at_293 rfl rfl 295 rfl ?_
          refine g_iload w at_295 rfl 297 rfl ?_
          obtain ⟨jn, hj, hz⟩ := own_get w0 w1 w2 w3 ok1
          refine g_laload w at_297 0 rfl jn hj hz 298 rfl ?_
          refine g_iload w at_298 rfl 300 rfl ?_
          refine g_static w (argsL := [(.long (own_at4 w0 w1 w2 w3 x1)), (.int s1)]) (rest := []) (rm4 l Z a0 hw n0 (own_at4 w0 w1 w2 w3 x1) s1 ([(b1, .inr (.long, [(.long w0), (.long w1), (.long w2), (.long w3)])), (b5, .inr (.int, [(.int x0)])), (b6, .inr (.boolean, [(.int s0)])), (b7, O_Clause (.ref y1) (.ref y2)), (y1, .inr (.int, [(.int x0)])), (y2, .inr (.boolean, [(.int s0)]))])) at_300 35 rfl 36 rfl 2 rfl 37 rfl ⟨by decide, by decide⟩ pd_2 rfl rfl rfl 0 rfl (by decide) (by decide) (by decide) (by decide) 303 rfl (fun T v L w h => ?_)
          obtain ⟨rfl, hL⟩ := h
          replace w := w.to hL
          refine g_istore w at_303 305 rfl rfl #[.val (.int u), .val (.long q0), .second, .val (.long q1), .second, .val (.long q2), .second, .val (.long q3), .second, .val (.int (1 : Int32)), .val (.int x0), .val (.int x1), .val (.int x2), .val (.int s0), .val (.int s1), .val (.int s2), .val (.long w0), .second, .val (.long w1), .second, .val (.long w2), .second, .val (.long w3), .second, .val (.ref b1), .val (.ref b5), .val (.ref b6), .val (.ref b7), .val (.int (own_lit (own_at4 w0 w1 w2 w3 x0) s0)), .val (.int (own_lit (own_at4 w0 w1 w2 w3 x1) s1)), .unset, .unset] rfl ?_
          refine g_aload w at_305 rfl rfl 307 rfl ?_
          refine g_iload w at_307 rfl 309 rfl ?_
          obtain ⟨jn, hj, hz⟩ := own_get w0 w1 w2 w3 ok2
          refine g_laload w at_309 0 rfl jn hj hz 310 rfl ?_
          refine g_iload w at_310 rfl 312 rfl ?_
          refine g_static w (argsL := [(.long (own_at4 w0 w1 w2 w3 x2)), (.int s2)]) (rest := []) (rm4 l Z a0 hw n0 (own_at4 w0 w1 w2 w3 x2) s2 ([(b1, .inr (.long, [(.long w0), (.long w1), (.long w2), (.long w3)])), (b5, .inr (.int, [(.int x0)])), (b6, .inr (.boolean, [(.int s0)])), (b7, O_Clause (.ref y1) (.ref y2)), (y1, .inr (.int, [(.int x0)])), (y2, .inr (.boolean, [(.int s0)]))])) at_312 35 rfl 36 rfl 2 rfl 37 rfl ⟨by decide, by decide⟩ pd_2 rfl rfl rfl 0 rfl (by decide) (by decide) (by decide) (by decide) 315 rfl (fun T v L w h => ?_)
          obtain ⟨rfl, hL⟩ := h
          replace w := w.to hL
          refine g_istore w at_315 317 rfl rfl #[.val (.int u), .val (.long q0), .second, .val (.long q1), .second, .val (.long q2), .second, .val (.long q3), .second, .val (.int (1 : Int32)), .val (.int x0), .val (.int x1), .val (.int x2), .val (.int s0), .val (.int s1), .val (.int s2), .val (.long w0), .second, .val (.long w1), .second, .val (.long w2), .second, .val (.long w3), .second, .val (.ref b1), .val (.ref b5), .val (.ref b6), .val (.ref b7), .val (.int (own_lit (own_at4 w0 w1 w2 w3 x0) s0)), .val (.int (own_lit (own_at4 w0 w1 w2 w3 x1) s1)), .val (.int (own_lit (own_at4 w0 w1 w2 w3 x2) s2)), .unset] rfl ?_
          refine g_iload w at_317 rfl 319 rfl ?_
          refine g_iconst w at_319 (1 : Int32) rfl 320 rfl ?_
          refine g_icmp_lt w at_320 328 (by decide) (by decide) 323 rfl (fun h => absurd h (by decide)) (fun hc320 => ?_)
          refine g_iload w at_323 rfl 325 rfl ?_
          refine g_if_ne w at_325 350 (by decide) (by decide) 328 rfl (fun hc325 => ?_) (fun hc325 => ?_)
          · -- pc 350 (taken: not (own_lit (own_at4 w0 w1 w2 w3 x0) s0) = (0 : Int32))
            refine g_iconst w at_350 (1 : Int32) rfl 351 rfl ?_
            refine g_goto w at_351 355 (by decide) (by decide) ?_
            refine g_istore w at_355 357 rfl rfl #[.val (.int u), .val (.long q0), .second, .val (.long q1), .second, .val (.long q2), .second, .val (.long q3), .second, .val (.int (1 : Int32)), .val (.int x0), .val (.int x1), .val (.int x2), .val (.int s0), .val (.int s1), .val (.int s2), .val (.long w0), .second, .val (.long w1), .second, .val (.long w2), .second, .val (.long w3), .second, .val (.ref b1), .val (.ref b5), .val (.ref b6), .val (.ref b7), .val (.int (own_lit (own_at4 w0 w1 w2 w3 x0) s0)), .val (.int (own_lit (own_at4 w0 w1 w2 w3 x1) s1)), .val (.int (own_lit (own_at4 w0 w1 w2 w3 x2) s2)), .val (.int (1 : Int32))] rfl ?_
            refine g_aload w at_357 rfl rfl 359 rfl ?_
            refine g_aload w at_359 rfl rfl 361 rfl ?_
            refine g_virt w (argsL := [(.ref b1)]) (rest := []) (rmH_1 l Z a0 hw n0 b1 b5 b6 b7 y1 y2 w0 w1 w2 w3 x0 s0 ok0 hs0) at_361 3 rfl 38 rfl 39 rfl 9 rfl 42 rfl 41 rfl 40 rfl ⟨by decide, by decide⟩ pd_3 rfl rfl rfl 0 rfl (by decide) (by decide) (by decide) (by decide) 364 rfl (fun T v L w h => ?_)
            obtain ⟨rfl, hL⟩ := h
            replace w := w.to hL
            refine g_iload w at_364 rfl 366 rfl ?_
            refine g_icmp_ne w at_366 373 (by decide) (by decide) 369 rfl (fun h => absurd (by unfold own_h1; first | exact if_neg hc325 | exact if_pos hc325) h) (fun hc366 => ?_)
            refine g_iconst w at_369 (1 : Int32) rfl 370 rfl ?_
            refine g_goto w at_370 374 (by decide) (by decide) ?_
            exact g_iretn w (by simp) at_374 (by decide) (by decide) rfl
          · -- pc 328 (on: (own_lit (own_at4 w0 w1 w2 w3 x0) s0) = (0 : Int32))
            refine g_iload w at_328 rfl 330 rfl ?_
            refine g_iconst w at_330 (2 : Int32) rfl 331 rfl ?_
            refine g_icmp_lt w at_331 339 (by decide) (by decide) 334 rfl (fun hc331 => ?_) (fun h => absurd (by decide) h)
            refine g_iload w at_339 rfl 341 rfl ?_
            refine g_iconst w at_341 (3 : Int32) rfl 342 rfl ?_
            refine g_icmp_lt w at_342 354 (by decide) (by decide) 345 rfl (fun hc342 => ?_) (fun h => absurd (by decide) h)
            refine g_iconst w at_354 (0 : Int32) rfl 355 rfl ?_
            refine g_istore w at_355 357 rfl rfl #[.val (.int u), .val (.long q0), .second, .val (.long q1), .second, .val (.long q2), .second, .val (.long q3), .second, .val (.int (1 : Int32)), .val (.int x0), .val (.int x1), .val (.int x2), .val (.int s0), .val (.int s1), .val (.int s2), .val (.long w0), .second, .val (.long w1), .second, .val (.long w2), .second, .val (.long w3), .second, .val (.ref b1), .val (.ref b5), .val (.ref b6), .val (.ref b7), .val (.int (own_lit (own_at4 w0 w1 w2 w3 x0) s0)), .val (.int (own_lit (own_at4 w0 w1 w2 w3 x1) s1)), .val (.int (own_lit (own_at4 w0 w1 w2 w3 x2) s2)), .val (.int (0 : Int32))] rfl ?_
            refine g_aload w at_357 rfl rfl 359 rfl ?_
            refine g_aload w at_359 rfl rfl 361 rfl ?_
            refine g_virt w (argsL := [(.ref b1)]) (rest := []) (rmH_1 l Z a0 hw n0 b1 b5 b6 b7 y1 y2 w0 w1 w2 w3 x0 s0 ok0 hs0) at_361 3 rfl 38 rfl 39 rfl 9 rfl 42 rfl 41 rfl 40 rfl ⟨by decide, by decide⟩ pd_3 rfl rfl rfl 0 rfl (by decide) (by decide) (by decide) (by decide) 364 rfl (fun T v L w h => ?_)
            obtain ⟨rfl, hL⟩ := h
            replace w := w.to hL
            refine g_iload w at_364 rfl 366 rfl ?_
            refine g_icmp_ne w at_366 373 (by decide) (by decide) 369 rfl (fun h => absurd (by unfold own_h1; first | exact if_neg hc325 | exact if_pos hc325) h) (fun hc366 => ?_)
            refine g_iconst w at_369 (1 : Int32) rfl 370 rfl ?_
            refine g_goto w at_370 374 (by decide) (by decide) ?_
            exact g_iretn w (by simp) at_374 (by decide) (by decide) rfl
        · -- pc 142 n = 2
          rw [hn]
          refine g_iload w at_142 rfl 144 rfl ?_
          refine g_if_ne w at_144 160 (by decide) (by decide) 147 rfl (fun hc144 => ?_) (fun h => absurd h (by decide))
          refine g_iload w at_160 rfl 162 rfl ?_
          refine g_iconst w at_162 (1 : Int32) rfl 163 rfl ?_
          refine g_icmp_ne w at_163 189 (by decide) (by decide) 166 rfl (fun hc163 => ?_) (fun h => absurd h (by decide))
          refine g_iload w at_189 rfl 191 rfl ?_
          refine g_iconst w at_191 (2 : Int32) rfl 192 rfl ?_
          refine g_icmp_ne w at_192 228 (by decide) (by decide) 195 rfl (fun h => absurd (by decide) h) (fun hc192 => ?_)
          refine g_iconst w at_195 (2 : Int32) rfl 196 rfl ?_
          refine g_newarr w at_196 5 rfl 2 2 (by decide) (by decide) (by decide) [(.int (0 : Int32)), (.int (0 : Int32))] rfl (by decide) (by decide) 198 rfl (fun T b8 w => ?_)
          replace w := w.to (L' := [(b1, .inr (.long, [(.long w0), (.long w1), (.long w2), (.long w3)])), (b8, .inr (.int, [(.int (0 : Int32)), (.int (0 : Int32))]))]) rfl
          refine g_dup w at_198 rfl 199 rfl ?_
          refine g_iconst w at_199 (0 : Int32) rfl 200 rfl ?_
          refine g_iload w at_200 rfl 202 rfl ?_
          refine g_iastore w at_202 1 rfl 0 (by decide) (Nat.le_of_ble_eq_true rfl) (.int x0) rfl 203 rfl (fun T w => ?_)
          replace w := w.to (L' := [(b1, .inr (.long, [(.long w0), (.long w1), (.long w2), (.long w3)])), (b8, .inr (.int, [(.int x0), (.int (0 : Int32))]))]) rfl
          refine g_dup w at_203 rfl 204 rfl ?_
          refine g_iconst w at_204 (1 : Int32) rfl 205 rfl ?_
          refine g_iload w at_205 rfl 207 rfl ?_
          refine g_iastore w at_207 1 rfl 1 (by decide) (Nat.le_of_ble_eq_true rfl) (.int x1) rfl 208 rfl (fun T w => ?_)
          replace w := w.to (L' := [(b1, .inr (.long, [(.long w0), (.long w1), (.long w2), (.long w3)])), (b8, .inr (.int, [(.int x0), (.int x1)]))]) rfl
          refine g_astore w at_208 210 rfl rfl #[.val (.int u), .val (.long q0), .second, .val (.long q1), .second, .val (.long q2), .second, .val (.long q3), .second, .val (.int (2 : Int32)), .val (.int x0), .val (.int x1), .val (.int x2), .val (.int s0), .val (.int s1), .val (.int s2), .val (.long w0), .second, .val (.long w1), .second, .val (.long w2), .second, .val (.long w3), .second, .val (.ref b1), .val (.ref b8), .unset, .unset, .unset, .unset, .unset, .unset] rfl ?_
          refine g_iconst w at_210 (2 : Int32) rfl 211 rfl ?_
          refine g_newarr w at_211 6 rfl 2 2 (by decide) (by decide) (by decide) [(.int (0 : Int32)), (.int (0 : Int32))] rfl (by decide) (by decide) 213 rfl (fun T b9 w => ?_)
          replace w := w.to (L' := [(b1, .inr (.long, [(.long w0), (.long w1), (.long w2), (.long w3)])), (b8, .inr (.int, [(.int x0), (.int x1)])), (b9, .inr (.boolean, [(.int (0 : Int32)), (.int (0 : Int32))]))]) rfl
          refine g_dup w at_213 rfl 214 rfl ?_
          refine g_iconst w at_214 (0 : Int32) rfl 215 rfl ?_
          refine g_iload w at_215 rfl 217 rfl ?_
          refine g_zastore w at_217 2 rfl 0 (by decide) (Nat.le_of_ble_eq_true rfl) (.int s0) (own_bool hs0) 218 rfl (fun T w => ?_)
          replace w := w.to (L' := [(b1, .inr (.long, [(.long w0), (.long w1), (.long w2), (.long w3)])), (b8, .inr (.int, [(.int x0), (.int x1)])), (b9, .inr (.boolean, [(.int s0), (.int (0 : Int32))]))]) rfl
          refine g_dup w at_218 rfl 219 rfl ?_
          refine g_iconst w at_219 (1 : Int32) rfl 220 rfl ?_
          refine g_iload w at_220 rfl 222 rfl ?_
          refine g_zastore w at_222 2 rfl 1 (by decide) (Nat.le_of_ble_eq_true rfl) (.int s1) (own_bool hs1) 223 rfl (fun T w => ?_)
          replace w := w.to (L' := [(b1, .inr (.long, [(.long w0), (.long w1), (.long w2), (.long w3)])), (b8, .inr (.int, [(.int x0), (.int x1)])), (b9, .inr (.boolean, [(.int s0), (.int s1)]))]) rfl
          refine g_astore w at_223 225 rfl rfl #[.val (.int u), .val (.long q0), .second, .val (.long q1), .second, .val (.long q2), .second, .val (.long q3), .second, .val (.int (2 : Int32)), .val (.int x0), .val (.int x1), .val (.int x2), .val (.int s0), .val (.int s1), .val (.int s2), .val (.long w0), .second, .val (.long w1), .second, .val (.long w2), .second, .val (.long w3), .second, .val (.ref b1), .val (.ref b8), .val (.ref b9), .unset, .unset, .unset, .unset, .unset] rfl ?_
          refine g_goto w at_225 268 (by decide) (by decide) ?_
          refine g_new w [("com/example/chancebound/chancebound/model/Clause", "variables", "[I", .null), ("com/example/chancebound/chancebound/model/Clause", "negated", "[Z", .null)] at_268 7 rfl 8 rfl 9 rfl (FOk.cons (Or.inr (w.hw (k := 26) rfl)) (ty := (.array .int)) (by decide) rfl (FOk.cons (Or.inr (w.hw (k := 34) rfl)) (ty := (.array .boolean)) (by decide) rfl trivial)) (by decide) (by decide) (by decide) 271 rfl (fun T b10 w => ?_)
          replace w := w.to (L' := [(b1, .inr (.long, [(.long w0), (.long w1), (.long w2), (.long w3)])), (b8, .inr (.int, [(.int x0), (.int x1)])), (b9, .inr (.boolean, [(.int s0), (.int s1)])), (b10, O_Clause .null .null)]) rfl
          refine g_dup w at_271 rfl 272 rfl ?_
          refine g_aload w at_272 rfl rfl 274 rfl ?_
          refine g_aload w at_274 rfl rfl 276 rfl ?_
          refine g_ctor w (argsL := [(.ref b8), (.ref b9)]) (rest := [(.ref b10)]) (rmC_2 l Z a0 hw n0 b1 b8 b9 b10 w0 w1 w2 w3 x0 s0 x1 s1 ok0 hs0 ok1 hs1) at_276 10 rfl 11 rfl 9 rfl 12 rfl rfl ⟨by decide, by decide⟩ pd_1 rfl rfl rfl 1 rfl (by decide) (by decide) (by decide) (by decide) 279 rfl (fun T v L w h => ?_)
          obtain ⟨rfl, y1, y2, rfl⟩ := h
          refine g_astore w at_279 281 rfl rfl #[.val (.int u), .val (.long q0), .second, .val (.long q1), .second, .val (.long q2), .second, .val (.long q3), .second, .val (.int (2 : Int32)), .val (.int x0), .val (.int x1), .val (.int x2), .val (.int s0), .val (.int s1), .val (.int s2), .val (.long w0), .second, .val (.long w1), .second, .val (.long w2), .second, .val (.long w3), .second, .val (.ref b1), .val (.ref b8), .val (.ref b9), .val (.ref b10), .unset, .unset, .unset, .unset] rfl ?_
          refine g_aload w at_281 rfl rfl 283 rfl ?_
          refine g_iload w at_283 rfl 285 rfl ?_
          obtain ⟨jn, hj, hz⟩ := own_get w0 w1 w2 w3 ok0
          refine g_laload w at_285 0 rfl jn hj hz 286 rfl ?_
          refine g_iload w at_286 rfl 288 rfl ?_
          refine g_static w (argsL := [(.long (own_at4 w0 w1 w2 w3 x0)), (.int s0)]) (rest := []) (rm4 l Z a0 hw n0 (own_at4 w0 w1 w2 w3 x0) s0 ([(b1, .inr (.long, [(.long w0), (.long w1), (.long w2), (.long w3)])), (b8, .inr (.int, [(.int x0), (.int x1)])), (b9, .inr (.boolean, [(.int s0), (.int s1)])), (b10, O_Clause (.ref y1) (.ref y2)), (y1, .inr (.int, [(.int x0), (.int x1)])), (y2, .inr (.boolean, [(.int s0), (.int s1)]))])) at_288 35 rfl 36 rfl 2 rfl 37 rfl ⟨by decide, by decide⟩ pd_2 rfl rfl rfl 0 rfl (by decide) (by decide) (by decide) (by decide) 291 rfl (fun T v L w h => ?_)
          obtain ⟨rfl, hL⟩ := h
          replace w := w.to hL
          refine g_istore w at_291 293 rfl rfl #[.val (.int u), .val (.long q0), .second, .val (.long q1), .second, .val (.long q2), .second, .val (.long q3), .second, .val (.int (2 : Int32)), .val (.int x0), .val (.int x1), .val (.int x2), .val (.int s0), .val (.int s1), .val (.int s2), .val (.long w0), .second, .val (.long w1), .second, .val (.long w2), .second, .val (.long w3), .second, .val (.ref b1), .val (.ref b8), .val (.ref b9), .val (.ref b10), .val (.int (own_lit (own_at4 w0 w1 w2 w3 x0) s0)), .unset, .unset, .unset] rfl ?_
          refine g_aload w at_293 rfl rfl 295 rfl ?_
          refine g_iload w at_295 rfl 297 rfl ?_
          obtain ⟨jn, hj, hz⟩ := own_get w0 w1 w2 w3 ok1
          refine g_laload w at_297 0 rfl jn hj hz 298 rfl ?_
          refine g_iload w at_298 rfl 300 rfl ?_
          refine g_static w (argsL := [(.long (own_at4 w0 w1 w2 w3 x1)), (.int s1)]) (rest := []) (rm4 l Z a0 hw n0 (own_at4 w0 w1 w2 w3 x1) s1 ([(b1, .inr (.long, [(.long w0), (.long w1), (.long w2), (.long w3)])), (b8, .inr (.int, [(.int x0), (.int x1)])), (b9, .inr (.boolean, [(.int s0), (.int s1)])), (b10, O_Clause (.ref y1) (.ref y2)), (y1, .inr (.int, [(.int x0), (.int x1)])), (y2, .inr (.boolean, [(.int s0), (.int s1)]))])) at_300 35 rfl 36 rfl 2 rfl 37 rfl ⟨by decide, by decide⟩ pd_2 rfl rfl rfl 0 rfl (by decide) (by decide) (by decide) (by decide) 303 rfl (fun T v L w h => ?_)
          obtain ⟨rfl, hL⟩ := h
          replace w := w.to hL
          refine g_istore w at_303 305 rfl rfl #[.val (.int u), .val (.long q0), .second, .val (.long q1), .second, .val (.long q2), .second, .val (.long q3), .second, .val (.int (2 : Int32)), .val (.int x0), .val (.int x1), .val (.int x2), .val (.int s0), .val (.int s1), .val (.int s2), .val (.long w0), .second, .val (.long w1), .second, .val (.long w2), .second, .val (.long w3), .second, .val (.ref b1), .val (.ref b8), .val (.ref b9), .val (.ref b10), .val (.int (own_lit (own_at4 w0 w1 w2 w3 x0) s0)), .val (.int (own_lit (own_at4 w0 w1 w2 w3 x1) s1)), .unset, .unset] rfl ?_
          refine g_aload w at_305 rfl rfl 307 rfl ?_
          refine g_iload w at_307 rfl 309 rfl ?_
          obtain ⟨jn, hj, hz⟩ := own_get w0 w1 w2 w3 ok2
          refine g_laload w at_309 0 rfl jn hj hz 310 rfl ?_
          refine g_iload w at_310 rfl 312 rfl ?_
          refine g_static w (argsL := [(.long (own_at4 w0 w1 w2 w3 x2)), (.int s2)]) (rest := []) (rm4 l Z a0 hw n0 (own_at4 w0 w1 w2 w3 x2) s2 ([(b1, .inr (.long, [(.long w0), (.long w1), (.long w2), (.long w3)])), (b8, .inr (.int, [(.int x0), (.int x1)])), (b9, .inr (.boolean, [(.int s0), (.int s1)])), (b10, O_Clause (.ref y1) (.ref y2)), (y1, .inr (.int, [(.int x0), (.int x1)])), (y2, .inr (.boolean, [(.int s0), (.int s1)]))])) at_312 35 rfl 36 rfl 2 rfl 37 rfl ⟨by decide, by decide⟩ pd_2 rfl rfl rfl 0 rfl (by decide) (by decide) (by decide) (by decide) 315 rfl (fun T v L w h => ?_)
          obtain ⟨rfl, hL⟩ := h
          replace w := w.to hL
          refine g_istore w at_315 317 rfl rfl #[.val (.int u), .val (.long q0), .second, .val (.long q1), .second, .val (.long q2), .second, .val (.long q3), .second, .val (.int (2 : Int32)), .val (.int x0), .val (.int x1), .val (.int x2), .val (.int s0), .val (.int s1), .val (.int s2), .val (.long w0), .second, .val (.long w1), .second, .val (.long w2), .second, .val (.long w3), .second, .val (.ref b1), .val (.ref b8), .val (.ref b9), .val (.ref b10), .val (.int (own_lit (own_at4 w0 w1 w2 w3 x0) s0)), .val (.int (own_lit (own_at4 w0 w1 w2 w3 x1) s1)), .val (.int (own_lit (own_at4 w0 w1 w2 w3 x2) s2)), .unset] rfl ?_
          refine g_iload w at_317 rfl 319 rfl ?_
          refine g_iconst w at_319 (1 : Int32) rfl 320 rfl ?_
          refine g_icmp_lt w at_320 328 (by decide) (by decide) 323 rfl (fun h => absurd h (by decide)) (fun hc320 => ?_)
          refine g_iload w at_323 rfl 325 rfl ?_
          refine g_if_ne w at_325 350 (by decide) (by decide) 328 rfl (fun hc325 => ?_) (fun hc325 => ?_)
          · -- pc 350 (taken: not (own_lit (own_at4 w0 w1 w2 w3 x0) s0) = (0 : Int32))
            refine g_iconst w at_350 (1 : Int32) rfl 351 rfl ?_
            refine g_goto w at_351 355 (by decide) (by decide) ?_
            refine g_istore w at_355 357 rfl rfl #[.val (.int u), .val (.long q0), .second, .val (.long q1), .second, .val (.long q2), .second, .val (.long q3), .second, .val (.int (2 : Int32)), .val (.int x0), .val (.int x1), .val (.int x2), .val (.int s0), .val (.int s1), .val (.int s2), .val (.long w0), .second, .val (.long w1), .second, .val (.long w2), .second, .val (.long w3), .second, .val (.ref b1), .val (.ref b8), .val (.ref b9), .val (.ref b10), .val (.int (own_lit (own_at4 w0 w1 w2 w3 x0) s0)), .val (.int (own_lit (own_at4 w0 w1 w2 w3 x1) s1)), .val (.int (own_lit (own_at4 w0 w1 w2 w3 x2) s2)), .val (.int (1 : Int32))] rfl ?_
            refine g_aload w at_357 rfl rfl 359 rfl ?_
            refine g_aload w at_359 rfl rfl 361 rfl ?_
            refine g_virt w (argsL := [(.ref b1)]) (rest := []) (rmH_2 l Z a0 hw n0 b1 b8 b9 b10 y1 y2 w0 w1 w2 w3 x0 s0 x1 s1 ok0 hs0 ok1 hs1) at_361 3 rfl 38 rfl 39 rfl 9 rfl 42 rfl 41 rfl 40 rfl ⟨by decide, by decide⟩ pd_3 rfl rfl rfl 0 rfl (by decide) (by decide) (by decide) (by decide) 364 rfl (fun T v L w h => ?_)
            obtain ⟨rfl, hL⟩ := h
            replace w := w.to hL
            refine g_iload w at_364 rfl 366 rfl ?_
            refine g_icmp_ne w at_366 373 (by decide) (by decide) 369 rfl (fun h => absurd (by unfold own_h2; first | exact if_neg hc325 | (rw [if_pos hc325]; first | exact if_neg hc336 | exact if_pos hc336)) h) (fun hc366 => ?_)
            refine g_iconst w at_369 (1 : Int32) rfl 370 rfl ?_
            refine g_goto w at_370 374 (by decide) (by decide) ?_
            exact g_iretn w (by simp) at_374 (by decide) (by decide) rfl
          · -- pc 328 (on: (own_lit (own_at4 w0 w1 w2 w3 x0) s0) = (0 : Int32))
            refine g_iload w at_328 rfl 330 rfl ?_
            refine g_iconst w at_330 (2 : Int32) rfl 331 rfl ?_
            refine g_icmp_lt w at_331 339 (by decide) (by decide) 334 rfl (fun h => absurd h (by decide)) (fun hc331 => ?_)
            refine g_iload w at_334 rfl 336 rfl ?_
            refine g_if_ne w at_336 350 (by decide) (by decide) 339 rfl (fun hc336 => ?_) (fun hc336 => ?_)
            · -- pc 350 (taken: not (own_lit (own_at4 w0 w1 w2 w3 x1) s1) = (0 : Int32))
              refine g_iconst w at_350 (1 : Int32) rfl 351 rfl ?_
              refine g_goto w at_351 355 (by decide) (by decide) ?_
              refine g_istore w at_355 357 rfl rfl #[.val (.int u), .val (.long q0), .second, .val (.long q1), .second, .val (.long q2), .second, .val (.long q3), .second, .val (.int (2 : Int32)), .val (.int x0), .val (.int x1), .val (.int x2), .val (.int s0), .val (.int s1), .val (.int s2), .val (.long w0), .second, .val (.long w1), .second, .val (.long w2), .second, .val (.long w3), .second, .val (.ref b1), .val (.ref b8), .val (.ref b9), .val (.ref b10), .val (.int (own_lit (own_at4 w0 w1 w2 w3 x0) s0)), .val (.int (own_lit (own_at4 w0 w1 w2 w3 x1) s1)), .val (.int (own_lit (own_at4 w0 w1 w2 w3 x2) s2)), .val (.int (1 : Int32))] rfl ?_
              refine g_aload w at_357 rfl rfl 359 rfl ?_
              refine g_aload w at_359 rfl rfl 361 rfl ?_
              refine g_virt w (argsL := [(.ref b1)]) (rest := []) (rmH_2 l Z a0 hw n0 b1 b8 b9 b10 y1 y2 w0 w1 w2 w3 x0 s0 x1 s1 ok0 hs0 ok1 hs1) at_361 3 rfl 38 rfl 39 rfl 9 rfl 42 rfl 41 rfl 40 rfl ⟨by decide, by decide⟩ pd_3 rfl rfl rfl 0 rfl (by decide) (by decide) (by decide) (by decide) 364 rfl (fun T v L w h => ?_)
              obtain ⟨rfl, hL⟩ := h
              replace w := w.to hL
              refine g_iload w at_364 rfl 366 rfl ?_
              refine g_icmp_ne w at_366 373 (by decide) (by decide) 369 rfl (fun h => absurd (by unfold own_h2; first | exact if_neg hc325 | (rw [if_pos hc325]; first | exact if_neg hc336 | exact if_pos hc336)) h) (fun hc366 => ?_)
              refine g_iconst w at_369 (1 : Int32) rfl 370 rfl ?_
              refine g_goto w at_370 374 (by decide) (by decide) ?_
              exact g_iretn w (by simp) at_374 (by decide) (by decide) rfl
            · -- pc 339 (on: (own_lit (own_at4 w0 w1 w2 w3 x1) s1) = (0 : Int32))
              refine g_iload w at_339 rfl 341 rfl ?_
              refine g_iconst w at_341 (3 : Int32) rfl 342 rfl ?_
              refine g_icmp_lt w at_342 354 (by decide) (by decide) 345 rfl (fun hc342 => ?_) (fun h => absurd (by decide) h)
              refine g_iconst w at_354 (0 : Int32) rfl 355 rfl ?_
              refine g_istore w at_355 357 rfl rfl #[.val (.int u), .val (.long q0), .second, .val (.long q1), .second, .val (.long q2), .second, .val (.long q3), .second, .val (.int (2 : Int32)), .val (.int x0), .val (.int x1), .val (.int x2), .val (.int s0), .val (.int s1), .val (.int s2), .val (.long w0), .second, .val (.long w1), .second, .val (.long w2), .second, .val (.long w3), .second, .val (.ref b1), .val (.ref b8), .val (.ref b9), .val (.ref b10), .val (.int (own_lit (own_at4 w0 w1 w2 w3 x0) s0)), .val (.int (own_lit (own_at4 w0 w1 w2 w3 x1) s1)), .val (.int (own_lit (own_at4 w0 w1 w2 w3 x2) s2)), .val (.int (0 : Int32))] rfl ?_
              refine g_aload w at_357 rfl rfl 359 rfl ?_
              refine g_aload w at_359 rfl rfl 361 rfl ?_
              refine g_virt w (argsL := [(.ref b1)]) (rest := []) (rmH_2 l Z a0 hw n0 b1 b8 b9 b10 y1 y2 w0 w1 w2 w3 x0 s0 x1 s1 ok0 hs0 ok1 hs1) at_361 3 rfl 38 rfl 39 rfl 9 rfl 42 rfl 41 rfl 40 rfl ⟨by decide, by decide⟩ pd_3 rfl rfl rfl 0 rfl (by decide) (by decide) (by decide) (by decide) 364 rfl (fun T v L w h => ?_)
              obtain ⟨rfl, hL⟩ := h
              replace w := w.to hL
              refine g_iload w at_364 rfl 366 rfl ?_
              refine g_icmp_ne w at_366 373 (by decide) (by decide) 369 rfl (fun h => absurd (by unfold own_h2; first | exact if_neg hc325 | (rw [if_pos hc325]; first | exact if_neg hc336 | exact if_pos hc336)) h) (fun hc366 => ?_)
              refine g_iconst w at_369 (1 : Int32) rfl 370 rfl ?_
              refine g_goto w at_370 374 (by decide) (by decide) ?_
              exact g_iretn w (by simp) at_374 (by decide) (by decide) rfl
        · -- pc 142 n = 3
          rw [hn]
          refine g_iload w at_142 rfl 144 rfl ?_
          refine g_if_ne w at_144 160 (by decide) (by decide) 147 rfl (fun hc144 => ?_) (fun h => absurd h (by decide))
          refine g_iload w at_160 rfl 162 rfl ?_
          refine g_iconst w at_162 (1 : Int32) rfl 163 rfl ?_
          refine g_icmp_ne w at_163 189 (by decide) (by decide) 166 rfl (fun hc163 => ?_) (fun h => absurd h (by decide))
          refine g_iload w at_189 rfl 191 rfl ?_
          refine g_iconst w at_191 (2 : Int32) rfl 192 rfl ?_
          refine g_icmp_ne w at_192 228 (by decide) (by decide) 195 rfl (fun hc192 => ?_) (fun h => absurd h (by decide))
          refine g_iconst w at_228 (3 : Int32) rfl 229 rfl ?_
          refine g_newarr w at_229 5 rfl 3 3 (by decide) (by decide) (by decide) [(.int (0 : Int32)), (.int (0 : Int32)), (.int (0 : Int32))] rfl (by decide) (by decide) 231 rfl (fun T b11 w => ?_)
          replace w := w.to (L' := [(b1, .inr (.long, [(.long w0), (.long w1), (.long w2), (.long w3)])), (b11, .inr (.int, [(.int (0 : Int32)), (.int (0 : Int32)), (.int (0 : Int32))]))]) rfl
          refine g_dup w at_231 rfl 232 rfl ?_
          refine g_iconst w at_232 (0 : Int32) rfl 233 rfl ?_
          refine g_iload w at_233 rfl 235 rfl ?_
          refine g_iastore w at_235 1 rfl 0 (by decide) (Nat.le_of_ble_eq_true rfl) (.int x0) rfl 236 rfl (fun T w => ?_)
          replace w := w.to (L' := [(b1, .inr (.long, [(.long w0), (.long w1), (.long w2), (.long w3)])), (b11, .inr (.int, [(.int x0), (.int (0 : Int32)), (.int (0 : Int32))]))]) rfl
          refine g_dup w at_236 rfl 237 rfl ?_
          refine g_iconst w at_237 (1 : Int32) rfl 238 rfl ?_
          refine g_iload w at_238 rfl 240 rfl ?_
          refine g_iastore w at_240 1 rfl 1 (by decide) (Nat.le_of_ble_eq_true rfl) (.int x1) rfl 241 rfl (fun T w => ?_)
          replace w := w.to (L' := [(b1, .inr (.long, [(.long w0), (.long w1), (.long w2), (.long w3)])), (b11, .inr (.int, [(.int x0), (.int x1), (.int (0 : Int32))]))]) rfl
          refine g_dup w at_241 rfl 242 rfl ?_
          refine g_iconst w at_242 (2 : Int32) rfl 243 rfl ?_
          refine g_iload w at_243 rfl 245 rfl ?_
          refine g_iastore w at_245 1 rfl 2 (by decide) (Nat.le_of_ble_eq_true rfl) (.int x2) rfl 246 rfl (fun T w => ?_)
          replace w := w.to (L' := [(b1, .inr (.long, [(.long w0), (.long w1), (.long w2), (.long w3)])), (b11, .inr (.int, [(.int x0), (.int x1), (.int x2)]))]) rfl
          refine g_astore w at_246 248 rfl rfl #[.val (.int u), .val (.long q0), .second, .val (.long q1), .second, .val (.long q2), .second, .val (.long q3), .second, .val (.int (3 : Int32)), .val (.int x0), .val (.int x1), .val (.int x2), .val (.int s0), .val (.int s1), .val (.int s2), .val (.long w0), .second, .val (.long w1), .second, .val (.long w2), .second, .val (.long w3), .second, .val (.ref b1), .val (.ref b11), .unset, .unset, .unset, .unset, .unset, .unset] rfl ?_
          refine g_iconst w at_248 (3 : Int32) rfl 249 rfl ?_
          refine g_newarr w at_249 6 rfl 3 3 (by decide) (by decide) (by decide) [(.int (0 : Int32)), (.int (0 : Int32)), (.int (0 : Int32))] rfl (by decide) (by decide) 251 rfl (fun T b12 w => ?_)
          replace w := w.to (L' := [(b1, .inr (.long, [(.long w0), (.long w1), (.long w2), (.long w3)])), (b11, .inr (.int, [(.int x0), (.int x1), (.int x2)])), (b12, .inr (.boolean, [(.int (0 : Int32)), (.int (0 : Int32)), (.int (0 : Int32))]))]) rfl
          refine g_dup w at_251 rfl 252 rfl ?_
          refine g_iconst w at_252 (0 : Int32) rfl 253 rfl ?_
          refine g_iload w at_253 rfl 255 rfl ?_
          refine g_zastore w at_255 2 rfl 0 (by decide) (Nat.le_of_ble_eq_true rfl) (.int s0) (own_bool hs0) 256 rfl (fun T w => ?_)
          replace w := w.to (L' := [(b1, .inr (.long, [(.long w0), (.long w1), (.long w2), (.long w3)])), (b11, .inr (.int, [(.int x0), (.int x1), (.int x2)])), (b12, .inr (.boolean, [(.int s0), (.int (0 : Int32)), (.int (0 : Int32))]))]) rfl
          refine g_dup w at_256 rfl 257 rfl ?_
          refine g_iconst w at_257 (1 : Int32) rfl 258 rfl ?_
          refine g_iload w at_258 rfl 260 rfl ?_
          refine g_zastore w at_260 2 rfl 1 (by decide) (Nat.le_of_ble_eq_true rfl) (.int s1) (own_bool hs1) 261 rfl (fun T w => ?_)
          replace w := w.to (L' := [(b1, .inr (.long, [(.long w0), (.long w1), (.long w2), (.long w3)])), (b11, .inr (.int, [(.int x0), (.int x1), (.int x2)])), (b12, .inr (.boolean, [(.int s0), (.int s1), (.int (0 : Int32))]))]) rfl
          refine g_dup w at_261 rfl 262 rfl ?_
          refine g_iconst w at_262 (2 : Int32) rfl 263 rfl ?_
          refine g_iload w at_263 rfl 265 rfl ?_
          refine g_zastore w at_265 2 rfl 2 (by decide) (Nat.le_of_ble_eq_true rfl) (.int s2) (own_bool hs2) 266 rfl (fun T w => ?_)
          replace w := w.to (L' := [(b1, .inr (.long, [(.long w0), (.long w1), (.long w2), (.long w3)])), (b11, .inr (.int, [(.int x0), (.int x1), (.int x2)])), (b12, .inr (.boolean, [(.int s0), (.int s1), (.int s2)]))]) rfl
          refine g_astore w at_266 268 rfl rfl #[.val (.int u), .val (.long q0), .second, .val (.long q1), .second, .val (.long q2), .second, .val (.long q3), .second, .val (.int (3 : Int32)), .val (.int x0), .val (.int x1), .val (.int x2), .val (.int s0), .val (.int s1), .val (.int s2), .val (.long w0), .second, .val (.long w1), .second, .val (.long w2), .second, .val (.long w3), .second, .val (.ref b1), .val (.ref b11), .val (.ref b12), .unset, .unset, .unset, .unset, .unset] rfl ?_
          refine g_new w [("com/example/chancebound/chancebound/model/Clause", "variables", "[I", .null), ("com/example/chancebound/chancebound/model/Clause", "negated", "[Z", .null)] at_268 7 rfl 8 rfl 9 rfl (FOk.cons (Or.inr (w.hw (k := 26) rfl)) (ty := (.array .int)) (by decide) rfl (FOk.cons (Or.inr (w.hw (k := 34) rfl)) (ty := (.array .boolean)) (by decide) rfl trivial)) (by decide) (by decide) (by decide) 271 rfl (fun T b13 w => ?_)
          replace w := w.to (L' := [(b1, .inr (.long, [(.long w0), (.long w1), (.long w2), (.long w3)])), (b11, .inr (.int, [(.int x0), (.int x1), (.int x2)])), (b12, .inr (.boolean, [(.int s0), (.int s1), (.int s2)])), (b13, O_Clause .null .null)]) rfl
          refine g_dup w at_271 rfl 272 rfl ?_
          refine g_aload w at_272 rfl rfl 274 rfl ?_
          refine g_aload w at_274 rfl rfl 276 rfl ?_
          refine g_ctor w (argsL := [(.ref b11), (.ref b12)]) (rest := [(.ref b13)]) (rmC_3 l Z a0 hw n0 b1 b11 b12 b13 w0 w1 w2 w3 x0 s0 x1 s1 x2 s2 ok0 hs0 ok1 hs1 ok2 hs2) at_276 10 rfl 11 rfl 9 rfl 12 rfl rfl ⟨by decide, by decide⟩ pd_1 rfl rfl rfl 1 rfl (by decide) (by decide) (by decide) (by decide) 279 rfl (fun T v L w h => ?_)
          obtain ⟨rfl, y1, y2, rfl⟩ := h
          refine g_astore w at_279 281 rfl rfl #[.val (.int u), .val (.long q0), .second, .val (.long q1), .second, .val (.long q2), .second, .val (.long q3), .second, .val (.int (3 : Int32)), .val (.int x0), .val (.int x1), .val (.int x2), .val (.int s0), .val (.int s1), .val (.int s2), .val (.long w0), .second, .val (.long w1), .second, .val (.long w2), .second, .val (.long w3), .second, .val (.ref b1), .val (.ref b11), .val (.ref b12), .val (.ref b13), .unset, .unset, .unset, .unset] rfl ?_
          refine g_aload w at_281 rfl rfl 283 rfl ?_
          refine g_iload w at_283 rfl 285 rfl ?_
          obtain ⟨jn, hj, hz⟩ := own_get w0 w1 w2 w3 ok0
          refine g_laload w at_285 0 rfl jn hj hz 286 rfl ?_
          refine g_iload w at_286 rfl 288 rfl ?_
          refine g_static w (argsL := [(.long (own_at4 w0 w1 w2 w3 x0)), (.int s0)]) (rest := []) (rm4 l Z a0 hw n0 (own_at4 w0 w1 w2 w3 x0) s0 ([(b1, .inr (.long, [(.long w0), (.long w1), (.long w2), (.long w3)])), (b11, .inr (.int, [(.int x0), (.int x1), (.int x2)])), (b12, .inr (.boolean, [(.int s0), (.int s1), (.int s2)])), (b13, O_Clause (.ref y1) (.ref y2)), (y1, .inr (.int, [(.int x0), (.int x1), (.int x2)])), (y2, .inr (.boolean, [(.int s0), (.int s1), (.int s2)]))])) at_288 35 rfl 36 rfl 2 rfl 37 rfl ⟨by decide, by decide⟩ pd_2 rfl rfl rfl 0 rfl (by decide) (by decide) (by decide) (by decide) 291 rfl (fun T v L w h => ?_)
          obtain ⟨rfl, hL⟩ := h
          replace w := w.to hL
          refine g_istore w at_291 293 rfl rfl #[.val (.int u), .val (.long q0), .second, .val (.long q1), .second, .val (.long q2), .second, .val (.long q3), .second, .val (.int (3 : Int32)), .val (.int x0), .val (.int x1), .val (.int x2), .val (.int s0), .val (.int s1), .val (.int s2), .val (.long w0), .second, .val (.long w1), .second, .val (.long w2), .second, .val (.long w3), .second, .val (.ref b1), .val (.ref b11), .val (.ref b12), .val (.ref b13), .val (.int (own_lit (own_at4 w0 w1 w2 w3 x0) s0)), .unset, .unset, .unset] rfl ?_
          refine g_aload w at_293 rfl rfl 295 rfl ?_
          refine g_iload w at_295 rfl 297 rfl ?_
          obtain ⟨jn, hj, hz⟩ := own_get w0 w1 w2 w3 ok1
          refine g_laload w at_297 0 rfl jn hj hz 298 rfl ?_
          refine g_iload w at_298 rfl 300 rfl ?_
          refine g_static w (argsL := [(.long (own_at4 w0 w1 w2 w3 x1)), (.int s1)]) (rest := []) (rm4 l Z a0 hw n0 (own_at4 w0 w1 w2 w3 x1) s1 ([(b1, .inr (.long, [(.long w0), (.long w1), (.long w2), (.long w3)])), (b11, .inr (.int, [(.int x0), (.int x1), (.int x2)])), (b12, .inr (.boolean, [(.int s0), (.int s1), (.int s2)])), (b13, O_Clause (.ref y1) (.ref y2)), (y1, .inr (.int, [(.int x0), (.int x1), (.int x2)])), (y2, .inr (.boolean, [(.int s0), (.int s1), (.int s2)]))])) at_300 35 rfl 36 rfl 2 rfl 37 rfl ⟨by decide, by decide⟩ pd_2 rfl rfl rfl 0 rfl (by decide) (by decide) (by decide) (by decide) 303 rfl (fun T v L w h => ?_)
          obtain ⟨rfl, hL⟩ := h
          replace w := w.to hL
          refine g_istore w at_303 305 rfl rfl #[.val (.int u), .val (.long q0), .second, .val (.long q1), .second, .val (.long q2), .second, .val (.long q3), .second, .val (.int (3 : Int32)), .val (.int x0), .val (.int x1), .val (.int x2), .val (.int s0), .val (.int s1), .val (.int s2), .val (.long w0), .second, .val (.long w1), .second, .val (.long w2), .second, .val (.long w3), .second, .val (.ref b1), .val (.ref b11), .val (.ref b12), .val (.ref b13), .val (.int (own_lit (own_at4 w0 w1 w2 w3 x0) s0)), .val (.int (own_lit (own_at4 w0 w1 w2 w3 x1) s1)), .unset, .unset] rfl ?_
          refine g_aload w at_305 rfl rfl 307 rfl ?_
          refine g_iload w at_307 rfl 309 rfl ?_
          obtain ⟨jn, hj, hz⟩ := own_get w0 w1 w2 w3 ok2
          refine g_laload w at_309 0 rfl jn hj hz 310 rfl ?_
          refine g_iload w at_310 rfl 312 rfl ?_
          refine g_static w (argsL := [(.long (own_at4 w0 w1 w2 w3 x2)), (.int s2)]) (rest := []) (rm4 l Z a0 hw n0 (own_at4 w0 w1 w2 w3 x2) s2 ([(b1, .inr (.long, [(.long w0), (.long w1), (.long w2), (.long w3)])), (b11, .inr (.int, [(.int x0), (.int x1), (.int x2)])), (b12, .inr (.boolean, [(.int s0), (.int s1), (.int s2)])), (b13, O_Clause (.ref y1) (.ref y2)), (y1, .inr (.int, [(.int x0), (.int x1), (.int x2)])), (y2, .inr (.boolean, [(.int s0), (.int s1), (.int s2)]))])) at_312 35 rfl 36 rfl 2 rfl 37 rfl ⟨by decide, by decide⟩ pd_2 rfl rfl rfl 0 rfl (by decide) (by decide) (by decide) (by decide) 315 rfl (fun T v L w h => ?_)
          obtain ⟨rfl, hL⟩ := h
          replace w := w.to hL
          refine g_istore w at_315 317 rfl rfl #[.val (.int u), .val (.long q0), .second, .val (.long q1), .second, .val (.long q2), .second, .val (.long q3), .second, .val (.int (3 : Int32)), .val (.int x0), .val (.int x1), .val (.int x2), .val (.int s0), .val (.int s1), .val (.int s2), .val (.long w0), .second, .val (.long w1), .second, .val (.long w2), .second, .val (.long w3), .second, .val (.ref b1), .val (.ref b11), .val (.ref b12), .val (.ref b13), .val (.int (own_lit (own_at4 w0 w1 w2 w3 x0) s0)), .val (.int (own_lit (own_at4 w0 w1 w2 w3 x1) s1)), .val (.int (own_lit (own_at4 w0 w1 w2 w3 x2) s2)), .unset] rfl ?_
          refine g_iload w at_317 rfl 319 rfl ?_
          refine g_iconst w at_319 (1 : Int32) rfl 320 rfl ?_
          refine g_icmp_lt w at_320 328 (by decide) (by decide) 323 rfl (fun h => absurd h (by decide)) (fun hc320 => ?_)
          refine g_iload w at_323 rfl 325 rfl ?_
          refine g_if_ne w at_325 350 (by decide) (by decide) 328 rfl (fun hc325 => ?_) (fun hc325 => ?_)
          · -- pc 350 (taken: not (own_lit (own_at4 w0 w1 w2 w3 x0) s0) = (0 : Int32))
            refine g_iconst w at_350 (1 : Int32) rfl 351 rfl ?_
            refine g_goto w at_351 355 (by decide) (by decide) ?_
            refine g_istore w at_355 357 rfl rfl #[.val (.int u), .val (.long q0), .second, .val (.long q1), .second, .val (.long q2), .second, .val (.long q3), .second, .val (.int (3 : Int32)), .val (.int x0), .val (.int x1), .val (.int x2), .val (.int s0), .val (.int s1), .val (.int s2), .val (.long w0), .second, .val (.long w1), .second, .val (.long w2), .second, .val (.long w3), .second, .val (.ref b1), .val (.ref b11), .val (.ref b12), .val (.ref b13), .val (.int (own_lit (own_at4 w0 w1 w2 w3 x0) s0)), .val (.int (own_lit (own_at4 w0 w1 w2 w3 x1) s1)), .val (.int (own_lit (own_at4 w0 w1 w2 w3 x2) s2)), .val (.int (1 : Int32))] rfl ?_
            refine g_aload w at_357 rfl rfl 359 rfl ?_
            refine g_aload w at_359 rfl rfl 361 rfl ?_
            refine g_virt w (argsL := [(.ref b1)]) (rest := []) (rmH_3 l Z a0 hw n0 b1 b11 b12 b13 y1 y2 w0 w1 w2 w3 x0 s0 x1 s1 x2 s2 ok0 hs0 ok1 hs1 ok2 hs2) at_361 3 rfl 38 rfl 39 rfl 9 rfl 42 rfl 41 rfl 40 rfl ⟨by decide, by decide⟩ pd_3 rfl rfl rfl 0 rfl (by decide) (by decide) (by decide) (by decide) 364 rfl (fun T v L w h => ?_)
            obtain ⟨rfl, hL⟩ := h
            replace w := w.to hL
            refine g_iload w at_364 rfl 366 rfl ?_
            refine g_icmp_ne w at_366 373 (by decide) (by decide) 369 rfl (fun h => absurd (by unfold own_h3; first | exact if_neg hc325 | (rw [if_pos hc325]; first | exact if_neg hc336 | (rw [if_pos hc336]; first | exact if_neg hc347 | exact if_pos hc347))) h) (fun hc366 => ?_)
            refine g_iconst w at_369 (1 : Int32) rfl 370 rfl ?_
            refine g_goto w at_370 374 (by decide) (by decide) ?_
            exact g_iretn w (by simp) at_374 (by decide) (by decide) rfl
          · -- pc 328 (on: (own_lit (own_at4 w0 w1 w2 w3 x0) s0) = (0 : Int32))
            refine g_iload w at_328 rfl 330 rfl ?_
            refine g_iconst w at_330 (2 : Int32) rfl 331 rfl ?_
            refine g_icmp_lt w at_331 339 (by decide) (by decide) 334 rfl (fun h => absurd h (by decide)) (fun hc331 => ?_)
            refine g_iload w at_334 rfl 336 rfl ?_
            refine g_if_ne w at_336 350 (by decide) (by decide) 339 rfl (fun hc336 => ?_) (fun hc336 => ?_)
            · -- pc 350 (taken: not (own_lit (own_at4 w0 w1 w2 w3 x1) s1) = (0 : Int32))
              refine g_iconst w at_350 (1 : Int32) rfl 351 rfl ?_
              refine g_goto w at_351 355 (by decide) (by decide) ?_
              refine g_istore w at_355 357 rfl rfl #[.val (.int u), .val (.long q0), .second, .val (.long q1), .second, .val (.long q2), .second, .val (.long q3), .second, .val (.int (3 : Int32)), .val (.int x0), .val (.int x1), .val (.int x2), .val (.int s0), .val (.int s1), .val (.int s2), .val (.long w0), .second, .val (.long w1), .second, .val (.long w2), .second, .val (.long w3), .second, .val (.ref b1), .val (.ref b11), .val (.ref b12), .val (.ref b13), .val (.int (own_lit (own_at4 w0 w1 w2 w3 x0) s0)), .val (.int (own_lit (own_at4 w0 w1 w2 w3 x1) s1)), .val (.int (own_lit (own_at4 w0 w1 w2 w3 x2) s2)), .val (.int (1 : Int32))] rfl ?_
              refine g_aload w at_357 rfl rfl 359 rfl ?_
              refine g_aload w at_359 rfl rfl 361 rfl ?_
              refine g_virt w (argsL := [(.ref b1)]) (rest := []) (rmH_3 l Z a0 hw n0 b1 b11 b12 b13 y1 y2 w0 w1 w2 w3 x0 s0 x1 s1 x2 s2 ok0 hs0 ok1 hs1 ok2 hs2) at_361 3 rfl 38 rfl 39 rfl 9 rfl 42 rfl 41 rfl 40 rfl ⟨by decide, by decide⟩ pd_3 rfl rfl rfl 0 rfl (by decide) (by decide) (by decide) (by decide) 364 rfl (fun T v L w h => ?_)
              obtain ⟨rfl, hL⟩ := h
              replace w := w.to hL
              refine g_iload w at_364 rfl 366 rfl ?_
              refine g_icmp_ne w at_366 373 (by decide) (by decide) 369 rfl (fun h => absurd (by unfold own_h3; first | exact if_neg hc325 | (rw [if_pos hc325]; first | exact if_neg hc336 | (rw [if_pos hc336]; first | exact if_neg hc347 | exact if_pos hc347))) h) (fun hc366 => ?_)
              refine g_iconst w at_369 (1 : Int32) rfl 370 rfl ?_
              refine g_goto w at_370 374 (by decide) (by decide) ?_
              exact g_iretn w (by simp) at_374 (by decide) (by decide) rfl
            · -- pc 339 (on: (own_lit (own_at4 w0 w1 w2 w3 x1) s1) = (0 : Int32))
              refine g_iload w at_339 rfl 341 rfl ?_
              refine g_iconst w at_341 (3 : Int32) rfl 342 rfl ?_
              refine g_icmp_lt w at_342 354 (by decide) (by decide) 345 rfl (fun h => absurd h (by decide)) (fun hc342 => ?_)
              refine g_iload w at_345 rfl 347 rfl ?_
              refine g_if_eq w at_347 354 (by decide) (by decide) 350 rfl (fun hc347 => ?_) (fun hc347 => ?_)
              · -- pc 354 (taken: (own_lit (own_at4 w0 w1 w2 w3 x2) s2) = (0 : Int32))
                refine g_iconst w at_354 (0 : Int32) rfl 355 rfl ?_
                refine g_istore w at_355 357 rfl rfl #[.val (.int u), .val (.long q0), .second, .val (.long q1), .second, .val (.long q2), .second, .val (.long q3), .second, .val (.int (3 : Int32)), .val (.int x0), .val (.int x1), .val (.int x2), .val (.int s0), .val (.int s1), .val (.int s2), .val (.long w0), .second, .val (.long w1), .second, .val (.long w2), .second, .val (.long w3), .second, .val (.ref b1), .val (.ref b11), .val (.ref b12), .val (.ref b13), .val (.int (own_lit (own_at4 w0 w1 w2 w3 x0) s0)), .val (.int (own_lit (own_at4 w0 w1 w2 w3 x1) s1)), .val (.int (own_lit (own_at4 w0 w1 w2 w3 x2) s2)), .val (.int (0 : Int32))] rfl ?_
                refine g_aload w at_357 rfl rfl 359 rfl ?_
                refine g_aload w at_359 rfl rfl 361 rfl ?_
                refine g_virt w (argsL := [(.ref b1)]) (rest := []) (rmH_3 l Z a0 hw n0 b1 b11 b12 b13 y1 y2 w0 w1 w2 w3 x0 s0 x1 s1 x2 s2 ok0 hs0 ok1 hs1 ok2 hs2) at_361 3 rfl 38 rfl 39 rfl 9 rfl 42 rfl 41 rfl 40 rfl ⟨by decide, by decide⟩ pd_3 rfl rfl rfl 0 rfl (by decide) (by decide) (by decide) (by decide) 364 rfl (fun T v L w h => ?_)
                obtain ⟨rfl, hL⟩ := h
                replace w := w.to hL
                refine g_iload w at_364 rfl 366 rfl ?_
                refine g_icmp_ne w at_366 373 (by decide) (by decide) 369 rfl (fun h => absurd (by unfold own_h3; first | exact if_neg hc325 | (rw [if_pos hc325]; first | exact if_neg hc336 | (rw [if_pos hc336]; first | exact if_neg hc347 | exact if_pos hc347))) h) (fun hc366 => ?_)
                refine g_iconst w at_369 (1 : Int32) rfl 370 rfl ?_
                refine g_goto w at_370 374 (by decide) (by decide) ?_
                exact g_iretn w (by simp) at_374 (by decide) (by decide) rfl
              · -- pc 350 (on: not (own_lit (own_at4 w0 w1 w2 w3 x2) s2) = (0 : Int32))
                refine g_iconst w at_350 (1 : Int32) rfl 351 rfl ?_
                refine g_goto w at_351 355 (by decide) (by decide) ?_
                refine g_istore w at_355 357 rfl rfl #[.val (.int u), .val (.long q0), .second, .val (.long q1), .second, .val (.long q2), .second, .val (.long q3), .second, .val (.int (3 : Int32)), .val (.int x0), .val (.int x1), .val (.int x2), .val (.int s0), .val (.int s1), .val (.int s2), .val (.long w0), .second, .val (.long w1), .second, .val (.long w2), .second, .val (.long w3), .second, .val (.ref b1), .val (.ref b11), .val (.ref b12), .val (.ref b13), .val (.int (own_lit (own_at4 w0 w1 w2 w3 x0) s0)), .val (.int (own_lit (own_at4 w0 w1 w2 w3 x1) s1)), .val (.int (own_lit (own_at4 w0 w1 w2 w3 x2) s2)), .val (.int (1 : Int32))] rfl ?_
                refine g_aload w at_357 rfl rfl 359 rfl ?_
                refine g_aload w at_359 rfl rfl 361 rfl ?_
                refine g_virt w (argsL := [(.ref b1)]) (rest := []) (rmH_3 l Z a0 hw n0 b1 b11 b12 b13 y1 y2 w0 w1 w2 w3 x0 s0 x1 s1 x2 s2 ok0 hs0 ok1 hs1 ok2 hs2) at_361 3 rfl 38 rfl 39 rfl 9 rfl 42 rfl 41 rfl 40 rfl ⟨by decide, by decide⟩ pd_3 rfl rfl rfl 0 rfl (by decide) (by decide) (by decide) (by decide) 364 rfl (fun T v L w h => ?_)
                obtain ⟨rfl, hL⟩ := h
                replace w := w.to hL
                refine g_iload w at_364 rfl 366 rfl ?_
                refine g_icmp_ne w at_366 373 (by decide) (by decide) 369 rfl (fun h => absurd (by unfold own_h3; first | exact if_neg hc325 | (rw [if_pos hc325]; first | exact if_neg hc336 | (rw [if_pos hc336]; first | exact if_neg hc347 | exact if_pos hc347))) h) (fun hc366 => ?_)
                refine g_iconst w at_369 (1 : Int32) rfl 370 rfl ?_
                refine g_goto w at_370 374 (by decide) (by decide) ?_
                exact g_iretn w (by simp) at_374 (by decide) (by decide) rfl
      refine g_if_eq w at_65 72 (by decide) (by decide) 68 rfl (fun hc65 => ?_) (fun hc65 => ?_)
      · -- pc 72 (taken: ((ushrI u (10 : Int32)) &&& (1 : Int32)) = (0 : Int32))
        refine g_iconst w at_72 (0 : Int32) rfl 73 rfl ?_
        exact J73 (0 : Int32) (Or.inl rfl)
      · -- pc 68 (on: not ((ushrI u (10 : Int32)) &&& (1 : Int32)) = (0 : Int32))
        refine g_iconst w at_68 (1 : Int32) rfl 69 rfl ?_
        refine g_goto w at_69 73 (by decide) (by decide) ?_
        exact J73 (1 : Int32) (Or.inr rfl)
    refine g_if_eq w at_49 56 (by decide) (by decide) 52 rfl (fun hc49 => ?_) (fun hc49 => ?_)
    · -- pc 56 (taken: ((ushrI u (9 : Int32)) &&& (1 : Int32)) = (0 : Int32))
      refine g_iconst w at_56 (0 : Int32) rfl 57 rfl ?_
      exact J57 (0 : Int32) (Or.inl rfl)
    · -- pc 52 (on: not ((ushrI u (9 : Int32)) &&& (1 : Int32)) = (0 : Int32))
      refine g_iconst w at_52 (1 : Int32) rfl 53 rfl ?_
      refine g_goto w at_53 57 (by decide) (by decide) ?_
      exact J57 (1 : Int32) (Or.inr rfl)
  refine g_if_eq w at_33 40 (by decide) (by decide) 36 rfl (fun hc33 => ?_) (fun hc33 => ?_)
  · -- pc 40 (taken: ((ushrI u (8 : Int32)) &&& (1 : Int32)) = (0 : Int32))
    refine g_iconst w at_40 (0 : Int32) rfl 41 rfl ?_
    exact J41 (0 : Int32) (Or.inl rfl)
  · -- pc 36 (on: not ((ushrI u (8 : Int32)) &&& (1 : Int32)) = (0 : Int32))
    refine g_iconst w at_36 (1 : Int32) rfl 37 rfl ?_
    refine g_goto w at_37 41 (by decide) (by decide) ?_
    exact J41 (1 : Int32) (Or.inr rfl)
set_option maxRecDepth 65536 in
set_option maxHeartbeats 40000000 in
theorem comes_1 {Post : Tables → Env → Array Value → State → Outcome → State → Prop} (hpost : ∀ tb e args s v u, (limb_1_1.after args s (.returned v) u = true ∧ limb_1_2.after args s (.returned v) u = true ∧ True) → FrameEnd s (.returned v) u (Jvm.fieldLocs frame_1_writes args s ++ Jvm.arrayLocs frame_1_arrays args s ++ Jvm.staticLocs frame_1_statics s) 24 128 → Post tb e args s (.returned v) u) :
    ArmFor flags0 classFile x code maxLocals ret World_1 tables_1 room_1 Calls_1 rest_1 Pre_1 Post := by
  intro l hfl _ _ p e ha hc hk s m args below hf hA hF happ hP
  obtain ⟨hcalls, hrest, hpre⟩ := hP
  obtain ⟨-, -, -, hnamed, -, -, -, hat⟩ := (Spec.applies_iff hf).mp happ
  obtain ⟨hg, hn⟩ := and_e (Cond.before_iff.mp (show (Jvm.Cond.and given_1 narrow_1).before args s = true from hpre))
  obtain ⟨hcnt, g0⟩ := and_e hg
  obtain ⟨k0, g1⟩ := and_e g0
  obtain ⟨k1, g2⟩ := and_e g1
  obtain ⟨k2, g3⟩ := and_e g2
  obtain ⟨k3, g4⟩ := and_e g3
  have k4 := g4
  obtain ⟨w0, w1, w2, w3, w4, rfl⟩ : ∃ w0 w1 w2 w3 w4 : Value, args = #[w0, w1, w2, w3, w4] := by
    have hs : args.size = 5 := by simpa [Cond.value, given_1] using hcnt
    obtain ⟨L⟩ := args
    match L, hs with
    | [w0, w1, w2, w3, w4], _ => exact ⟨w0, w1, w2, w3, w4, rfl⟩
  have hw := fun d (hd : d ∈ tables_1) => atoms_spec (ws := Jvm.Cond.code x code maxLocals ret :: tables_1) hat d (List.mem_cons_of_mem _ hd)
  obtain ⟨i0, e0⟩ := is_v k0
  obtain rfl : w0 = (.int i0) := Option.some.inj e0
  obtain ⟨i1, e1⟩ := isL_v k1
  obtain rfl : w1 = (.long i1) := Option.some.inj e1
  obtain ⟨i2, e2⟩ := isL_v k2
  obtain rfl : w2 = (.long i2) := Option.some.inj e2
  obtain ⟨i3, e3⟩ := isL_v k3
  obtain rfl : w3 = (.long i3) := Option.some.inj e3
  obtain ⟨i4, e4⟩ := isL_v k4
  obtain rfl : w4 = (.long i4) := Option.some.inj e4
  obtain ⟨n, o, h1, h2, h3, _, Lc, rfl, ⟨N, LL, hH, rfl⟩, hq⟩ := rm0 l s _ hw s.heap.size i0 i1 i2 i3 i4 tables_1 0 s.heap (Hp.nil (Old.start s) (Nat.zero_le _)) p e ha hc hk s m _ below hf ((Spec.applies_iff_loose hf).mp happ).1 ⟨rfl, State.Warmed39.refl s, rfl⟩ trivial
  exact ⟨n, _, h1, h2, h3, hpost _ _ _ _ _ _ ⟨Cond.after_iff.mpr rfl, Cond.after_iff.mpr (eq_i res_at (Term.int_eval (1)) rfl), trivial⟩ (fr_end N hq _ (by decide) (by decide))⟩
theorem main_1_1 : Claimed_1_1 := comes_1 fun _ _ _ _ _ _ h hF => ⟨h.1, hF⟩
theorem main_1_2 : Claimed_1_2 := comes_1 fun _ _ _ _ _ _ h hF => ⟨h.2.1, hF⟩
end Jvm.Pilot.@@N@@
namespace Jvm.Pilot.@@N@@
open Jvm Jvm.ClassFile Sem Op Lib Jvm.Free Jvm.Stand Jvm.Pilot.@@N@@.Jvm.D
/-! MADE BY PROGRAM (witnessworld.py) out of the Statement's table words and the real class files: 14 classes; the members and pool entries that the words name. The judged class is class 1, her method 1. -/
namespace start1
open Jvm.ClassFile
def u (s : String) : CpInfo := .utf8 (stringToUtf16 s)
/-- a pool by its gaps: so many unusable entries, then the entry; so many at the end -/
def gap : Nat → List CpInfo → List CpInfo
  | 0, r => r
  | n + 1, r => .unusable :: gap n r
def poolList (es : List (Nat × CpInfo)) (last : Nat) : List CpInfo := es.foldr (fun e r => gap e.1 (e.2 :: r)) (gap last [])
def pool (es : List (Nat × CpInfo)) (last : Nat) : Array CpInfo := ⟨poolList es last⟩
def fileOf (pool : Array CpInfo) (this : Nat) (attrs : Array Attribute := #[]) (ms : Array MethodInfo := #[]) (fl : Nat := 33) (sup : Nat := 0) (ifs : Array Nat := #[]) (fds : Array FieldInfo := #[]) : ClassFile where
  minorVersion := 0
  majorVersion := 65
  constantPool := pool
  accessFlags := fl
  thisClass := this
  superClass := sup
  interfaces := ifs
  fields := fds
  methods := ms
  attributes := attrs
def plain (name : String) (sup : Option ClassId) : Class where
  name := name
  kind := .ordinary
  loader := none
  accessFlags := 33
  super := sup
  interfaces := #[]
  cf := none
  fields := #[]
  methods := #[]
  instanceTypes := #[]
  staticTypes := #[]
  resolved := #[]
  callSites := []
  init := .initialized
  statics := none
  mirror := none

def pool0 : Array CpInfo := pool [(5, u "<init>"), (0, u "()V"), (1, .class_ 10), (1, u "java/lang/Object"), (85, u "clone"), (0, u "()Ljava/lang/Object;")] 26

def k0c0 : Code := { maxStack := 0, maxLocals := 1, code := object_method_1_code, exceptionTable := #[], attributes := #[] }
def k0m0 : Method := { name := "<init>", desc := "()V", sig := { parameters := [], returnType := none }, accessFlags := 1, code := some k0c0 }
def k0m1 : Method := { name := "clone", desc := "()Ljava/lang/Object;", sig := { parameters := [], returnType := some (.object "java/lang/Object") }, accessFlags := 260, code := none }
/-- java/lang/Object -/
def k0 : Class := { plain "java/lang/Object" none with
  accessFlags := 33
  interfaces := #[]
  cf := some (fileOf pool0 8 #[] #[{ accessFlags := 1, nameIndex := 5, descriptorIndex := 6, attributes := #[] }, { accessFlags := 260, nameIndex := 96, descriptorIndex := 97, attributes := #[] }] 33 0 #[] #[])
  fields := #[]
  methods := #[k0m0, k0m1]
  instanceTypes := #[]
  staticTypes := #[]
  resolved := Array.replicate 124 none
  statics := none }

def pool1 : Array CpInfo := pool [(2, .class_ 4), (1, u "java/lang/Object"), (0, u "<init>"), (0, u "()V"), (0, .methodref 8 9), (0, .class_ 10), (0, .nameAndType 11 12), (0, u "com/example/chancebound/chancebound/model/ClauseHoldsPinLaw"), (0, u "pick"), (0, u "(JI)J"), (0, .class_ 14), (0, u "com/example/chancebound/chancebound/model/Clause"), (0, .methodref 13 16), (0, .nameAndType 5 17), (0, u "([I[Z)V"), (0, .methodref 8 19), (0, .nameAndType 20 21), (0, u "lit"), (0, u "(JZ)Z"), (0, .methodref 13 23), (0, .nameAndType 24 25), (0, u "holds"), (0, u "([J)Z"), (0, .long 3), (3, u "law"), (0, u "(IJJJJ)Z")] 9

def k1m0 : Method := { name := "<init>", desc := "()V", sig := { parameters := [], returnType := none }, accessFlags := 1, code := none }
def k1c1 : Code := { maxStack := 5, maxLocals := 32, code := code, exceptionTable := #[], attributes := #[] }
def k1m1 : Method := { name := "law", desc := "(IJJJJ)Z", sig := { parameters := [.int, .long, .long, .long, .long], returnType := some .boolean }, accessFlags := 9, code := some k1c1 }
def k1c2 : Code := { maxStack := 4, maxLocals := 3, code := method_3_code, exceptionTable := #[], attributes := #[] }
def k1m2 : Method := { name := "pick", desc := "(JI)J", sig := { parameters := [.long, .int], returnType := some .long }, accessFlags := 10, code := some k1c2 }
def k1c3 : Code := { maxStack := 4, maxLocals := 3, code := method_4_code, exceptionTable := #[], attributes := #[] }
def k1m3 : Method := { name := "lit", desc := "(JZ)Z", sig := { parameters := [.long, .boolean], returnType := some .boolean }, accessFlags := 10, code := some k1c3 }
/-- com/example/chancebound/chancebound/model/ClauseHoldsPinLaw -/
def k1 : Class := { plain "com/example/chancebound/chancebound/model/ClauseHoldsPinLaw" (some 0) with
  accessFlags := 49
  interfaces := #[]
  cf := some (fileOf pool1 8 #[] #[{ accessFlags := 1, nameIndex := 5, descriptorIndex := 6, attributes := #[] }, { accessFlags := 9, nameIndex := 30, descriptorIndex := 31, attributes := #[] }, { accessFlags := 10, nameIndex := 11, descriptorIndex := 12, attributes := #[] }, { accessFlags := 10, nameIndex := 20, descriptorIndex := 21, attributes := #[] }] 49 2 #[] #[])
  fields := #[]
  methods := #[k1m0, k1m1, k1m2, k1m3]
  instanceTypes := #[]
  staticTypes := #[]
  resolved := Array.replicate 41 none
  statics := none }

def pool2 : Array CpInfo := pool [(1, .class_ 2), (0, u "com/example/chancebound/chancebound/model/Condition"), (0, .class_ 4), (0, u "java/lang/Object")] 11

/-- com/example/chancebound/chancebound/model/Condition -/
def k2 : Class := { plain "com/example/chancebound/chancebound/model/Condition" (some 0) with
  accessFlags := 1537
  interfaces := #[]
  cf := some (fileOf pool2 1 #[] #[] 1537 3 #[] #[])
  fields := #[]
  methods := #[]
  instanceTypes := #[]
  staticTypes := #[]
  resolved := Array.replicate 16 none
  statics := none }

def pool3 : Array CpInfo := pool [(1, .methodref 2 3), (0, .class_ 4), (0, .nameAndType 5 6), (0, u "java/lang/Object"), (0, u "<init>"), (0, u "()V"), (11, .methodref 19 20), (0, .class_ 21), (0, .nameAndType 22 23), (0, u "[I"), (0, u "clone"), (0, u "()Ljava/lang/Object;"), (0, .fieldref 25 26), (0, .class_ 27), (0, .nameAndType 28 21), (0, u "com/example/chancebound/chancebound/model/Clause"), (0, u "variables"), (0, .methodref 30 20), (0, .class_ 31), (0, u "[Z"), (0, .fieldref 25 33), (0, .nameAndType 34 31), (0, u "negated"), (7, .class_ 43), (0, u "com/example/chancebound/chancebound/model/Condition"), (0, u "([I[Z)V"), (9, u "holds"), (0, u "([J)Z")] 20

def k3c0 : Code := { maxStack := 3, maxLocals := 7, code := prog_8_method_1_code, exceptionTable := #[], attributes := #[] }
def k3m0 : Method := { name := "<init>", desc := "([I[Z)V", sig := { parameters := [(.array .int), (.array .boolean)], returnType := none }, accessFlags := 1, code := some k3c0 }
def k3c1 : Code := { maxStack := 4, maxLocals := 3, code := prog_8_method_5_code, exceptionTable := #[], attributes := #[] }
def k3m1 : Method := { name := "holds", desc := "([J)Z", sig := { parameters := [(.array .long)], returnType := some .boolean }, accessFlags := 1, code := some k3c1 }
/-- com/example/chancebound/chancebound/model/Clause -/
def k3 : Class := { plain "com/example/chancebound/chancebound/model/Clause" (some 0) with
  accessFlags := 49
  interfaces := #[2]
  cf := some (fileOf pool3 25 #[] #[{ accessFlags := 1, nameIndex := 5, descriptorIndex := 44, attributes := #[] }, { accessFlags := 1, nameIndex := 54, descriptorIndex := 55, attributes := #[] }] 49 2 #[42] #[{ accessFlags := 18, nameIndex := 28, descriptorIndex := 21, attributes := #[] }, { accessFlags := 18, nameIndex := 34, descriptorIndex := 31, attributes := #[] }])
  fields := #[{ name := "variables", type := (.array .int), accessFlags := 18, slot := 0, constantValue := 0 }, { name := "negated", type := (.array .boolean), accessFlags := 18, slot := 1, constantValue := 0 }]
  methods := #[k3m0, k3m1]
  instanceTypes := #[(.array .int), (.array .boolean)]
  staticTypes := #[]
  resolved := Array.replicate 76 none
  statics := none }

def pool4 : Array CpInfo := pool [(1, .class_ 2), (0, u "java/lang/Cloneable"), (0, .class_ 4), (0, u "java/lang/Object")] 2

/-- java/lang/Cloneable -/
def k4 : Class := { plain "java/lang/Cloneable" (some 0) with
  accessFlags := 1537
  interfaces := #[]
  cf := some (fileOf pool4 1 #[] #[] 1537 3 #[] #[])
  fields := #[]
  methods := #[]
  instanceTypes := #[]
  staticTypes := #[]
  resolved := Array.replicate 7 none
  statics := none }

def pool5 : Array CpInfo := pool [(1, u "java/io/Serializable"), (0, .class_ 1), (0, u "java/lang/Object"), (0, .class_ 3)] 3

/-- java/io/Serializable -/
def k5 : Class := { plain "java/io/Serializable" (some 0) with
  accessFlags := 1537
  interfaces := #[]
  cf := some (fileOf pool5 2 #[] #[] 1537 4 #[] #[])
  fields := #[]
  methods := #[]
  instanceTypes := #[]
  staticTypes := #[]
  resolved := Array.replicate 8 none
  statics := none }

/-- the primitive boolean -/
def k6 : Class := { plain "boolean" none with kind := .primitive 'Z', accessFlags := 0x411 }
/-- [Z -/
def k7 : Class := { plain "[Z" (some 0) with kind := .array 6 .boolean, interfaces := #[4, 5], accessFlags := 1041 }

/-- the primitive byte -/
def k8 : Class := { plain "byte" none with kind := .primitive 'B', accessFlags := 0x411 }
/-- [B -/
def k9 : Class := { plain "[B" (some 0) with kind := .array 8 .byte, interfaces := #[4, 5], accessFlags := 1041 }

/-- the primitive int -/
def k10 : Class := { plain "int" none with kind := .primitive 'I', accessFlags := 0x411 }
/-- [I -/
def k11 : Class := { plain "[I" (some 0) with kind := .array 10 .int, interfaces := #[4, 5], accessFlags := 1041 }

/-- the primitive long -/
def k12 : Class := { plain "long" none with kind := .primitive 'J', accessFlags := 0x411 }
/-- [J -/
def k13 : Class := { plain "[J" (some 0) with kind := .array 12 .long, interfaces := #[4, 5], accessFlags := 1041 }

def heap : Heap := #[]
def classes : Array Class := #[k0, k1, k2, k3, k4, k5, k6, k7, k8, k9, k10, k11, k12, k13]
def interned : List (Array UInt16 × Addr) := []
def slotsUsed : Nat := 0
def theMethod : MethodId := ⟨1, 1⟩
def args0 : Array Value := #[.int 53, .long 5, .long 9, .long 1, .long 2]
def aboutOver (below : List Frame) : State where
  vm := { classes := classes, interned := interned.toArray }
  heap := heap
  slotsUsed := slotsUsed
  threads := #[{ frames := .invoking theMethod args0 :: below }]
def below0 : List Frame := [.native { method := ⟨0, 0⟩, args := #[] }]
def about1 : State := aboutOver below0
def p0 : Program := .bare "" "" ""
def e0 : Env := launch0.env 0 0 0
theorem w_frames : about1.frames = Frame.invoking theMethod args0 :: below0 := rfl
set_option maxRecDepth 65536 in
theorem w_args : argsFit about1.vm theMethod args0 = true := by decide +kernel
set_option maxRecDepth 65536 in
theorem w_heap : heapFits about1 = true := by decide +kernel
set_option maxRecDepth 65536 in
theorem w_runnable : about1.curStatus? = some .runnable := by decide +kernel
set_option maxRecDepth 65536 in
theorem w_alone : about1.alone = true := by decide +kernel
set_option maxRecDepth 65536 in
theorem w_named : about1.methodNamed? x = some theMethod := by decide +kernel
set_option maxRecDepth 65536 in
theorem w_hears : about1.hears theMethod below0 = true := by decide +kernel
set_option maxRecDepth 65536 in
theorem w_ripe : about1.ripe theMethod args0 below0 = true := by decide +kernel
theorem w_running : about1.status = .running := rfl
set_option maxRecDepth 65536 in
theorem w_room : about1.hasRoom e0.platform room_1 = true :=
  launch0.hasRoom_least _ room_1 (by decide +kernel) (by decide +kernel) (by decide +kernel) (by decide +kernel) (by decide +kernel) (by decide +kernel)
theorem allAtoms_all (ts : List Jvm.Cond) (a : Array Jvm.Value) (st : Jvm.State) : (allAtoms ts).before a st = ts.all (fun c => c.before a st) := by
  induction ts with
  | nil => rfl
  | cons c t ih =>
    show (Jvm.Cond.and c (allAtoms t)).before a st = _
    rw [Jvm.Cond.before_and, ih, List.all_cons]
def words1 : List Jvm.Cond := Jvm.Cond.code x code maxLocals ret :: tables_1
/-- a 'code' word, met by the world's own term for the bytes: nothing is compared byte by byte -/
theorem code_word {y : MethodName} {bytes : ByteArray} {mx : Nat} {rt : Option FieldType} {a : Array Value} {s : State} {m : MethodId} {meth : Method} {c : Code} (h1 : s.methodNamed? y = some m) (h2 : s.vm.method? m = some meth) (h3 : meth.code = some c) (h4 : c.code = bytes)
    (h5 : (c.maxLocals == mx && c.exceptionTable.isEmpty && decide (c.maxStack ≤ mostOperands) && decide (meth.sig.returnType = rt) && !meth.locks && decide (parseMethodDescriptor y.desc = some meth.sig)) = true) : (Jvm.Cond.code y bytes mx rt).before a s = true := by
  simp only [Bool.and_eq_true, beq_iff_eq, Bool.not_eq_true', decide_eq_true_eq] at h5
  obtain ⟨⟨⟨⟨⟨g1, g2⟩, g3⟩, g4⟩, g5⟩, g6⟩ := h5
  simp [Cond.before, Cond.holds, Cond.value, h1, h2, h3, h4, g1, g2, g3, g4, g5, g6]
def isCode : Jvm.Cond → Bool
  | .code _ _ _ _ => true
  | _ => false
theorem all_split {L : List Jvm.Cond} {P : Jvm.Cond → Bool} (h1 : L.all (fun c => isCode c || P c) = true) (h2 : ∀ c ∈ L.filter isCode, P c = true) : L.all P = true := by
  refine List.all_eq_true.mpr fun c hc => ?_
  have h := List.all_eq_true.mp h1 c hc
  rcases Bool.eq_false_or_eq_true (isCode c) with hi | hi
  · exact h2 c (List.mem_filter.mpr ⟨hc, hi⟩)
  · simpa [hi] using h
set_option maxRecDepth 65536 in
theorem w_c0 : (Jvm.Cond.code x code maxLocals ret).before args0 about1 = true := code_word (m := ⟨1, 1⟩) (meth := k1m1) (c := k1c1) (by decide +kernel) rfl rfl rfl (by decide +kernel)
set_option maxRecDepth 65536 in
theorem w_c1 : (Jvm.Cond.code ({ cls := "com/example/chancebound/chancebound/model/ClauseHoldsPinLaw", name := "pick", desc := "(JI)J" } : Jvm.MethodName) method_3_code (3 : Nat) (Option.some Jvm.ClassFile.FieldType.long)).before args0 about1 = true := code_word (m := ⟨1, 2⟩) (meth := k1m2) (c := k1c2) (by decide +kernel) rfl rfl rfl (by decide +kernel)
set_option maxRecDepth 65536 in
theorem w_c2 : (Jvm.Cond.code ({ cls := "com/example/chancebound/chancebound/model/Clause", name := "<init>", desc := "([I[Z)V" } : Jvm.MethodName) prog_8_method_1_code (7 : Nat) (Option.none : Option Jvm.ClassFile.FieldType)).before args0 about1 = true := code_word (m := ⟨3, 0⟩) (meth := k3m0) (c := k3c0) (by decide +kernel) rfl rfl rfl (by decide +kernel)
set_option maxRecDepth 65536 in
theorem w_c3 : (Jvm.Cond.code ({ cls := "java/lang/Object", name := "<init>", desc := "()V" } : Jvm.MethodName) object_method_1_code (1 : Nat) (Option.none : Option Jvm.ClassFile.FieldType)).before args0 about1 = true := code_word (m := ⟨0, 0⟩) (meth := k0m0) (c := k0c0) (by decide +kernel) rfl rfl rfl (by decide +kernel)
set_option maxRecDepth 65536 in
theorem w_c4 : (Jvm.Cond.code ({ cls := "com/example/chancebound/chancebound/model/ClauseHoldsPinLaw", name := "lit", desc := "(JZ)Z" } : Jvm.MethodName) method_4_code (3 : Nat) (Option.some Jvm.ClassFile.FieldType.boolean)).before args0 about1 = true := code_word (m := ⟨1, 3⟩) (meth := k1m3) (c := k1c3) (by decide +kernel) rfl rfl rfl (by decide +kernel)
set_option maxRecDepth 65536 in
theorem w_c5 : (Jvm.Cond.code ({ cls := "com/example/chancebound/chancebound/model/Clause", name := "holds", desc := "([J)Z" } : Jvm.MethodName) prog_8_method_5_code (3 : Nat) (Option.some Jvm.ClassFile.FieldType.boolean)).before args0 about1 = true := code_word (m := ⟨3, 1⟩) (meth := k3m1) (c := k3c1) (by decide +kernel) rfl rfl rfl (by decide +kernel)
def codes1 : List Jvm.Cond := [Jvm.Cond.code x code maxLocals ret, Jvm.Cond.code ({ cls := "com/example/chancebound/chancebound/model/ClauseHoldsPinLaw", name := "pick", desc := "(JI)J" } : Jvm.MethodName) method_3_code (3 : Nat) (Option.some Jvm.ClassFile.FieldType.long), Jvm.Cond.code ({ cls := "com/example/chancebound/chancebound/model/Clause", name := "<init>", desc := "([I[Z)V" } : Jvm.MethodName) prog_8_method_1_code (7 : Nat) (Option.none : Option Jvm.ClassFile.FieldType), Jvm.Cond.code ({ cls := "java/lang/Object", name := "<init>", desc := "()V" } : Jvm.MethodName) object_method_1_code (1 : Nat) (Option.none : Option Jvm.ClassFile.FieldType), Jvm.Cond.code ({ cls := "com/example/chancebound/chancebound/model/ClauseHoldsPinLaw", name := "lit", desc := "(JZ)Z" } : Jvm.MethodName) method_4_code (3 : Nat) (Option.some Jvm.ClassFile.FieldType.boolean), Jvm.Cond.code ({ cls := "com/example/chancebound/chancebound/model/Clause", name := "holds", desc := "([J)Z" } : Jvm.MethodName) prog_8_method_5_code (3 : Nat) (Option.some Jvm.ClassFile.FieldType.boolean)]
set_option maxRecDepth 65536 in
theorem codes_eq : words1.filter isCode = codes1 := rfl
theorem w_codes : ∀ c ∈ words1.filter isCode, c.before args0 about1 = true := by
  rw [codes_eq]
  intro c hc
  simp only [codes1, List.mem_cons, List.not_mem_nil, or_false] at hc
  rcases hc with rfl | rfl | rfl | rfl | rfl | rfl
  · exact w_c0
  · exact w_c1
  · exact w_c2
  · exact w_c3
  · exact w_c4
  · exact w_c5
set_option maxRecDepth 65536 in
theorem w_t1 : (words1.take 24).all (fun c => isCode c || c.before args0 about1) = true := by decide +kernel
set_option maxRecDepth 65536 in
theorem w_t2 : (words1.drop 24).all (fun c => isCode c || c.before args0 about1) = true := by decide +kernel
theorem w_tables : (allAtoms (Jvm.Cond.code x code maxLocals ret :: tables_1)).before args0 about1 = true := by
  rw [allAtoms_all]
  show words1.all (fun c => c.before args0 about1) = true
  refine all_split ?_ w_codes
  rw [← List.take_append_drop 24 words1, List.all_append, w_t1, w_t2]
  rfl
set_option maxRecDepth 65536 in
theorem w_case : (Jvm.Cond.and given_1 narrow_1).before args0 about1 = true := by decide +kernel
theorem w_applies : (headSpec (Jvm.Cond.code x code maxLocals ret :: tables_1) room_1).applies x e0.platform about1 = true :=
  (Spec.applies_iff w_frames).mpr ⟨w_running, w_runnable, w_alone, w_named, w_hears, w_ripe, w_room, w_tables⟩
theorem atStart : AtStart classFile x code maxLocals ret World_1 tables_1 room_1 Calls_1 rest_1 Pre_1 launch0 p0 e0 about1 theMethod args0 below0 :=
  ⟨lists_1, trivial, launch0.admits_env _ _ _, launch0.least_env, fairChoices_fair.cas, fairChoices_fair.clock, w_frames, w_args, w_heap, w_applies, trivial, trivial, w_case⟩
end start1
theorem witness_1 : WitnessClaimed_1 := ⟨start1.p0, start1.e0, start1.about1, start1.theMethod, start1.args0, start1.below0, start1.atStart⟩
end Jvm.Pilot.@@N@@
