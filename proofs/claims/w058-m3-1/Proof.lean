import JvmDerived
import JvmDerived.Pilot.@@N@@Statement
import JvmDerived.Pilot.@@N@@Code
set_option linter.unusedVariables false
set_option linter.unusedSimpArgs false
namespace Jvm.OwnW
open Jvm Jvm.ClassFile Sem Op Lib Jvm.Free Jvm.Stand Jvm.LawKit Jvm.RoadKit
/-! ## shifts -/
def ushrI (x y : Int32) : Int32 := (x.toUInt32 >>> (y &&& 31).toUInt32).toInt32
def shlL (x : Int64) (y : Int32) : Int64 := x <<< (y &&& 0x3f).toInt64
def shrL (x : Int64) (y : Int32) : Int64 := x >>> (y &&& 0x3f).toInt64
def ushrL (x : Int64) (y : Int32) : Int64 := (x.toUInt64 >>> (y &&& 0x3f).toInt64.toUInt64).toInt64
theorem ushrI_c (x q : Int32) (k : Nat) (hk : q.toBitVec.toNat % 32 = k) (h0 : 0 < k) : (ushrI x q).toInt = (x.toInt % 4294967296) / (2 ^ k : Nat) := c_iushr x q k hk h0
theorem shlL_c (x : Int64) (q : Int32) (k : Nat) (hk : q.toBitVec.toNat % 64 = k) : ((shlL x q).toInt - x.toInt * (2 ^ k : Nat)) % 18446744073709551616 = 0 := c_lshl x q k hk
theorem shrL_c (x : Int64) (q : Int32) (k : Nat) (hk : q.toBitVec.toNat % 64 = k) : (shrL x q).toInt = x.toInt / (2 ^ k : Nat) := c_lshr x q k hk
theorem ushrL_c (x : Int64) (q : Int32) (k : Nat) (hk : q.toBitVec.toNat % 64 = k) (h0 : 0 < k) : (ushrL x q).toInt = (x.toInt % 18446744073709551616) / (2 ^ k : Nat) := c_lushr x q k hk h0
theorem ushrL_0 (x : Int64) : ushrL x 0 = x := by
  show (x.toUInt64 >>> (0 : UInt64)).toInt64 = x
  simp
/-! ## what the walk's own cells hold -/
/-- a field: the class that declares it, its name, its descriptor, its value -/
abbrev FldE := String × String × String × Value
/-- an object (its class, its fields) or an array (its component's kind, its values) -/
abbrev Obj := (String × List FldE) ⊕ (FieldType × List Value)
abbrev HL := List (Addr × Obj)
def Is (Z : State) (h : Heap) (a : Addr) : Obj → Prop
  | .inl (C, fs) => Exa Z h a C ∧ (∀ f ∈ fs, Fld Z h a f.1 f.2.1 f.2.2.1 f.2.2.2) ∧ fs.Pairwise fun f g => RoadKit.slotOf Z f.1 f.2.1 f.2.2.1 ≠ RoadKit.slotOf Z g.1 g.2.1 g.2.2.1
  | .inr (ty, vs) => ∃ c : Cell, Arr Z h a c ty ∧ Exa Z h a ("[" ++ ty.toString) ∧ c.slots.toList = vs ∧ vs.length < 2 ^ 31
def Hp (Z : State) (n0 kb : Nat) (h : Heap) (L : HL) : Prop :=
  (Old Z n0 h ∧ kb ≤ h.size) ∧ (∀ (i : Nat) (a : Addr) (o : Obj), L[i]? = some (a, o) → n0 ≤ a ∧ Is Z h a o) ∧ ∀ (i j : Nat) (a : Addr) (o o' : Obj), L[i]? = some (a, o) → L[j]? = some (a, o') → i = j
section Heaps
variable {Z : State} {a0 : Array Value} {n0 kb : Nat} {h h' : Heap} {a b : Addr} {o : Obj} {L : HL}
theorem Is.lt (F : Is Z h a o) : a < h.size := by
  rcases o with ⟨C, fs⟩ | ⟨ty, vs⟩
  · exact F.1.lt
  · obtain ⟨c, A, -⟩ := F; exact A.lt
theorem Is.ext (F : Is Z h a o) (E : Ext h h') : Is Z h' a o := by
  rcases o with ⟨C, fs⟩ | ⟨ty, vs⟩
  · exact ⟨F.1.ext E, fun f hf => (F.2.1 f hf).ext E, F.2.2⟩
  · obtain ⟨c, A, X, r⟩ := F; exact ⟨c, A.ext E, X.ext E, r⟩
theorem Is.other {sl : Nat} {v : Value} (F : Is Z h b o) (W : Wr h h' a sl v) (q : b ≠ a) : Is Z h' b o := by
  rcases o with ⟨C, fs⟩ | ⟨ty, vs⟩
  · exact ⟨F.1.wr W, fun f hf => (F.2.1 f hf).other W (Or.inl q), F.2.2⟩
  · obtain ⟨c, A, X, r⟩ := F; exact ⟨c, A.other W q, X.wr W, r⟩
theorem Hp.nil (O : Old Z n0 h) (hk : kb ≤ h.size) : Hp Z n0 kb h [] := ⟨⟨O, hk⟩, fun i a o q => by simp at q, fun i j a o o' q => by simp at q⟩
theorem Hp.at (H : Hp Z n0 kb h L) {i : Nat} (q : L[i]? = some (a, o)) : Is Z h a o := (H.2.1 i a o q).2
theorem Hp.obj {C : String} {fs : List FldE} (H : Hp Z n0 kb h L) {i : Nat} (q : L[i]? = some (a, .inl (C, fs))) : Exa Z h a C ∧ (∀ f ∈ fs, Fld Z h a f.1 f.2.1 f.2.2.1 f.2.2.2) ∧ fs.Pairwise fun f g => RoadKit.slotOf Z f.1 f.2.1 f.2.2.1 ≠ RoadKit.slotOf Z g.1 g.2.1 g.2.2.1 := (H.2.1 i a _ q).2
theorem Hp.arr {ty : FieldType} {vs : List Value} (H : Hp Z n0 kb h L) {i : Nat} (q : L[i]? = some (a, .inr (ty, vs))) : ∃ c : Cell, Arr Z h a c ty ∧ Exa Z h a ("[" ++ ty.toString) ∧ c.slots.toList = vs ∧ vs.length < 2 ^ 31 := (H.2.1 i a _ q).2
theorem Hp.ge (H : Hp Z n0 kb h L) {i : Nat} (q : L[i]? = some (a, o)) : n0 ≤ a := (H.2.1 i a o q).1
theorem Hp.push (H : Hp Z n0 kb h L) (E : Ext h h') (hn : n0 ≤ h.size) (F : Is Z h' h.size o) : Hp Z n0 kb h' (L ++ [(h.size, o)]) := by
  have lt : ∀ {i : Nat} {b : Addr} {o' : Obj}, (L ++ [(h.size, o)])[i]? = some (b, o') → (i < L.length ∧ L[i]? = some (b, o') ∧ b < h.size) ∨ (i = L.length ∧ b = h.size ∧ o' = o) := by
    intro i b o' q
    by_cases hi : i < L.length
    · rw [List.getElem?_append_left hi] at q
      exact Or.inl ⟨hi, q, (H.at q).lt⟩
    · rw [List.getElem?_append_right (Nat.le_of_not_lt hi)] at q
      have : i - L.length = 0 := by
        cases hk : i - L.length with
        | zero => rfl
        | succ k => rw [hk] at q; simp at q
      rw [this] at q
      simp at q
      exact Or.inr ⟨by omega, q.1.symm, q.2.symm⟩
  refine ⟨⟨H.1.1.ext E, Nat.le_trans H.1.2 E.1⟩, fun i b o' q => ?_, fun i j b o1 o2 q1 q2 => ?_⟩
  · rcases lt q with ⟨-, q', -⟩ | ⟨-, rfl, rfl⟩
    · exact ⟨H.ge q', (H.at q').ext E⟩
    · exact ⟨hn, F⟩
  · rcases lt q1 with ⟨-, q1', r1⟩ | ⟨e1, r1, -⟩ <;> rcases lt q2 with ⟨-, q2', r2⟩ | ⟨e2, r2, -⟩
    · exact H.2.2 i j b o1 o2 q1' q2'
    · exact absurd r2 (Nat.ne_of_lt r1)
    · exact absurd r1 (Nat.ne_of_lt r2)
    · exact e1.trans e2.symm
theorem Hp.size (H : Hp Z n0 kb h L) : n0 ≤ h.size := H.1.1.1 ▸ H.1.1.2.1
theorem Hp.lower {kb' : Nat} (H : Hp Z n0 kb h L) (q : kb' ≤ h.size) : Hp Z n0 kb' h L := ⟨⟨H.1.1, q⟩, H.2⟩
theorem Hp.put {sl : Nat} {v : Value} {o' : Obj} (H : Hp Z n0 kb h L) {i : Nat} (q : L[i]? = some (a, o)) (W : Wr h h' a sl v) (F : Is Z h' a o') : Hp Z n0 kb h' (L.set i (a, o')) := by
  have at' : ∀ {j : Nat} {b : Addr} {o2 : Obj}, (L.set i (a, o'))[j]? = some (b, o2) → (j = i ∧ b = a ∧ o2 = o') ∨ (j ≠ i ∧ L[j]? = some (b, o2)) := by
    intro j b o2 r
    by_cases hj : j = i
    · subst hj
      rw [List.getElem?_set_self (List.getElem?_eq_some_iff.mp q).1] at r
      simp at r
      exact Or.inl ⟨rfl, r.1.symm, r.2.symm⟩
    · rw [List.getElem?_set_ne (Ne.symm hj)] at r
      exact Or.inr ⟨hj, r⟩
  refine ⟨⟨H.1.1.wr W (H.ge q), by rw [W.size]; exact H.1.2⟩, fun j b o2 r => ?_, fun j j' b o1 o2 r1 r2 => ?_⟩
  · rcases at' r with ⟨rfl, rfl, rfl⟩ | ⟨hj, r'⟩
    · exact ⟨H.ge q, F⟩
    · exact ⟨H.ge r', (H.at r').other W fun e => hj (by subst e; exact H.2.2 _ _ _ _ _ r' q)⟩
  · rcases at' r1 with ⟨rfl, rfl, rfl⟩ | ⟨n1, r1'⟩ <;> rcases at' r2 with ⟨rfl, e2, -⟩ | ⟨n2, r2'⟩
    · rfl
    · exact absurd (H.2.2 _ _ _ _ _ r2' q) n2
    · subst e2; exact absurd (H.2.2 _ _ _ _ _ r1' q) n1
    · exact H.2.2 _ _ _ _ _ r1' r2'
theorem Is.field {C : String} {fs : List FldE} {j : Nat} {O n d : String} {v w : Value} (F : Is Z h a (.inl (C, fs))) (q : fs[j]? = some (O, n, d, w)) (W : Wr h h' a (RoadKit.slotOf Z O n d) v) : Is Z h' a (.inl (C, fs.set j (O, n, d, v))) := by
  obtain ⟨E, A, D⟩ := F
  obtain ⟨hj, e⟩ := List.getElem?_eq_some_iff.mp q
  have nth : ∀ k g, k ≠ j → fs[k]? = some g → RoadKit.slotOf Z g.1 g.2.1 g.2.2.1 ≠ RoadKit.slotOf Z O n d := by
    intro k g hk r
    obtain ⟨hk', e'⟩ := List.getElem?_eq_some_iff.mp r
    rw [List.pairwise_iff_getElem] at D
    rcases Nat.lt_or_gt_of_ne hk with u | u
    · have := D k j hk' hj u; rw [e, e'] at this; exact this
    · have := D j k hj hk' u; rw [e, e'] at this; exact Ne.symm this
  refine ⟨E.wr W, fun f hf => ?_, ?_⟩
  · obtain ⟨k, hk, ek⟩ := List.mem_iff_getElem.mp hf
    by_cases hkj : k = j
    · subst hkj
      have : f = (O, n, d, v) := by rw [← ek]; simp
      subst this
      exact (A (O, n, d, w) (List.mem_of_getElem? q)).same W
    · have r : fs[k]? = some f := by
        have : (fs.set j (O, n, d, v))[k]? = some f := List.getElem?_eq_some_iff.mpr ⟨hk, ek⟩
        rwa [List.getElem?_set_ne (Ne.symm hkj)] at this
      exact (A f (List.mem_of_getElem? r)).other W (Or.inr (nth k f hkj r))
  · have em : (fs.set j (O, n, d, v)).map (fun f => RoadKit.slotOf Z f.1 f.2.1 f.2.2.1) = fs.map (fun f => RoadKit.slotOf Z f.1 f.2.1 f.2.2.1) := by
      rw [List.map_set]
      refine List.ext_getElem? fun k => ?_
      by_cases hkj : j = k
      · subst hkj
        rw [List.getElem?_set_self (by simpa using hj)]
        simp [q]
      · rw [List.getElem?_set_ne hkj]
    have D' : (fs.map (fun f => RoadKit.slotOf Z f.1 f.2.1 f.2.2.1)).Pairwise (· ≠ ·) := List.pairwise_map.mpr D
    rw [← em] at D'
    exact List.pairwise_map.mp D'
theorem Is.elem {ty : FieldType} {vs : List Value} {v : Value} {c : Cell} (A : Arr Z h a c ty) (X : Exa Z h a ("[" ++ ty.toString)) (e : c.slots.toList = vs) (hl : vs.length < 2 ^ 31) {j : Nat} (W : Wr h h' a j v) : Is Z h' a (.inr (ty, vs.set j v)) :=
  ⟨c.setSlot j v, A.same W, X.wr W, by subst e; simp [Cell.setSlot], by simpa using hl⟩
/-- the fields of a fresh object -/
def FOk (Z : State) (a0 : Array Value) (C : String) : List FldE → Prop
  | [] => True
  | (O, n, d, v) :: r => Laid Z a0 C O n d ∧ (∃ ty, parseFieldDescriptor d = some ty ∧ v = defaultValue ty) ∧ FOk Z a0 C r
theorem FOk.cons {C O n d : String} {v : Value} {ty : FieldType} {r : List FldE} (l : Laid Z a0 C O n d) (p : parseFieldDescriptor d = some ty) (e : v = defaultValue ty) (k : FOk Z a0 C r) : FOk Z a0 C ((O, n, d, v) :: r) := ⟨l, ⟨ty, p, e⟩, k⟩
theorem FOk.mem {C : String} : ∀ {fs : List FldE}, FOk Z a0 C fs → ∀ f ∈ fs, Laid Z a0 C f.1 f.2.1 f.2.2.1 ∧ ∃ ty, parseFieldDescriptor f.2.2.1 = some ty ∧ f.2.2.2 = defaultValue ty
  | [], _, _, hf => by simp at hf
  | (O, n, d, v) :: r, k, f, hf => by
    rcases List.mem_cons.mp hf with rfl | hf
    · exact ⟨k.1, k.2.1⟩
    · exact FOk.mem k.2.2 f hf
theorem FOk.pw {C : String} {fs : List FldE} (k : FOk Z a0 C fs) (hn : (fs.map fun f => f.2.1).Nodup) : fs.Pairwise fun f g => RoadKit.slotOf Z f.1 f.2.1 f.2.2.1 ≠ RoadKit.slotOf Z g.1 g.2.1 g.2.2.1 := by
  have hn' : fs.Pairwise fun f g => f.2.1 ≠ g.2.1 := List.pairwise_map.mp hn
  refine List.Pairwise.imp_of_mem ?_ hn'
  intro f g hf hg q
  obtain ⟨l1, t1, p1, -⟩ := k.mem f hf
  obtain ⟨l2, t2, p2, -⟩ := k.mem g hg
  exact slot_ne l1 l2 q p1 p2
theorem set_at {L : HL} {i : Nat} {q r : Addr × Obj} (h : L[i]? = some q) : (L.set i r)[i]? = some r := List.getElem?_set_self (List.getElem?_eq_some_iff.mp h).1
theorem set_ne {L : HL} {i j : Nat} {q r : Addr × Obj} (n : i ≠ j) (h : L[j]? = some q) : (L.set i r)[j]? = some q := (List.getElem?_set_ne n).trans h
end Heaps
/-! ## the walk: where it stands, and that it comes to its end -/
def Wd (p : Program) (l : Launch) (e : Env) (R : Room) (s : State) (m : MethodId) (args : Array Value) (below : List Frame) (meth : Method) (c : Code) (Z : State) (a0 : Array Value) (n0 kb : Nat) (ws : List Cond)
    (y : MethodName) (bytes : ByteArray) (ml : Nat) (ret : Option FieldType) (T : State) (L : HL) (cells slots : Nat) : Prop :=
  (∃ locs, Stand p l e R s m args below meth c T locs cells slots ∧ Fr n0 locs) ∧ Hp Z n0 kb T.heap L ∧ p.tables.exec = Jvm.exec ∧ Z.Warmed39 s.vm ∧ s.vm.findClass y.cls = some m.cls ∧ c.code = bytes ∧ c.maxLocals = ml ∧
    meth.sig.returnType = ret ∧ meth.locks = false ∧ meth.name = y.name ∧ ∀ d ∈ ws, d.before a0 Z = true
/-- how a narrow walk ends: nothing of the tables has changed but what has been resolved -/
def EndN (s : State) (kc ks : Nat) (v : Option Value) (t : State) (Lc : List Loc) : Prop := FrameEnd s (.returned v) t Lc kc ks
def Go (p : Program) (e : Env) (below : List Frame) (Z : State) (n0 kg : Nat) (E : Option Value → State → List Loc → Prop) (P : Option Value → HL → Prop) (T : State) (g : JFrame) : Prop :=
  ∃ s₂ o, Steps p.tables e below (T.setTop g) s₂ ∧ s₂.status = .running ∧ Ended s₂ below o ∧ ∃ v Lc, o = .returned v ∧ (Fr n0 Lc ∧ ∃ L', Hp Z n0 kg s₂.heap L' ∧ P v L') ∧ E v s₂ Lc
/-- a method's contract: at these arguments and these cells it returns, with P of what it returns and of the cells -/
def Con (l : Launch) (y : MethodName) (bytes : ByteArray) (ml : Nat) (ret : Option FieldType) (rm : Room) (Z : State) (n0 : Nat) (as' : Array Value) (L : HL) (P : Option Value → HL → Prop) : Prop :=
  ∀ (wx : List Cond) (kb : Nat) (h : Heap), Hp Z n0 kb h L → MetFree l y (head1 (Cond.code y bytes ml ret :: wx) rm) (fun a U => a = as' ∧ Z.Warmed39 U.vm ∧ U.heap = h) (fun _ _ _ _ _ => True)
    (fun _ U o U' => ∃ v Lc, o = .returned v ∧ (Fr n0 Lc ∧ ∃ L', Hp Z n0 kb U'.heap L' ∧ P v L') ∧ FrameEnd U o U' Lc rm.cells rm.slots)
/-- what a call leaves on the stack -/
def pushV : Option Value → List Value → List Value
  | some v, r => v :: r
  | none, r => r
theorem pushV_eq (v : Option Value) (r : List Value) : v.toList ++ r = pushV v r := by cases v <;> rfl
section Walk
variable {p : Program} {l : Launch} {e : Env} {R : Room} {s : State} {m : MethodId} {args : Array Value} {below : List Frame} {meth : Method} {c : Code} {Z : State} {a0 : Array Value} {n0 kb kg : Nat} {ws : List Cond} {y : MethodName} {bytes : ByteArray} {ml : Nat} {ret : Option FieldType} {T T' : State} {L : HL} {cells slots : Nat} {P : Option Value → HL → Prop} {E : Option Value → State → List Loc → Prop} {kc ks : Nat}
theorem Go.pre {g g' : JFrame} (k : Go p e below Z n0 kg E P T' g') (f : ∀ t, Steps p.tables e below (T'.setTop g') t → Steps p.tables e below (T.setTop g) t) : Go p e below Z n0 kg E P T g := by
  obtain ⟨s₂, o, h1, r⟩ := k
  exact ⟨s₂, o, f _ h1, r⟩
theorem Go.mono {g : JFrame} {P' : Option Value → HL → Prop} (k : Go p e below Z n0 kg E P' T g) (f : ∀ v L, P' v L → P v L) : Go p e below Z n0 kg E P T g := by
  obtain ⟨s₂, o, h1, h2, h3, v, Lc, h4, ⟨h5, L', h6, h7⟩, h8⟩ := k
  exact ⟨s₂, o, h1, h2, h3, v, Lc, h4, ⟨h5, L', h6, f _ _ h7⟩, h8⟩
section Wds
variable (w : Wd p l e R s m args below meth c Z a0 n0 kb ws y bytes ml ret T L cells slots)
theorem Wd.here (w : Wd p l e R s m args below meth c Z a0 n0 kb ws y bytes ml ret T L cells slots) : At T m c below := by obtain ⟨⟨_, X, -⟩, -⟩ := w; exact X.here
theorem Wd.hx (w : Wd p l e R s m args below meth c Z a0 n0 kb ws y bytes ml ret T L cells slots) : p.tables.exec = Jvm.exec := w.2.2.1
theorem Wd.hby (w : Wd p l e R s m args below meth c Z a0 n0 kb ws y bytes ml ret T L cells slots) : c.code = bytes := w.2.2.2.2.2.1
theorem Wd.hp (w : Wd p l e R s m args below meth c Z a0 n0 kb ws y bytes ml ret T L cells slots) : Hp Z n0 kb T.heap L := w.2.1
theorem Wd.hw (w : Wd p l e R s m args below meth c Z a0 n0 kb ws y bytes ml ret T L cells slots) {k : Nat} {d : Cond} (h : ws[k]? = some d) : d.before a0 Z = true := w.2.2.2.2.2.2.2.2.2.2 _ (List.mem_of_getElem? h)
theorem Wd.to {L' : HL} (w : Wd p l e R s m args below meth c Z a0 n0 kb ws y bytes ml ret T L cells slots) (q : L = L') : Wd p l e R s m args below meth c Z a0 n0 kb ws y bytes ml ret T L' cells slots := q ▸ w
end Wds
theorem Con.of {rm : Room} {as' : Array Value} (hpl : plainFor y = true) (hws : ∀ d ∈ ws, d.before a0 Z = true)
    (body : ∀ {p : Program} {e : Env} {s : State} {m : MethodId} {below : List Frame} {meth : Method} {c : Code} {T : State} {kb : Nat}, Wd p l e rm s m as' below meth c Z a0 n0 kb ws y bytes ml ret T L 0 0 → Go p e below Z n0 kb (EndN s rm.cells rm.slots) P T (entryFrame m as' ml)) :
    Con l y bytes ml ret rm Z n0 as' L P := by
  intro wx kb h hH
  refine MetFree.of_bodySF hpl hisR ?_
  intro p e s m args below meth c s₁ Bd hml hP hK
  obtain ⟨rfl, hZ, hh⟩ := hP
  have X0 : Stand p l e rm s m args below meth c s₁ [] 0 0 := Stand.of_body Bd
  have e0 : s₁.heap = h := by rw [← hh, Bd.state]; rfl
  obtain ⟨s₂, o, h1, h2, h3, v, Lc, rfl, h5, h6⟩ := body ⟨⟨[], X0, Fr.nil n0⟩, by rw [e0]; exact hH, Bd.exec, hZ, findClass_of_methodNamed Bd.named, Bd.bytes, hml, Bd.returns, Bd.notSynchronized, (name_of_methodNamed Bd.named Bd.method).1, hws⟩
  obtain ⟨h5a, L', h5b, h5c⟩ := h5
  exact ⟨s₂, _, h1, h2, h3, v, Lc, rfl, ⟨h5a, L', h5b, h5c⟩, h6⟩
theorem g_entry {as' : Array Value} (Ls : Array Slot) (q : entryFrame m as' ml = mkF m 0 Ls []) (k : Go p e below Z n0 kg E P T (mkF m 0 Ls [])) : Go p e below Z n0 kg E P T (entryFrame m as' ml) := by rw [q]; exact k
theorem g_int {pc : Nat} {Ls : Array Slot} {x x' : Int32} {st : List Value} (q : x = x') (k : Go p e below Z n0 kg E P T (mkF m pc Ls (.int x' :: st))) : Go p e below Z n0 kg E P T (mkF m pc Ls (.int x :: st)) := by rw [q]; exact k
theorem g_long {pc : Nat} {Ls : Array Slot} {x x' : Int64} {st : List Value} (q : x = x') (k : Go p e below Z n0 kg E P T (mkF m pc Ls (.long x' :: st))) : Go p e below Z n0 kg E P T (mkF m pc Ls (.long x :: st)) := by rw [q]; exact k
theorem g_end {f : State → State} {fs : List Frame} {v : Option Value} {g : JFrame} {locs : List Loc} (X : Stand p l e R s m args below meth c T locs cells slots) (N : Fr n0 locs) (H : Hp Z n0 kb T.heap L) (hc : cells ≤ kc) (hs : slots ≤ ks) (hP : P v L)
    (st : Steps p.tables e below (T.setTop g) (T.setFrames fs)) (h1 : (T.setFrames fs).status = .running) (h2 : Ended (T.setFrames fs) below (.returned v)) (h3 : s.WarmedH (T.setFrames fs).vm) (h4 : s.sameButNew ({ T.setFrames fs with vm := s.vm } : State) locs cells slots) :
    Go p e below Z n0 kb (EndN s kc ks) P T g :=
  ⟨_, _, st, h1, h2, v, locs, rfl, ⟨N, L, H, hP⟩, ⟨_, rfl⟩, h3, h4.mono hc hs⟩
theorem g_ret (w : Wd p l e R s m args below meth c Z a0 n0 kb ws y bytes ml none T L cells slots) {pc : Nat} {Ls : Array Slot} (hd : decode bytes pc = .ok (.return_, 1)) (hc : cells ≤ kc) (hs : slots ≤ ks) (hP : P none L) :
    Go p e below Z n0 kb (EndN s kc ks) P T (mkF m pc Ls []) := by
  obtain ⟨⟨locs, X, N⟩, H, hx, hZ, hown, hby, hml, hret, hlk, hnm, hws⟩ := w
  obtain ⟨fs, hr, h1, h2, h3, h4⟩ := X.leave (v := none) (fun _ => rfl) hlk
  exact g_end (f := id) X N H hc hs hP (X.returnOut hx hret (hb hby hd) hr) h1 h2 h3 h4
theorem g_retW {t : FieldType} {i : Instr} (w : Wd p l e R s m args below meth c Z a0 n0 kb ws y bytes ml (some t) T L cells slots) {pc : Nat} {Ls : Array Slot} {v : Value} {st : List Value} (hd : decode bytes pc = .ok (i, 1)) (hn : narrow t v = v)
    (hi : (i = .ireturn ∧ (t = .int ∨ t = .boolean ∨ t = .byte ∨ t = .char ∨ t = .short) ∧ ∃ z, v = .int z) ∨ (i = .lreturn ∧ t = .long ∧ ∃ z, v = .long z) ∨ (i = .dreturn ∧ t = .double ∧ ∃ z, v = .double z) ∨ (i = .freturn ∧ t = .float ∧ ∃ z, v = .float z) ∨ (i = .areturn ∧ t.isReference = true ∧ v.isRef = true))
    (hc : cells ≤ kc) (hs : slots ≤ ks) (hP : P (some v) L) : Go p e below Z n0 kb (EndN s kc ks) P T (mkF m pc Ls (v :: st)) := by
  obtain ⟨⟨locs, X, N⟩, H, hx, hZ, hown, hby, hml, hret, hlk, hnm, hws⟩ := w
  obtain ⟨fs, hr, h1, h2, h3, h4⟩ := X.leave (v := some v) (fun q => by rw [hret] at q; cases q) hlk
  exact g_end (f := id) X N H hc hs hP (retOut X hx hret hn hi (hb hby hd) hr) h1 h2 h3 h4
theorem g_ireti (w : Wd p l e R s m args below meth c Z a0 n0 kb ws y bytes ml (some .int) T L cells slots) {pc : Nat} {Ls : Array Slot} {z : Int32} {st : List Value} (hd : decode bytes pc = .ok (.ireturn, 1)) (hc : cells ≤ kc) (hs : slots ≤ ks) (hP : P (some (.int z)) L) :
    Go p e below Z n0 kb (EndN s kc ks) P T (mkF m pc Ls (.int z :: st)) := g_retW w hd rfl (Or.inl ⟨rfl, Or.inl rfl, z, rfl⟩) hc hs hP
theorem g_lret (w : Wd p l e R s m args below meth c Z a0 n0 kb ws y bytes ml (some .long) T L cells slots) {pc : Nat} {Ls : Array Slot} {z : Int64} {st : List Value} (hd : decode bytes pc = .ok (.lreturn, 1)) (hc : cells ≤ kc) (hs : slots ≤ ks) (hP : P (some (.long z)) L) :
    Go p e below Z n0 kb (EndN s kc ks) P T (mkF m pc Ls (.long z :: st)) := g_retW w hd rfl (Or.inr (Or.inl ⟨rfl, rfl, z, rfl⟩)) hc hs hP
theorem g_aret {t : FieldType} (w : Wd p l e R s m args below meth c Z a0 n0 kb ws y bytes ml (some t) T L cells slots) {pc : Nat} {Ls : Array Slot} {v : Value} {st : List Value} (hd : decode bytes pc = .ok (.areturn, 1)) (ht : t.isReference = true) (hv : v.isRef = true) (hn : narrow t v = v) (hc : cells ≤ kc) (hs : slots ≤ ks) (hP : P (some v) L) :
    Go p e below Z n0 kb (EndN s kc ks) P T (mkF m pc Ls (v :: st)) := g_retW w hd hn (Or.inr (Or.inr (Or.inr (Or.inr ⟨rfl, ht, hv⟩)))) hc hs hP
/-- a boolean, byte, char or short: narrowed -/
theorem g_iretn {t : FieldType} (w : Wd p l e R s m args below meth c Z a0 n0 kb ws y bytes ml (some t) T L cells slots) (ht : t = .boolean ∨ t = .byte ∨ t = .char ∨ t = .short) {pc : Nat} {Ls : Array Slot} {z : Int32} {st : List Value} (hd : decode bytes pc = .ok (.ireturn, 1)) (hc : cells ≤ kc) (hs : slots ≤ ks) (hP : P (some (.int (nar t z))) L) :
    Go p e below Z n0 kb (EndN s kc ks) P T (mkF m pc Ls (.int z :: st)) := by
  obtain ⟨⟨locs, X, N⟩, H, hx, hZ, hown, hby, hml, hret, hlk, hnm, hws⟩ := w
  obtain ⟨fs, hr, h1, h2, h3, h4⟩ := X.leave (v := some (.int (nar t z))) (fun q => by rw [hret] at q; cases q) hlk
  exact g_end (f := id) X N H hc hs hP (retN X hx hret ht (hb hby hd) hr) h1 h2 h3 h4
/-! ## constants of the pool -/
theorem g_ldci (w : Wd p l e R s m args below meth c Z a0 n0 kb ws y bytes ml ret T L cells slots) {pc : Nat} {Ls : Array Slot} {st : List Value} {idx : Nat} (hd : decode bytes pc = .ok (.ldc idx, 2)) (k : Nat) {v : Int32} (hk : ws[k]? = some (.constant y.cls idx v)) (pc' : Nat) (hp : pc + 2 = pc')
    (kt : Go p e below Z n0 kg E P T (mkF m pc' Ls (.int v :: st))) : Go p e below Z n0 kg E P T (mkF m pc Ls st) := by
  subst hp
  have hk' := w.hw hk
  obtain ⟨⟨locs, X, N⟩, H, hx, hZ, hown, hby, hml, hret, hlk, hnm, hws⟩ := w
  exact kt.pre fun t q => X.ldcInt hx hown (mvT hZ hk') (g := mkF m pc Ls st) rfl (hb hby hd) t q
theorem g_ldcl (w : Wd p l e R s m args below meth c Z a0 n0 kb ws y bytes ml ret T L cells slots) {pc : Nat} {Ls : Array Slot} {st : List Value} {idx : Nat} (hd : decode bytes pc = .ok (.ldc2_w idx, 3)) (k : Nat) {v : Int64} (hk : ws[k]? = some (.constantLong y.cls idx v)) (pc' : Nat) (hp : pc + 3 = pc')
    (kt : Go p e below Z n0 kg E P T (mkF m pc' Ls (.long v :: st))) : Go p e below Z n0 kg E P T (mkF m pc Ls st) := by
  subst hp
  have hk' := w.hw hk
  obtain ⟨⟨locs, X, N⟩, H, hx, hZ, hown, hby, hml, hret, hlk, hnm, hws⟩ := w
  exact kt.pre fun t q => X.ldc2Long hx hown (mvT hZ hk') (g := mkF m pc Ls st) rfl (hb hby hd) t q
/-! ## fields -/
theorem g_getf (w : Wd p l e R s m args below meth c Z a0 n0 kb ws y bytes ml ret T L cells slots) {pc : Nat} {Ls : Array Slot} {st : List Value} {idx : Nat} {a : Addr} {C R0 O n d : String} {fs : List FldE} {v : Value} (hd : decode bytes pc = .ok (.getfield idx, 3)) (i : Nat) (hi : L[i]? = some (a, .inl (C, fs))) (j : Nat) (hj : fs[j]? = some (O, n, d, v))
    (k : Nat) (hk : ws[k]? = some (.fieldLink y.cls idx R0 n d)) (via : Via Z R0 O n d) (pc' : Nat) (hp : pc + 3 = pc')
    (kt : ∀ T', Wd p l e R s m args below meth c Z a0 n0 kb ws y bytes ml ret T' L cells slots → Go p e below Z n0 kg E P T' (mkF m pc' Ls (v :: st))) : Go p e below Z n0 kg E P T (mkF m pc Ls (.ref a :: st)) := by
  subst hp
  have hk' := w.hw hk
  obtain ⟨⟨locs, X, N⟩, H, hx, hZ, hown, hby, hml, hret, hlk, hnm, hws⟩ := w
  have F := (H.obj hi).2.1 _ (List.mem_of_getElem? hj)
  obtain ⟨T', X', e', st'⟩ := getF X hx hZ hown (host := "") (Or.inl hk') via rfl F (g := mkF m pc Ls (.ref a :: st)) rfl rfl (hb hby hd)
  exact (kt T' ⟨⟨locs, X', N⟩, by rw [e']; exact H, hx, hZ, hown, hby, hml, hret, hlk, hnm, hws⟩).pre st'
theorem g_putf (w : Wd p l e R s m args below meth c Z a0 n0 kb ws y bytes ml ret T L cells slots) {pc : Nat} {Ls : Array Slot} {st : List Value} {idx kk : Nat} {a : Addr} {C R0 O n d : String} {fs : List FldE} {u v : Value} {ty : FieldType} (hd : decode bytes pc = .ok (.putfield idx, 3)) (i : Nat) (hi : L[i]? = some (a, .inl (C, fs))) (j : Nat) (hj : fs[j]? = some (O, n, d, u))
    (k : Nat) (hk : ws[k]? = some (.fieldLink y.cls idx R0 n d)) (via : Via Z R0 O n d) (k2 : Nat) (hk2 : ws[k2]? = some (.lays C O n d) ∨ (ws[k2]? = some (.laysFinal C O n d) ∧ y.cls = O ∧ y.name = "<init>")) (k3 : Nat) (hk3 : ws[k3]? = some (.instantiable C kk)) (hty : parseFieldDescriptor d = some ty) (hn : narrow ty v = v) (hf : fits ty v = true) (pc' : Nat) (hp : pc + 3 = pc')
    (kt : ∀ T', Wd p l e R s m args below meth c Z a0 n0 kb ws y bytes ml ret T' (L.set i (a, .inl (C, fs.set j (O, n, d, v)))) cells slots → Go p e below Z n0 kg E P T' (mkF m pc' Ls st)) : Go p e below Z n0 kg E P T (mkF m pc Ls (v :: .ref a :: st)) := by
  subst hp
  have hk' := w.hw hk
  have hk3' := w.hw hk3
  have hk2' : (Cond.lays C O n d).before a0 Z = true ∨ ((Cond.laysFinal C O n d).before a0 Z = true ∧ y.cls = O ∧ y.name = "<init>") := hk2.imp (fun q => w.hw q) fun q => ⟨w.hw q.1, q.2⟩
  obtain ⟨⟨locs, X, N⟩, H, hx, hZ, hown, hby, hml, hret, hlk, hnm, hws⟩ := w
  have I := H.obj hi
  have F := I.2.1 _ (List.mem_of_getElem? hj)
  obtain ⟨T', h', X', e', W, st'⟩ := putF X hx hZ hown (host := "") (Or.inl hk') via rfl F I.1 (hk2'.imp id fun q => ⟨q.1, q.2.1, hnm.trans q.2.2⟩) hk3' hty hn hf (g := mkF m pc Ls (v :: .ref a :: st)) rfl rfl (hb hby hd)
  refine (kt T' ⟨⟨_, X', Fr.snoc X' N (H.ge hi)⟩, ?_, hx, hZ, hown, hby, hml, hret, hlk, hnm, hws⟩).pre st'
  rw [e']
  exact H.put hi W (Is.field (H.at hi) hj W)
/-! ## new objects and arrays -/
theorem g_new (w : Wd p l e R s m args below meth c Z a0 n0 kb ws y bytes ml ret T L cells slots) {pc : Nat} {Ls : Array Slot} {st : List Value} {idx n : Nat} {C : String} (fs : List FldE) (hd : decode bytes pc = .ok (.new idx, 3)) (k1 : Nat) (hk1 : ws[k1]? = some (.classLink y.cls idx C)) (k2 : Nat) (hk2 : ws[k2]? = some (.instantiable C n)) (k3 : Nat) (hk3 : ws[k3]? = some (.initialized C))
    (hfs : FOk Z a0 C fs) (hnd : (fs.map fun f => f.2.1).Nodup) (hc : cells + 1 ≤ R.cells) (hs : slots + n ≤ R.slots) (pc' : Nat) (hp : pc + 3 = pc')
    (kt : ∀ T' a, Wd p l e R s m args below meth c Z a0 n0 kb ws y bytes ml ret T' (L ++ [(a, .inl (C, fs))]) (cells + 1) (slots + n) → Go p e below Z n0 kg E P T' (mkF m pc' Ls (.ref a :: st))) : Go p e below Z n0 kg E P T (mkF m pc Ls st) := by
  subst hp
  have hk1' := w.hw hk1
  have hk2' := w.hw hk2
  have hk3' := w.hw hk3
  obtain ⟨⟨locs, X, N⟩, H, hx, hZ, hown, hby, hml, hret, hlk, hnm, hws⟩ := w
  obtain ⟨T', h', X', e', E, A, D, -, st'⟩ := newO X hx hZ hown hk1' hk2' hk3' rfl (g := mkF m pc Ls st) rfl (hb hby hd) hc hs
  refine (kt T' T.heap.size ⟨⟨_, X', N⟩, ?_, hx, hZ, hown, hby, hml, hret, hlk, hnm, hws⟩).pre st'
  rw [e']
  refine H.push E H.size (show Exa _ _ _ _ ∧ _ ∧ _ from ⟨A, fun f hf => ?_, hfs.pw hnd⟩)
  obtain ⟨l1, t1, p1, v1⟩ := hfs.mem f hf
  rw [v1]
  exact D l1 p1
theorem g_newarr (w : Wd p l e R s m args below meth c Z a0 n0 kb ws y bytes ml ret T L cells slots) {pc : Nat} {Ls : Array Slot} {st : List Value} {aty : ArrayType} {n : Int32} (hd : decode bytes pc = .ok (.newarray aty, 2)) (k1 : Nat) (hk1 : ws[k1]? = some (.arrayClass (newarray.typeOf aty))) (nn cap : Nat) (hn : n.toInt = (nn : Int)) (hcap : nn ≤ cap) (hb8 : cap * 8 ≤ 536870912)
    (vs : List Value) (hvs : vs = List.replicate nn (defaultValue (newarray.typeOf aty))) (hc : cells + 1 ≤ R.cells) (hs : slots + cap ≤ R.slots) (pc' : Nat) (hp : pc + 2 = pc')
    (kt : ∀ T' a, Wd p l e R s m args below meth c Z a0 n0 kb ws y bytes ml ret T' (L ++ [(a, .inr (newarray.typeOf aty, vs))]) (cells + 1) (slots + cap) → Go p e below Z n0 kg E P T' (mkF m pc' Ls (.ref a :: st))) : Go p e below Z n0 kg E P T (mkF m pc Ls (.int n :: st)) := by
  subst hp hvs
  have hk1' := w.hw hk1
  obtain ⟨⟨locs, X, N⟩, H, hx, hZ, hown, hby, hml, hret, hlk, hnm, hws⟩ := w
  have q0 : ¬ n < 0 := by rw [Int32.lt_iff_toInt_lt, hn]; show ¬ ((nn : Int) < 0); omega
  have q1 : n.toNatClampNeg = nn := by have := nat_of q0; rw [hn] at this; exact (Int.ofNat.inj this).symm
  obtain ⟨T', h', cA, X', e', E, A, XA, st'⟩ := newPE X hx hZ hk1' rfl (g := mkF m pc Ls (.int n :: st)) rfl (hb hby hd) rfl q0 (cap := cap) (by rw [q1]; exact hcap) hb8 hc hs (ad := "[" ++ (newarray.typeOf aty).toString) rfl
  refine (kt T' T.heap.size ⟨⟨_, X', N⟩, ?_, hx, hZ, hown, hby, hml, hret, hlk, hnm, hws⟩).pre st'
  rw [e']
  refine H.push E H.size (show ∃ c : Cell, _ from ⟨_, A, XA, by simp [newA, q1], ?_⟩)
  have := Int32.toInt_lt n
  rw [hn] at this
  simp only [List.length_replicate]
  omega
theorem inb {j : Int32} {jn : Nat} {cl : Cell} {vs : List Value} (hj : j.toInt = (jn : Int)) (e : cl.slots.toList = vs) (hl : jn < vs.length) : ¬ (j < 0 ∨ cl.slots.size ≤ j.toNatClampNeg) ∧ j.toNatClampNeg = jn := by
  have q0 : ¬ j < 0 := by rw [Int32.lt_iff_toInt_lt, hj]; show ¬ ((jn : Int) < 0); omega
  have q1 : j.toNatClampNeg = jn := by have := nat_of q0; rw [hj] at this; exact (Int.ofNat.inj this).symm
  refine ⟨fun q => q.elim q0 fun r => ?_, q1⟩
  rw [q1] at r
  have : cl.slots.size = vs.length := by rw [← e]; simp
  omega
theorem g_alen (w : Wd p l e R s m args below meth c Z a0 n0 kb ws y bytes ml ret T L cells slots) {pc : Nat} {Ls : Array Slot} {st : List Value} {a : Addr} {ty : FieldType} {vs : List Value} (hd : decode bytes pc = .ok (.arraylength, 1)) (i : Nat) (hi : L[i]? = some (a, .inr (ty, vs))) (z : Int32) (hz : z.toInt = (vs.length : Int)) (pc' : Nat) (hp : pc + 1 = pc')
    (kt : Go p e below Z n0 kg E P T (mkF m pc' Ls (.int z :: st))) : Go p e below Z n0 kg E P T (mkF m pc Ls (.ref a :: st)) := by
  subst hp
  obtain ⟨⟨locs, X, N⟩, H, hx, hZ, hown, hby, hml, hret, hlk, hnm, hws⟩ := w
  obtain ⟨cl, A, -, ev, hl⟩ := H.arr hi
  refine kt.pre fun t q => X.arraylength hx A.1 (State.isArrayOf_alike hZ.alike A.2.1) (g := mkF m pc Ls (.ref a :: st)) rfl rfl (hb hby hd) t ?_
  have : cl.slots.size.toInt32 = z := by
    apply Int32.toInt_inj.mp
    have e1 : cl.slots.size = vs.length := by rw [← ev]; simp
    rw [hz, e1]
    exact len_toInt hl
  rw [this]
  exact q
theorem g_castA (w : Wd p l e R s m args below meth c Z a0 n0 kb ws y bytes ml ret T L cells slots) {pc : Nat} {Ls : Array Slot} {st : List Value} {a : Addr} {ty : FieldType} {vs : List Value} {idx : Nat} {K : String} (hd : decode bytes pc = .ok (.checkcast idx, 3)) (i : Nat) (hi : L[i]? = some (a, .inr (ty, vs))) (k : Nat) (hk : ws[k]? = some (.classLink y.cls idx K)) (hK : "[" ++ ty.toString = K) (pc' : Nat) (hp : pc + 3 = pc')
    (kt : ∀ T', Wd p l e R s m args below meth c Z a0 n0 kb ws y bytes ml ret T' L cells slots → Go p e below Z n0 kg E P T' (mkF m pc' Ls (.ref a :: st))) : Go p e below Z n0 kg E P T (mkF m pc Ls (.ref a :: st)) := by
  subst hp hK
  have hk' := w.hw hk
  obtain ⟨⟨locs, X, N⟩, H, hx, hZ, hown, hby, hml, hret, hlk, hnm, hws⟩ := w
  obtain ⟨cl, A, XA, ev, hl⟩ := H.arr hi
  obtain ⟨T', X', e', st'⟩ := castY X hx hZ hown hk' rfl (Ins.self XA) (g := mkF m pc Ls (.ref a :: st)) rfl rfl (hb hby hd)
  exact (kt T' ⟨⟨locs, X', N⟩, by rw [e']; exact H, hx, hZ, hown, hby, hml, hret, hlk, hnm, hws⟩).pre st'
theorem g_cloneA (w : Wd p l e R s m args below meth c Z a0 n0 kb ws y bytes ml ret T L cells slots) {pc : Nat} {Ls : Array Slot} {st : List Value} {a : Addr} {ty : FieldType} {vs : List Value} {idx : Nat} {ad : String} (hd : decode bytes pc = .ok (.invokevirtual idx, 3)) (i : Nat) (hi : L[i]? = some (a, .inr (ty, vs))) (had : "[" ++ ty.toString = ad)
    (k1 : Nat) (hk1 : ws[k1]? = some (.methodLink y.cls idx ⟨ad, "clone", "()Ljava/lang/Object;"⟩)) (k2 : Nat) (hk2 : ws[k2]? = some (.sameMethod ad "java/lang/Object" "clone" "()Ljava/lang/Object;")) (k3 : Nat) (hk3 : ws[k3]? = some (.native ⟨"java/lang/Object", "clone", "()Ljava/lang/Object;"⟩)) (k4 : Nat) (hk4 : ws[k4]? = some (.instanceMethod ⟨"java/lang/Object", "clone", "()Ljava/lang/Object;"⟩))
    (k5 : Nat) (hk5 : ws[k5]? = some (.selects ad ⟨ad, "clone", "()Ljava/lang/Object;"⟩ ⟨"java/lang/Object", "clone", "()Ljava/lang/Object;"⟩)) (k6 : Nat) (hk6 : ws[k6]? = some (.castable ad "java/lang/Cloneable")) (hfit : ∀ v ∈ vs, fits ty v = true) (hsz : Ls.size = ml) (hf : 1 ≤ R.frames) (W cap : Nat) (hW : (st.map fun v => v.category).sum = W) (hl : W + 14 ≤ R.locals) (hcap : vs.length ≤ cap) (hc : cells + 1 ≤ R.cells) (hs : slots + cap ≤ R.slots) (pc' : Nat) (hp : pc + 3 = pc')
    (kt : ∀ T' a', Wd p l e R s m args below meth c Z a0 n0 kb ws y bytes ml ret T' (L ++ [(a', .inr (ty, vs))]) (cells + 1) (slots + cap) → Go p e below Z n0 kg E P T' (mkF m pc' Ls (.ref a' :: st))) : Go p e below Z n0 kg E P T (mkF m pc Ls (.ref a :: st)) := by
  subst hp had
  have hk1' := w.hw hk1
  have hk2' := w.hw hk2
  have hk3' := w.hw hk3
  have hk4' := w.hw hk4
  have hk5' := w.hw hk5
  have hk6' := w.hw hk6
  obtain ⟨⟨locs, X, N⟩, H, hx, hZ, hown, hby, hml, hret, hlk, hnm, hws⟩ := w
  obtain ⟨cl, A, XA, ev, hL⟩ := H.arr hi
  have FC : FitC Z cl := fitC_of A fun i hi v hv => hfit v (by rw [← ev]; exact Array.mem_toList_iff.mpr (Array.mem_of_getElem? hv))
  have hlen : cl.slots.size = vs.length := by rw [← ev]; simp
  obtain ⟨T', h', X', e', E, A', XA', st'⟩ := cloneA X hx hZ hown hk1' hk2' hk3' hk4' hk5' hk6' rfl A XA FC (g := mkF m pc Ls (.ref a :: st)) rfl (by rw [hml]; exact hsz) rfl (hb hby hd) hf (W := W) (cap := cap) (by show 2 * 0 + _ ≤ _; rw [hW]; omega) hl (by rw [hlen]; exact hcap) hc hs
  refine (kt T' T.heap.size ⟨⟨_, X', N⟩, ?_, hx, hZ, hown, hby, hml, hret, hlk, hnm, hws⟩).pre st'
  rw [e']
  exact H.push E H.size ⟨_, A', XA', ev, hL⟩
/-! ## what stood at the start: statics and old objects (never written) -/
theorem Hp.old (H : Hp Z n0 kb T.heap L) : Ext Z.heap T.heap := H.1.1.2
theorem g_gets (w : Wd p l e R s m args below meth c Z a0 n0 kb ws y bytes ml ret T L cells slots) {pc : Nat} {Ls : Array Slot} {st : List Value} {idx : Nat} {O n d : String} {v : Value} (F : Sta Z Z.heap O n d v) (hd : decode bytes pc = .ok (.getstatic idx, 3)) (k : Nat) (hk : ws[k]? = some (.fieldLink y.cls idx O n d)) (pc' : Nat) (hp : pc + 3 = pc')
    (kt : ∀ T', Wd p l e R s m args below meth c Z a0 n0 kb ws y bytes ml ret T' L cells slots → Go p e below Z n0 kg E P T' (mkF m pc' Ls (v :: st))) : Go p e below Z n0 kg E P T (mkF m pc Ls st) := by
  subst hp
  have hk' := w.hw hk
  obtain ⟨⟨locs, X, N⟩, H, hx, hZ, hown, hby, hml, hret, hlk, hnm, hws⟩ := w
  obtain ⟨T', X', e', st'⟩ := getS X hx hZ hown (host := "") hk' Via.refl rfl (F.ext H.old) (g := mkF m pc Ls st) rfl (hb hby hd)
  exact (kt T' ⟨⟨locs, X', N⟩, by rw [e']; exact H, hx, hZ, hown, hby, hml, hret, hlk, hnm, hws⟩).pre st'
theorem g_getfO (w : Wd p l e R s m args below meth c Z a0 n0 kb ws y bytes ml ret T L cells slots) {pc : Nat} {Ls : Array Slot} {st : List Value} {idx : Nat} {a : Addr} {O n d : String} {v : Value} (F : Fld Z Z.heap a O n d v) (hd : decode bytes pc = .ok (.getfield idx, 3)) (k : Nat) (hk : ws[k]? = some (.fieldLink y.cls idx O n d)) (pc' : Nat) (hp : pc + 3 = pc')
    (kt : ∀ T', Wd p l e R s m args below meth c Z a0 n0 kb ws y bytes ml ret T' L cells slots → Go p e below Z n0 kg E P T' (mkF m pc' Ls (v :: st))) : Go p e below Z n0 kg E P T (mkF m pc Ls (.ref a :: st)) := by
  subst hp
  have hk' := w.hw hk
  obtain ⟨⟨locs, X, N⟩, H, hx, hZ, hown, hby, hml, hret, hlk, hnm, hws⟩ := w
  obtain ⟨T', X', e', st'⟩ := getF X hx hZ hown (host := "") (Or.inl hk') Via.refl rfl (F.ext H.old) (g := mkF m pc Ls (.ref a :: st)) rfl rfl (hb hby hd)
  exact (kt T' ⟨⟨locs, X', N⟩, by rw [e']; exact H, hx, hZ, hown, hby, hml, hret, hlk, hnm, hws⟩).pre st'
theorem g_iaload (w : Wd p l e R s m args below meth c Z a0 n0 kb ws y bytes ml ret T L cells slots) {pc : Nat} {Ls : Array Slot} {st : List Value} {a : Addr} {vs : List Value} {j : Int32} {v : Value} (hd : decode bytes pc = .ok (.iaload, 1)) (i : Nat) (hi : L[i]? = some (a, .inr (.int, vs))) (jn : Nat) (hj : j.toInt = (jn : Int)) (hv : vs[jn]? = some v) (pc' : Nat) (hp : pc + 1 = pc')
    (kt : Go p e below Z n0 kg E P T (mkF m pc' Ls (v :: st))) : Go p e below Z n0 kg E P T (mkF m pc Ls (.int j :: .ref a :: st)) := by
  subst hp
  obtain ⟨⟨locs, X, N⟩, H, hx, hZ, hown, hby, hml, hret, hlk, hnm, hws⟩ := w
  obtain ⟨cl, A, -, ev, hl⟩ := H.arr hi
  obtain ⟨q1, q2⟩ := inb hj ev (List.getElem?_eq_some_iff.mp hv).1
  exact kt.pre fun t q => X.iaload hx (j := j) (v := v) A.1 (State.isArrayOf_alike hZ.alike A.2.1) A.2.2 q1 (by rw [q2, ← hv, ← ev]; simp) (g := mkF m pc Ls (.int j :: .ref a :: st)) rfl rfl (hb hby hd) t q
theorem g_laload (w : Wd p l e R s m args below meth c Z a0 n0 kb ws y bytes ml ret T L cells slots) {pc : Nat} {Ls : Array Slot} {st : List Value} {a : Addr} {vs : List Value} {j : Int32} {v : Value} (hd : decode bytes pc = .ok (.laload, 1)) (i : Nat) (hi : L[i]? = some (a, .inr (.long, vs))) (jn : Nat) (hj : j.toInt = (jn : Int)) (hv : vs[jn]? = some v) (pc' : Nat) (hp : pc + 1 = pc')
    (kt : Go p e below Z n0 kg E P T (mkF m pc' Ls (v :: st))) : Go p e below Z n0 kg E P T (mkF m pc Ls (.int j :: .ref a :: st)) := by
  subst hp
  obtain ⟨⟨locs, X, N⟩, H, hx, hZ, hown, hby, hml, hret, hlk, hnm, hws⟩ := w
  obtain ⟨cl, A, -, ev, hl⟩ := H.arr hi
  obtain ⟨q1, q2⟩ := inb hj ev (List.getElem?_eq_some_iff.mp hv).1
  exact kt.pre fun t q => X.laload hx (j := j) (v := v) A.1 (State.isArrayOf_alike hZ.alike A.2.1) A.2.2 q1 (by rw [q2, ← hv, ← ev]; simp) (g := mkF m pc Ls (.int j :: .ref a :: st)) rfl rfl (hb hby hd) t q
theorem g_caload (w : Wd p l e R s m args below meth c Z a0 n0 kb ws y bytes ml ret T L cells slots) {pc : Nat} {Ls : Array Slot} {st : List Value} {a : Addr} {vs : List Value} {j : Int32} {v : Value} (hd : decode bytes pc = .ok (.caload, 1)) (i : Nat) (hi : L[i]? = some (a, .inr (.char, vs))) (jn : Nat) (hj : j.toInt = (jn : Int)) (hv : vs[jn]? = some v) (pc' : Nat) (hp : pc + 1 = pc')
    (kt : Go p e below Z n0 kg E P T (mkF m pc' Ls (v :: st))) : Go p e below Z n0 kg E P T (mkF m pc Ls (.int j :: .ref a :: st)) := by
  subst hp
  obtain ⟨⟨locs, X, N⟩, H, hx, hZ, hown, hby, hml, hret, hlk, hnm, hws⟩ := w
  obtain ⟨cl, A, -, ev, hl⟩ := H.arr hi
  obtain ⟨q1, q2⟩ := inb hj ev (List.getElem?_eq_some_iff.mp hv).1
  exact kt.pre fun t q => X.caload hx (j := j) (v := v) A.1 (State.isArrayOf_alike hZ.alike A.2.1) A.2.2 q1 (by rw [q2, ← hv, ← ev]; simp) (g := mkF m pc Ls (.int j :: .ref a :: st)) rfl rfl (hb hby hd) t q
theorem g_baload (w : Wd p l e R s m args below meth c Z a0 n0 kb ws y bytes ml ret T L cells slots) {pc : Nat} {Ls : Array Slot} {st : List Value} {a : Addr} {vs : List Value} {j : Int32} {v : Value} (hd : decode bytes pc = .ok (.baload, 1)) (i : Nat) (hi : L[i]? = some (a, .inr (.byte, vs))) (jn : Nat) (hj : j.toInt = (jn : Int)) (hv : vs[jn]? = some v) (pc' : Nat) (hp : pc + 1 = pc')
    (kt : Go p e below Z n0 kg E P T (mkF m pc' Ls (v :: st))) : Go p e below Z n0 kg E P T (mkF m pc Ls (.int j :: .ref a :: st)) := by
  subst hp
  obtain ⟨⟨locs, X, N⟩, H, hx, hZ, hown, hby, hml, hret, hlk, hnm, hws⟩ := w
  obtain ⟨cl, A, -, ev, hl⟩ := H.arr hi
  obtain ⟨q1, q2⟩ := inb hj ev (List.getElem?_eq_some_iff.mp hv).1
  exact kt.pre fun t q => X.baloadBytes hx (j := j) (v := v) A.1 (State.isArrayOf_alike hZ.alike A.2.1) A.2.2 q1 (by rw [q2, ← hv, ← ev]; simp) (g := mkF m pc Ls (.int j :: .ref a :: st)) rfl rfl (hb hby hd) t q
theorem g_zaload (w : Wd p l e R s m args below meth c Z a0 n0 kb ws y bytes ml ret T L cells slots) {pc : Nat} {Ls : Array Slot} {st : List Value} {a : Addr} {vs : List Value} {j : Int32} {v : Value} (hd : decode bytes pc = .ok (.baload, 1)) (i : Nat) (hi : L[i]? = some (a, .inr (.boolean, vs))) (jn : Nat) (hj : j.toInt = (jn : Int)) (hv : vs[jn]? = some v) (pc' : Nat) (hp : pc + 1 = pc')
    (kt : Go p e below Z n0 kg E P T (mkF m pc' Ls (v :: st))) : Go p e below Z n0 kg E P T (mkF m pc Ls (.int j :: .ref a :: st)) := by
  subst hp
  obtain ⟨⟨locs, X, N⟩, H, hx, hZ, hown, hby, hml, hret, hlk, hnm, hws⟩ := w
  obtain ⟨cl, A, -, ev, hl⟩ := H.arr hi
  obtain ⟨q1, q2⟩ := inb hj ev (List.getElem?_eq_some_iff.mp hv).1
  exact kt.pre fun t q => X.baloadBooleans hx (j := j) (v := v) A.1 (State.isArrayOf_alike hZ.alike A.2.1) A.2.2 q1 (by rw [q2, ← hv, ← ev]; simp) (g := mkF m pc Ls (.int j :: .ref a :: st)) rfl rfl (hb hby hd) t q
theorem g_iastore (w : Wd p l e R s m args below meth c Z a0 n0 kb ws y bytes ml ret T L cells slots) {pc : Nat} {Ls : Array Slot} {st : List Value} {a : Addr} {vs : List Value} {j : Int32} {x : Int32} (hd : decode bytes pc = .ok (.iastore, 1)) (i : Nat) (hi : L[i]? = some (a, .inr (.int, vs))) (jn : Nat) (hj : j.toInt = (jn : Int)) (hl : jn < vs.length) (v : Value) (hv : (.int x) = v) (pc' : Nat) (hp : pc + 1 = pc')
    (kt : ∀ T', Wd p l e R s m args below meth c Z a0 n0 kb ws y bytes ml ret T' (L.set i (a, .inr (.int, vs.set jn v))) cells slots → Go p e below Z n0 kg E P T' (mkF m pc' Ls st)) : Go p e below Z n0 kg E P T (mkF m pc Ls (.int x :: .int j :: .ref a :: st)) := by
  subst hp hv
  obtain ⟨⟨locs, X, N⟩, H, hx, hZ, hown, hby, hml, hret, hlk, hnm, hws⟩ := w
  obtain ⟨cl, A, XA, ev, hL⟩ := H.arr hi
  obtain ⟨q1, q2⟩ := inb hj ev hl
  obtain ⟨T', h', X', e', W, st'⟩ := stI X hx hZ rfl A (j := j) (x := x) q1 (g := mkF m pc Ls (.int x :: .int j :: .ref a :: st)) rfl rfl (hb hby hd)
  rw [q2] at W
  refine (kt T' ⟨⟨_, X', Fr.snoc X' N (H.ge hi)⟩, ?_, hx, hZ, hown, hby, hml, hret, hlk, hnm, hws⟩).pre st'
  rw [e']
  exact H.put hi W (Is.elem A XA ev hL W)
theorem g_lastore (w : Wd p l e R s m args below meth c Z a0 n0 kb ws y bytes ml ret T L cells slots) {pc : Nat} {Ls : Array Slot} {st : List Value} {a : Addr} {vs : List Value} {j : Int32} {x : Int64} (hd : decode bytes pc = .ok (.lastore, 1)) (i : Nat) (hi : L[i]? = some (a, .inr (.long, vs))) (jn : Nat) (hj : j.toInt = (jn : Int)) (hl : jn < vs.length) (v : Value) (hv : (.long x) = v) (pc' : Nat) (hp : pc + 1 = pc')
    (kt : ∀ T', Wd p l e R s m args below meth c Z a0 n0 kb ws y bytes ml ret T' (L.set i (a, .inr (.long, vs.set jn v))) cells slots → Go p e below Z n0 kg E P T' (mkF m pc' Ls st)) : Go p e below Z n0 kg E P T (mkF m pc Ls (.long x :: .int j :: .ref a :: st)) := by
  subst hp hv
  obtain ⟨⟨locs, X, N⟩, H, hx, hZ, hown, hby, hml, hret, hlk, hnm, hws⟩ := w
  obtain ⟨cl, A, XA, ev, hL⟩ := H.arr hi
  obtain ⟨q1, q2⟩ := inb hj ev hl
  obtain ⟨T', h', X', e', W, st'⟩ := stJ X hx hZ rfl A (j := j) (x := x) q1 (g := mkF m pc Ls (.long x :: .int j :: .ref a :: st)) rfl rfl (hb hby hd)
  rw [q2] at W
  refine (kt T' ⟨⟨_, X', Fr.snoc X' N (H.ge hi)⟩, ?_, hx, hZ, hown, hby, hml, hret, hlk, hnm, hws⟩).pre st'
  rw [e']
  exact H.put hi W (Is.elem A XA ev hL W)
theorem g_castore (w : Wd p l e R s m args below meth c Z a0 n0 kb ws y bytes ml ret T L cells slots) {pc : Nat} {Ls : Array Slot} {st : List Value} {a : Addr} {vs : List Value} {j : Int32} {x : Int32} (hd : decode bytes pc = .ok (.castore, 1)) (i : Nat) (hi : L[i]? = some (a, .inr (.char, vs))) (jn : Nat) (hj : j.toInt = (jn : Int)) (hl : jn < vs.length) (v : Value) (hv : (.int (nar .char x)) = v) (pc' : Nat) (hp : pc + 1 = pc')
    (kt : ∀ T', Wd p l e R s m args below meth c Z a0 n0 kb ws y bytes ml ret T' (L.set i (a, .inr (.char, vs.set jn v))) cells slots → Go p e below Z n0 kg E P T' (mkF m pc' Ls st)) : Go p e below Z n0 kg E P T (mkF m pc Ls (.int x :: .int j :: .ref a :: st)) := by
  subst hp hv
  obtain ⟨⟨locs, X, N⟩, H, hx, hZ, hown, hby, hml, hret, hlk, hnm, hws⟩ := w
  obtain ⟨cl, A, XA, ev, hL⟩ := H.arr hi
  obtain ⟨q1, q2⟩ := inb hj ev hl
  obtain ⟨T', h', X', e', W, st'⟩ := stC X hx hZ rfl A (j := j) (x := x) q1 (g := mkF m pc Ls (.int x :: .int j :: .ref a :: st)) rfl rfl (hb hby hd)
  rw [q2] at W
  refine (kt T' ⟨⟨_, X', Fr.snoc X' N (H.ge hi)⟩, ?_, hx, hZ, hown, hby, hml, hret, hlk, hnm, hws⟩).pre st'
  rw [e']
  exact H.put hi W (Is.elem A XA ev hL W)
theorem g_bastore (w : Wd p l e R s m args below meth c Z a0 n0 kb ws y bytes ml ret T L cells slots) {pc : Nat} {Ls : Array Slot} {st : List Value} {a : Addr} {vs : List Value} {j : Int32} {x : Int32} (hd : decode bytes pc = .ok (.bastore, 1)) (i : Nat) (hi : L[i]? = some (a, .inr (.byte, vs))) (jn : Nat) (hj : j.toInt = (jn : Int)) (hl : jn < vs.length) (v : Value) (hv : (.int (nar .byte x)) = v) (pc' : Nat) (hp : pc + 1 = pc')
    (kt : ∀ T', Wd p l e R s m args below meth c Z a0 n0 kb ws y bytes ml ret T' (L.set i (a, .inr (.byte, vs.set jn v))) cells slots → Go p e below Z n0 kg E P T' (mkF m pc' Ls st)) : Go p e below Z n0 kg E P T (mkF m pc Ls (.int x :: .int j :: .ref a :: st)) := by
  subst hp hv
  obtain ⟨⟨locs, X, N⟩, H, hx, hZ, hown, hby, hml, hret, hlk, hnm, hws⟩ := w
  obtain ⟨cl, A, XA, ev, hL⟩ := H.arr hi
  obtain ⟨q1, q2⟩ := inb hj ev hl
  obtain ⟨T', h', X', e', W, st'⟩ := stB X hx hZ rfl A (j := j) (x := x) q1 (g := mkF m pc Ls (.int x :: .int j :: .ref a :: st)) rfl rfl (hb hby hd)
  rw [q2] at W
  refine (kt T' ⟨⟨_, X', Fr.snoc X' N (H.ge hi)⟩, ?_, hx, hZ, hown, hby, hml, hret, hlk, hnm, hws⟩).pre st'
  rw [e']
  exact H.put hi W (Is.elem A XA ev hL W)
theorem g_zastore (w : Wd p l e R s m args below meth c Z a0 n0 kb ws y bytes ml ret T L cells slots) {pc : Nat} {Ls : Array Slot} {st : List Value} {a : Addr} {vs : List Value} {j : Int32} {x : Int32} (hd : decode bytes pc = .ok (.bastore, 1)) (i : Nat) (hi : L[i]? = some (a, .inr (.boolean, vs))) (jn : Nat) (hj : j.toInt = (jn : Int)) (hl : jn < vs.length) (v : Value) (hv : (.int (nar .boolean x)) = v) (pc' : Nat) (hp : pc + 1 = pc')
    (kt : ∀ T', Wd p l e R s m args below meth c Z a0 n0 kb ws y bytes ml ret T' (L.set i (a, .inr (.boolean, vs.set jn v))) cells slots → Go p e below Z n0 kg E P T' (mkF m pc' Ls st)) : Go p e below Z n0 kg E P T (mkF m pc Ls (.int x :: .int j :: .ref a :: st)) := by
  subst hp hv
  obtain ⟨⟨locs, X, N⟩, H, hx, hZ, hown, hby, hml, hret, hlk, hnm, hws⟩ := w
  obtain ⟨cl, A, XA, ev, hL⟩ := H.arr hi
  obtain ⟨q1, q2⟩ := inb hj ev hl
  obtain ⟨T', h', X', e', W, st'⟩ := stZ X hx hZ rfl A (j := j) (x := x) q1 (g := mkF m pc Ls (.int x :: .int j :: .ref a :: st)) rfl rfl (hb hby hd)
  rw [q2] at W
  refine (kt T' ⟨⟨_, X', Fr.snoc X' N (H.ge hi)⟩, ?_, hx, hZ, hown, hby, hml, hret, hlk, hnm, hws⟩).pre st'
  rw [e']
  exact H.put hi W (Is.elem A XA ev hL W)
theorem g_iadd (w : Wd p l e R s m args below meth c Z a0 n0 kb ws y bytes ml ret T L cells slots) {pc : Nat} {Ls : Array Slot} {x y : Int32} {st : List Value} (hd : decode bytes pc = .ok (.iadd, 1)) (pc' : Nat) (hp : pc + 1 = pc')
    (k : Go p e below Z n0 kg E P T (mkF m pc' Ls (.int (x + y) :: st))) : Go p e below Z n0 kg E P T (mkF m pc Ls (.int y :: .int x :: st)) := by
  subst hp
  exact k.pre fun t q => XS.iadd w.here w.hx rfl (hb w.hby hd) rfl q
theorem g_isub (w : Wd p l e R s m args below meth c Z a0 n0 kb ws y bytes ml ret T L cells slots) {pc : Nat} {Ls : Array Slot} {x y : Int32} {st : List Value} (hd : decode bytes pc = .ok (.isub, 1)) (pc' : Nat) (hp : pc + 1 = pc')
    (k : Go p e below Z n0 kg E P T (mkF m pc' Ls (.int (x - y) :: st))) : Go p e below Z n0 kg E P T (mkF m pc Ls (.int y :: .int x :: st)) := by
  subst hp
  exact k.pre fun t q => XS.isub w.here w.hx rfl (hb w.hby hd) rfl q
theorem g_imul (w : Wd p l e R s m args below meth c Z a0 n0 kb ws y bytes ml ret T L cells slots) {pc : Nat} {Ls : Array Slot} {x y : Int32} {st : List Value} (hd : decode bytes pc = .ok (.imul, 1)) (pc' : Nat) (hp : pc + 1 = pc')
    (k : Go p e below Z n0 kg E P T (mkF m pc' Ls (.int (x * y) :: st))) : Go p e below Z n0 kg E P T (mkF m pc Ls (.int y :: .int x :: st)) := by
  subst hp
  exact k.pre fun t q => XS.imul w.here w.hx rfl (hb w.hby hd) rfl q
theorem g_iand (w : Wd p l e R s m args below meth c Z a0 n0 kb ws y bytes ml ret T L cells slots) {pc : Nat} {Ls : Array Slot} {x y : Int32} {st : List Value} (hd : decode bytes pc = .ok (.iand, 1)) (pc' : Nat) (hp : pc + 1 = pc')
    (k : Go p e below Z n0 kg E P T (mkF m pc' Ls (.int (x &&& y) :: st))) : Go p e below Z n0 kg E P T (mkF m pc Ls (.int y :: .int x :: st)) := by
  subst hp
  exact k.pre fun t q => XS.iand w.here w.hx rfl (hb w.hby hd) rfl q
theorem g_ior (w : Wd p l e R s m args below meth c Z a0 n0 kb ws y bytes ml ret T L cells slots) {pc : Nat} {Ls : Array Slot} {x y : Int32} {st : List Value} (hd : decode bytes pc = .ok (.ior, 1)) (pc' : Nat) (hp : pc + 1 = pc')
    (k : Go p e below Z n0 kg E P T (mkF m pc' Ls (.int (x ||| y) :: st))) : Go p e below Z n0 kg E P T (mkF m pc Ls (.int y :: .int x :: st)) := by
  subst hp
  exact k.pre fun t q => XT.ior w.here w.hx rfl (hb w.hby hd) rfl q
theorem g_ixor (w : Wd p l e R s m args below meth c Z a0 n0 kb ws y bytes ml ret T L cells slots) {pc : Nat} {Ls : Array Slot} {x y : Int32} {st : List Value} (hd : decode bytes pc = .ok (.ixor, 1)) (pc' : Nat) (hp : pc + 1 = pc')
    (k : Go p e below Z n0 kg E P T (mkF m pc' Ls (.int (x ^^^ y) :: st))) : Go p e below Z n0 kg E P T (mkF m pc Ls (.int y :: .int x :: st)) := by
  subst hp
  exact k.pre fun t q => XT.ixor w.here w.hx rfl (hb w.hby hd) rfl q
theorem g_ishl (w : Wd p l e R s m args below meth c Z a0 n0 kb ws y bytes ml ret T L cells slots) {pc : Nat} {Ls : Array Slot} {x y : Int32} {st : List Value} (hd : decode bytes pc = .ok (.ishl, 1)) (pc' : Nat) (hp : pc + 1 = pc')
    (k : Go p e below Z n0 kg E P T (mkF m pc' Ls (.int (x <<< (y &&& 31)) :: st))) : Go p e below Z n0 kg E P T (mkF m pc Ls (.int y :: .int x :: st)) := by
  subst hp
  exact k.pre fun t q => XS.ishl w.here w.hx rfl (hb w.hby hd) rfl q
theorem g_ishr (w : Wd p l e R s m args below meth c Z a0 n0 kb ws y bytes ml ret T L cells slots) {pc : Nat} {Ls : Array Slot} {x y : Int32} {st : List Value} (hd : decode bytes pc = .ok (.ishr, 1)) (pc' : Nat) (hp : pc + 1 = pc')
    (k : Go p e below Z n0 kg E P T (mkF m pc' Ls (.int (x >>> (y &&& 31)) :: st))) : Go p e below Z n0 kg E P T (mkF m pc Ls (.int y :: .int x :: st)) := by
  subst hp
  exact k.pre fun t q => XS.ishr w.here w.hx rfl (hb w.hby hd) rfl q
theorem g_iushr (w : Wd p l e R s m args below meth c Z a0 n0 kb ws y bytes ml ret T L cells slots) {pc : Nat} {Ls : Array Slot} {x y : Int32} {st : List Value} (hd : decode bytes pc = .ok (.iushr, 1)) (pc' : Nat) (hp : pc + 1 = pc')
    (k : Go p e below Z n0 kg E P T (mkF m pc' Ls (.int (ushrI x y) :: st))) : Go p e below Z n0 kg E P T (mkF m pc Ls (.int y :: .int x :: st)) := by
  subst hp
  exact k.pre fun t q => XS.iushr w.here w.hx rfl (hb w.hby hd) rfl q
theorem g_ladd (w : Wd p l e R s m args below meth c Z a0 n0 kb ws y bytes ml ret T L cells slots) {pc : Nat} {Ls : Array Slot} {x y : Int64} {st : List Value} (hd : decode bytes pc = .ok (.ladd, 1)) (pc' : Nat) (hp : pc + 1 = pc')
    (k : Go p e below Z n0 kg E P T (mkF m pc' Ls (.long (x + y) :: st))) : Go p e below Z n0 kg E P T (mkF m pc Ls (.long y :: .long x :: st)) := by
  subst hp
  exact k.pre fun t q => XT.ladd w.here w.hx rfl (hb w.hby hd) rfl q
theorem g_lsub (w : Wd p l e R s m args below meth c Z a0 n0 kb ws y bytes ml ret T L cells slots) {pc : Nat} {Ls : Array Slot} {x y : Int64} {st : List Value} (hd : decode bytes pc = .ok (.lsub, 1)) (pc' : Nat) (hp : pc + 1 = pc')
    (k : Go p e below Z n0 kg E P T (mkF m pc' Ls (.long (x - y) :: st))) : Go p e below Z n0 kg E P T (mkF m pc Ls (.long y :: .long x :: st)) := by
  subst hp
  exact k.pre fun t q => XT.lsub w.here w.hx rfl (hb w.hby hd) rfl q
theorem g_lmul (w : Wd p l e R s m args below meth c Z a0 n0 kb ws y bytes ml ret T L cells slots) {pc : Nat} {Ls : Array Slot} {x y : Int64} {st : List Value} (hd : decode bytes pc = .ok (.lmul, 1)) (pc' : Nat) (hp : pc + 1 = pc')
    (k : Go p e below Z n0 kg E P T (mkF m pc' Ls (.long (x * y) :: st))) : Go p e below Z n0 kg E P T (mkF m pc Ls (.long y :: .long x :: st)) := by
  subst hp
  exact k.pre fun t q => XT.lmul w.here w.hx rfl (hb w.hby hd) rfl q
theorem g_land (w : Wd p l e R s m args below meth c Z a0 n0 kb ws y bytes ml ret T L cells slots) {pc : Nat} {Ls : Array Slot} {x y : Int64} {st : List Value} (hd : decode bytes pc = .ok (.land, 1)) (pc' : Nat) (hp : pc + 1 = pc')
    (k : Go p e below Z n0 kg E P T (mkF m pc' Ls (.long (x &&& y) :: st))) : Go p e below Z n0 kg E P T (mkF m pc Ls (.long y :: .long x :: st)) := by
  subst hp
  exact k.pre fun t q => XT.land w.here w.hx rfl (hb w.hby hd) rfl q
theorem g_lor (w : Wd p l e R s m args below meth c Z a0 n0 kb ws y bytes ml ret T L cells slots) {pc : Nat} {Ls : Array Slot} {x y : Int64} {st : List Value} (hd : decode bytes pc = .ok (.lor, 1)) (pc' : Nat) (hp : pc + 1 = pc')
    (k : Go p e below Z n0 kg E P T (mkF m pc' Ls (.long (x ||| y) :: st))) : Go p e below Z n0 kg E P T (mkF m pc Ls (.long y :: .long x :: st)) := by
  subst hp
  exact k.pre fun t q => XT.lor w.here w.hx rfl (hb w.hby hd) rfl q
theorem g_lxor (w : Wd p l e R s m args below meth c Z a0 n0 kb ws y bytes ml ret T L cells slots) {pc : Nat} {Ls : Array Slot} {x y : Int64} {st : List Value} (hd : decode bytes pc = .ok (.lxor, 1)) (pc' : Nat) (hp : pc + 1 = pc')
    (k : Go p e below Z n0 kg E P T (mkF m pc' Ls (.long (x ^^^ y) :: st))) : Go p e below Z n0 kg E P T (mkF m pc Ls (.long y :: .long x :: st)) := by
  subst hp
  exact k.pre fun t q => XT.lxor w.here w.hx rfl (hb w.hby hd) rfl q
theorem g_lshl (w : Wd p l e R s m args below meth c Z a0 n0 kb ws y bytes ml ret T L cells slots) {pc : Nat} {Ls : Array Slot} {x : Int64} {y : Int32} {st : List Value} (hd : decode bytes pc = .ok (.lshl, 1)) (pc' : Nat) (hp : pc + 1 = pc')
    (k : Go p e below Z n0 kg E P T (mkF m pc' Ls (.long (shlL x y) :: st))) : Go p e below Z n0 kg E P T (mkF m pc Ls (.int y :: .long x :: st)) := by
  subst hp
  exact k.pre fun t q => XS.lshl w.here w.hx rfl (hb w.hby hd) rfl q
theorem g_lshr (w : Wd p l e R s m args below meth c Z a0 n0 kb ws y bytes ml ret T L cells slots) {pc : Nat} {Ls : Array Slot} {x : Int64} {y : Int32} {st : List Value} (hd : decode bytes pc = .ok (.lshr, 1)) (pc' : Nat) (hp : pc + 1 = pc')
    (k : Go p e below Z n0 kg E P T (mkF m pc' Ls (.long (shrL x y) :: st))) : Go p e below Z n0 kg E P T (mkF m pc Ls (.int y :: .long x :: st)) := by
  subst hp
  exact k.pre fun t q => XS.lshr w.here w.hx rfl (hb w.hby hd) rfl q
theorem g_lushr (w : Wd p l e R s m args below meth c Z a0 n0 kb ws y bytes ml ret T L cells slots) {pc : Nat} {Ls : Array Slot} {x : Int64} {y : Int32} {st : List Value} (hd : decode bytes pc = .ok (.lushr, 1)) (pc' : Nat) (hp : pc + 1 = pc')
    (k : Go p e below Z n0 kg E P T (mkF m pc' Ls (.long (ushrL x y) :: st))) : Go p e below Z n0 kg E P T (mkF m pc Ls (.int y :: .long x :: st)) := by
  subst hp
  exact k.pre fun t q => XS.lushr w.here w.hx rfl (hb w.hby hd) rfl q
theorem g_lcmp (w : Wd p l e R s m args below meth c Z a0 n0 kb ws y bytes ml ret T L cells slots) {pc : Nat} {Ls : Array Slot} {x y : Int64} {st : List Value} (hd : decode bytes pc = .ok (.lcmp, 1)) (pc' : Nat) (hp : pc + 1 = pc')
    (k : Go p e below Z n0 kg E P T (mkF m pc' Ls (.int (XT.cmpL x y) :: st))) : Go p e below Z n0 kg E P T (mkF m pc Ls (.long y :: .long x :: st)) := by
  subst hp
  exact k.pre fun t q => XT.lcmp w.here w.hx rfl (hb w.hby hd) rfl q
theorem g_idiv (w : Wd p l e R s m args below meth c Z a0 n0 kb ws y bytes ml ret T L cells slots) {pc : Nat} {Ls : Array Slot} {x y : Int32} {st : List Value} (hd : decode bytes pc = .ok (.idiv, 1)) (hy : y ≠ 0) (pc' : Nat) (hp : pc + 1 = pc')
    (k : Go p e below Z n0 kg E P T (mkF m pc' Ls (.int (x / y) :: st))) : Go p e below Z n0 kg E P T (mkF m pc Ls (.int y :: .int x :: st)) := by
  subst hp
  exact k.pre fun t q => XS.idiv w.here w.hx rfl (hb w.hby hd) rfl hy q
theorem g_ldiv (w : Wd p l e R s m args below meth c Z a0 n0 kb ws y bytes ml ret T L cells slots) {pc : Nat} {Ls : Array Slot} {x y : Int64} {st : List Value} (hd : decode bytes pc = .ok (.ldiv, 1)) (hy : y ≠ 0) (pc' : Nat) (hp : pc + 1 = pc')
    (k : Go p e below Z n0 kg E P T (mkF m pc' Ls (.long (x / y) :: st))) : Go p e below Z n0 kg E P T (mkF m pc Ls (.long y :: .long x :: st)) := by
  subst hp
  exact k.pre fun t q => XT.ldiv w.here w.hx rfl (hb w.hby hd) rfl hy q
theorem g_irem (w : Wd p l e R s m args below meth c Z a0 n0 kb ws y bytes ml ret T L cells slots) {pc : Nat} {Ls : Array Slot} {x y : Int32} {st : List Value} (hd : decode bytes pc = .ok (.irem, 1)) (hy : y ≠ 0) (pc' : Nat) (hp : pc + 1 = pc')
    (k : Go p e below Z n0 kg E P T (mkF m pc' Ls (.int (x % y) :: st))) : Go p e below Z n0 kg E P T (mkF m pc Ls (.int y :: .int x :: st)) := by
  subst hp
  exact k.pre fun t q => XS.irem w.here w.hx rfl (hb w.hby hd) rfl hy (by rw [irem_eq_mod]; exact q)
theorem g_lrem (w : Wd p l e R s m args below meth c Z a0 n0 kb ws y bytes ml ret T L cells slots) {pc : Nat} {Ls : Array Slot} {x y : Int64} {st : List Value} (hd : decode bytes pc = .ok (.lrem, 1)) (hy : y ≠ 0) (pc' : Nat) (hp : pc + 1 = pc')
    (k : Go p e below Z n0 kg E P T (mkF m pc' Ls (.long (x % y) :: st))) : Go p e below Z n0 kg E P T (mkF m pc Ls (.long y :: .long x :: st)) := by
  subst hp
  exact k.pre fun t q => XT.lrem w.here w.hx rfl (hb w.hby hd) rfl hy (by rw [lrem_mod]; exact q)
theorem g_ineg (w : Wd p l e R s m args below meth c Z a0 n0 kb ws y bytes ml ret T L cells slots) {pc : Nat} {Ls : Array Slot} {x : Int32} {st : List Value} (hd : decode bytes pc = .ok (.ineg, 1)) (pc' : Nat) (hp : pc + 1 = pc')
    (k : Go p e below Z n0 kg E P T (mkF m pc' Ls (.int (-x) :: st))) : Go p e below Z n0 kg E P T (mkF m pc Ls (.int x :: st)) := by
  subst hp
  exact k.pre fun t q => XS.ineg w.here w.hx rfl (hb w.hby hd) rfl q
theorem g_lneg (w : Wd p l e R s m args below meth c Z a0 n0 kb ws y bytes ml ret T L cells slots) {pc : Nat} {Ls : Array Slot} {x : Int64} {st : List Value} (hd : decode bytes pc = .ok (.lneg, 1)) (pc' : Nat) (hp : pc + 1 = pc')
    (k : Go p e below Z n0 kg E P T (mkF m pc' Ls (.long (-x) :: st))) : Go p e below Z n0 kg E P T (mkF m pc Ls (.long x :: st)) := by
  subst hp
  exact k.pre fun t q => XT.lneg w.here w.hx rfl (hb w.hby hd) rfl q
theorem g_i2l (w : Wd p l e R s m args below meth c Z a0 n0 kb ws y bytes ml ret T L cells slots) {pc : Nat} {Ls : Array Slot} {x : Int32} {st : List Value} (hd : decode bytes pc = .ok (.i2l, 1)) (pc' : Nat) (hp : pc + 1 = pc')
    (k : Go p e below Z n0 kg E P T (mkF m pc' Ls (.long (x.toInt64) :: st))) : Go p e below Z n0 kg E P T (mkF m pc Ls (.int x :: st)) := by
  subst hp
  exact k.pre fun t q => XT.i2l w.here w.hx rfl (hb w.hby hd) rfl q
theorem g_l2i (w : Wd p l e R s m args below meth c Z a0 n0 kb ws y bytes ml ret T L cells slots) {pc : Nat} {Ls : Array Slot} {x : Int64} {st : List Value} (hd : decode bytes pc = .ok (.l2i, 1)) (pc' : Nat) (hp : pc + 1 = pc')
    (k : Go p e below Z n0 kg E P T (mkF m pc' Ls (.int (x.toInt32) :: st))) : Go p e below Z n0 kg E P T (mkF m pc Ls (.long x :: st)) := by
  subst hp
  exact k.pre fun t q => XT.l2i w.here w.hx rfl (hb w.hby hd) rfl q
theorem g_i2b (w : Wd p l e R s m args below meth c Z a0 n0 kb ws y bytes ml ret T L cells slots) {pc : Nat} {Ls : Array Slot} {x : Int32} {st : List Value} (hd : decode bytes pc = .ok (.i2b, 1)) (pc' : Nat) (hp : pc + 1 = pc')
    (k : Go p e below Z n0 kg E P T (mkF m pc' Ls (.int (x.toInt8.toInt32) :: st))) : Go p e below Z n0 kg E P T (mkF m pc Ls (.int x :: st)) := by
  subst hp
  exact k.pre fun t q => XT.i2b w.here w.hx rfl (hb w.hby hd) rfl q
theorem g_i2c (w : Wd p l e R s m args below meth c Z a0 n0 kb ws y bytes ml ret T L cells slots) {pc : Nat} {Ls : Array Slot} {x : Int32} {st : List Value} (hd : decode bytes pc = .ok (.i2c, 1)) (pc' : Nat) (hp : pc + 1 = pc')
    (k : Go p e below Z n0 kg E P T (mkF m pc' Ls (.int (x.toUInt32.toUInt16.toUInt32.toInt32) :: st))) : Go p e below Z n0 kg E P T (mkF m pc Ls (.int x :: st)) := by
  subst hp
  exact k.pre fun t q => XT.i2c w.here w.hx rfl (hb w.hby hd) rfl q
theorem g_i2s (w : Wd p l e R s m args below meth c Z a0 n0 kb ws y bytes ml ret T L cells slots) {pc : Nat} {Ls : Array Slot} {x : Int32} {st : List Value} (hd : decode bytes pc = .ok (.i2s, 1)) (pc' : Nat) (hp : pc + 1 = pc')
    (k : Go p e below Z n0 kg E P T (mkF m pc' Ls (.int (x.toInt16.toInt32) :: st))) : Go p e below Z n0 kg E P T (mkF m pc Ls (.int x :: st)) := by
  subst hp
  exact k.pre fun t q => XT.i2s w.here w.hx rfl (hb w.hby hd) rfl q
theorem g_iload (w : Wd p l e R s m args below meth c Z a0 n0 kb ws y bytes ml ret T L cells slots) {pc : Nat} {Ls : Array Slot} {i : Nat} {v : Int32} {st : List Value} (hd : decode bytes pc = .ok (.iload i, 2)) (hl : Ls[i]? = some (.val (.int v))) (pc' : Nat) (hp : pc + 2 = pc')
    (k : Go p e below Z n0 kg E P T (mkF m pc' Ls (.int v :: st))) : Go p e below Z n0 kg E P T (mkF m pc Ls (st)) := by
  subst hp
  exact k.pre fun t q => XS.iload w.here w.hx rfl (hb w.hby hd) hl q
theorem g_iloadN (w : Wd p l e R s m args below meth c Z a0 n0 kb ws y bytes ml ret T L cells slots) {pc : Nat} {Ls : Array Slot} {i : Fin 4} {v : Int32} {st : List Value} (hd : decode bytes pc = .ok (.iload_n i, 1)) (hl : Ls[i.val]? = some (.val (.int v))) (pc' : Nat) (hp : pc + 1 = pc')
    (k : Go p e below Z n0 kg E P T (mkF m pc' Ls (.int v :: st))) : Go p e below Z n0 kg E P T (mkF m pc Ls (st)) := by
  subst hp
  exact k.pre fun t q => XS.iloadN w.here w.hx rfl (hb w.hby hd) hl q
theorem g_lload (w : Wd p l e R s m args below meth c Z a0 n0 kb ws y bytes ml ret T L cells slots) {pc : Nat} {Ls : Array Slot} {i : Nat} {v : Int64} {st : List Value} (hd : decode bytes pc = .ok (.lload i, 2)) (hl : Ls[i]? = some (.val (.long v))) (pc' : Nat) (hp : pc + 2 = pc')
    (k : Go p e below Z n0 kg E P T (mkF m pc' Ls (.long v :: st))) : Go p e below Z n0 kg E P T (mkF m pc Ls (st)) := by
  subst hp
  exact k.pre fun t q => XT.lload w.here w.hx rfl (hb w.hby hd) hl q
theorem g_lloadN (w : Wd p l e R s m args below meth c Z a0 n0 kb ws y bytes ml ret T L cells slots) {pc : Nat} {Ls : Array Slot} {i : Fin 4} {v : Int64} {st : List Value} (hd : decode bytes pc = .ok (.lload_n i, 1)) (hl : Ls[i.val]? = some (.val (.long v))) (pc' : Nat) (hp : pc + 1 = pc')
    (k : Go p e below Z n0 kg E P T (mkF m pc' Ls (.long v :: st))) : Go p e below Z n0 kg E P T (mkF m pc Ls (st)) := by
  subst hp
  exact k.pre fun t q => XT.lloadN w.here w.hx rfl (hb w.hby hd) hl q
theorem g_aload (w : Wd p l e R s m args below meth c Z a0 n0 kb ws y bytes ml ret T L cells slots) {pc : Nat} {Ls : Array Slot} {i : Nat} {v : Value} {st : List Value} (hd : decode bytes pc = .ok (.aload i, 2)) (hl : Ls[i]? = some (.val v)) (hv : v.isRef = true) (pc' : Nat) (hp : pc + 2 = pc')
    (k : Go p e below Z n0 kg E P T (mkF m pc' Ls (v :: st))) : Go p e below Z n0 kg E P T (mkF m pc Ls (st)) := by
  subst hp
  exact k.pre fun t q => XS.aload w.here w.hx rfl (hb w.hby hd) hl hv q
theorem g_aloadN (w : Wd p l e R s m args below meth c Z a0 n0 kb ws y bytes ml ret T L cells slots) {pc : Nat} {Ls : Array Slot} {i : Fin 4} {v : Value} {st : List Value} (hd : decode bytes pc = .ok (.aload_n i, 1)) (hl : Ls[i.val]? = some (.val v)) (hv : v.isRef = true) (pc' : Nat) (hp : pc + 1 = pc')
    (k : Go p e below Z n0 kg E P T (mkF m pc' Ls (v :: st))) : Go p e below Z n0 kg E P T (mkF m pc Ls (st)) := by
  subst hp
  exact k.pre fun t q => XS.aloadN w.here w.hx rfl (hb w.hby hd) hl hv q
theorem g_iconst (w : Wd p l e R s m args below meth c Z a0 n0 kb ws y bytes ml ret T L cells slots) {pc : Nat} {Ls : Array Slot} {i : Int} {st : List Value} (hd : decode bytes pc = .ok (.iconst i, 1)) (z : Int32) (hz : Int32.ofInt i = z) (pc' : Nat) (hp : pc + 1 = pc')
    (k : Go p e below Z n0 kg E P T (mkF m pc' Ls (.int z :: st))) : Go p e below Z n0 kg E P T (mkF m pc Ls (st)) := by
  subst hp
  exact k.pre fun t q => XS.iconst w.here w.hx rfl (hb w.hby hd) (by rw [hz]; exact q)
theorem g_bipush (w : Wd p l e R s m args below meth c Z a0 n0 kb ws y bytes ml ret T L cells slots) {pc : Nat} {Ls : Array Slot} {i : Int} {st : List Value} (hd : decode bytes pc = .ok (.bipush i, 2)) (z : Int32) (hz : (Int8.ofInt i).toInt32 = z) (pc' : Nat) (hp : pc + 2 = pc')
    (k : Go p e below Z n0 kg E P T (mkF m pc' Ls (.int z :: st))) : Go p e below Z n0 kg E P T (mkF m pc Ls (st)) := by
  subst hp
  exact k.pre fun t q => XS.bipush w.here w.hx rfl (hb w.hby hd) (by rw [hz]; exact q)
theorem g_sipush (w : Wd p l e R s m args below meth c Z a0 n0 kb ws y bytes ml ret T L cells slots) {pc : Nat} {Ls : Array Slot} {i : Int} {st : List Value} (hd : decode bytes pc = .ok (.sipush i, 3)) (z : Int32) (hz : (Int16.ofInt i).toInt32 = z) (pc' : Nat) (hp : pc + 3 = pc')
    (k : Go p e below Z n0 kg E P T (mkF m pc' Ls (.int z :: st))) : Go p e below Z n0 kg E P T (mkF m pc Ls (st)) := by
  subst hp
  exact k.pre fun t q => XS.sipush w.here w.hx rfl (hb w.hby hd) (by rw [hz]; exact q)
theorem g_lconst (w : Wd p l e R s m args below meth c Z a0 n0 kb ws y bytes ml ret T L cells slots) {pc : Nat} {Ls : Array Slot} {i : Fin 2} {st : List Value} (hd : decode bytes pc = .ok (.lconst i, 1)) (z : Int64) (hz : Int64.ofNat i = z) (pc' : Nat) (hp : pc + 1 = pc')
    (k : Go p e below Z n0 kg E P T (mkF m pc' Ls (.long z :: st))) : Go p e below Z n0 kg E P T (mkF m pc Ls (st)) := by
  subst hp
  exact k.pre fun t q => XT.lconst w.here w.hx rfl (hb w.hby hd) (by rw [hz]; exact q)
theorem g_anull (w : Wd p l e R s m args below meth c Z a0 n0 kb ws y bytes ml ret T L cells slots) {pc : Nat} {Ls : Array Slot} {st : List Value} (hd : decode bytes pc = .ok (.aconst_null, 1)) (pc' : Nat) (hp : pc + 1 = pc')
    (k : Go p e below Z n0 kg E P T (mkF m pc' Ls (.null :: st))) : Go p e below Z n0 kg E P T (mkF m pc Ls (st)) := by
  subst hp
  exact k.pre fun t q => XS.aconstNull w.here w.hx rfl (hb w.hby hd) q
theorem g_dup (w : Wd p l e R s m args below meth c Z a0 n0 kb ws y bytes ml ret T L cells slots) {pc : Nat} {Ls : Array Slot} {x : Value} {st : List Value} (hd : decode bytes pc = .ok (.dup, 1)) (hc : x.category = 1) (pc' : Nat) (hp : pc + 1 = pc')
    (k : Go p e below Z n0 kg E P T (mkF m pc' Ls (x :: x :: st))) : Go p e below Z n0 kg E P T (mkF m pc Ls (x :: st)) := by
  subst hp
  exact k.pre fun t q => XS.dup w.here w.hx rfl (hb w.hby hd) rfl hc q
theorem g_pop (w : Wd p l e R s m args below meth c Z a0 n0 kb ws y bytes ml ret T L cells slots) {pc : Nat} {Ls : Array Slot} {x : Value} {st : List Value} (hd : decode bytes pc = .ok (.pop, 1)) (hc : x.category = 1) (pc' : Nat) (hp : pc + 1 = pc')
    (k : Go p e below Z n0 kg E P T (mkF m pc' Ls (st))) : Go p e below Z n0 kg E P T (mkF m pc Ls (x :: st)) := by
  subst hp
  exact k.pre fun t q => XT.pop w.here w.hx rfl (hb w.hby hd) rfl hc q
theorem g_dup_x1 (w : Wd p l e R s m args below meth c Z a0 n0 kb ws y bytes ml ret T L cells slots) {pc : Nat} {Ls : Array Slot} {x x' : Value} {st : List Value} (hd : decode bytes pc = .ok (.dup_x1, 1)) (hc : x.category = 1) (hc' : x'.category = 1) (pc' : Nat) (hp : pc + 1 = pc')
    (k : Go p e below Z n0 kg E P T (mkF m pc' Ls (x :: x' :: x :: st))) : Go p e below Z n0 kg E P T (mkF m pc Ls (x :: x' :: st)) := by
  subst hp
  exact k.pre fun t q => XT.dupX1 w.here w.hx rfl (hb w.hby hd) rfl hc hc' q
theorem g_dup2 (w : Wd p l e R s m args below meth c Z a0 n0 kb ws y bytes ml ret T L cells slots) {pc : Nat} {Ls : Array Slot} {x x' : Value} {st : List Value} (hd : decode bytes pc = .ok (.dup2, 1)) (hc : x.category = 1) (hc' : x'.category = 1) (pc' : Nat) (hp : pc + 1 = pc')
    (k : Go p e below Z n0 kg E P T (mkF m pc' Ls (x :: x' :: x :: x' :: st))) : Go p e below Z n0 kg E P T (mkF m pc Ls (x :: x' :: st)) := by
  subst hp
  exact k.pre fun t q => XT.dup2 w.here w.hx rfl (hb w.hby hd) rfl hc hc' q
theorem g_istore (w : Wd p l e R s m args below meth c Z a0 n0 kb ws y bytes ml ret T L cells slots) {pc : Nat} {Ls : Array Slot} {i : Nat} {x x' : Int32} {st : List Value} (hd : decode bytes pc = .ok (.istore i, 2)) (pc' : Nat) (hp : pc + 2 = pc') (e1 : x = x') (Ls' : Array Slot) (hl : storeLocals Ls i (.int x') = some Ls')
    (k : Go p e below Z n0 kg E P T (mkF m pc' Ls' st)) : Go p e below Z n0 kg E P T (mkF m pc Ls (.int x :: st)) := by
  subst hp e1
  exact k.pre fun t q => XS.istore w.here w.hx rfl (hb w.hby hd) rfl hl q
theorem g_istoreN (w : Wd p l e R s m args below meth c Z a0 n0 kb ws y bytes ml ret T L cells slots) {pc : Nat} {Ls : Array Slot} {i : Fin 4} {x x' : Int32} {st : List Value} (hd : decode bytes pc = .ok (.istore_n i, 1)) (pc' : Nat) (hp : pc + 1 = pc') (e1 : x = x') (Ls' : Array Slot) (hl : storeLocals Ls i.val (.int x') = some Ls')
    (k : Go p e below Z n0 kg E P T (mkF m pc' Ls' st)) : Go p e below Z n0 kg E P T (mkF m pc Ls (.int x :: st)) := by
  subst hp e1
  exact k.pre fun t q => XS.istoreN w.here w.hx rfl (hb w.hby hd) rfl hl q
theorem g_lstore (w : Wd p l e R s m args below meth c Z a0 n0 kb ws y bytes ml ret T L cells slots) {pc : Nat} {Ls : Array Slot} {i : Nat} {x x' : Int64} {st : List Value} (hd : decode bytes pc = .ok (.lstore i, 2)) (pc' : Nat) (hp : pc + 2 = pc') (e1 : x = x') (Ls' : Array Slot) (hl : storeLocals Ls i (.long x') = some Ls')
    (k : Go p e below Z n0 kg E P T (mkF m pc' Ls' st)) : Go p e below Z n0 kg E P T (mkF m pc Ls (.long x :: st)) := by
  subst hp e1
  exact k.pre fun t q => XT.lstore w.here w.hx rfl (hb w.hby hd) rfl hl q
theorem g_lstoreN (w : Wd p l e R s m args below meth c Z a0 n0 kb ws y bytes ml ret T L cells slots) {pc : Nat} {Ls : Array Slot} {i : Fin 4} {x x' : Int64} {st : List Value} (hd : decode bytes pc = .ok (.lstore_n i, 1)) (pc' : Nat) (hp : pc + 1 = pc') (e1 : x = x') (Ls' : Array Slot) (hl : storeLocals Ls i.val (.long x') = some Ls')
    (k : Go p e below Z n0 kg E P T (mkF m pc' Ls' st)) : Go p e below Z n0 kg E P T (mkF m pc Ls (.long x :: st)) := by
  subst hp e1
  exact k.pre fun t q => XT.lstoreN w.here w.hx rfl (hb w.hby hd) rfl hl q
theorem g_astore (w : Wd p l e R s m args below meth c Z a0 n0 kb ws y bytes ml ret T L cells slots) {pc : Nat} {Ls : Array Slot} {i : Nat} {x : Value} {st : List Value} (hd : decode bytes pc = .ok (.astore i, 2)) (pc' : Nat) (hp : pc + 2 = pc') (hv : x.isRef = true) (Ls' : Array Slot) (hl : storeLocals Ls i x = some Ls')
    (k : Go p e below Z n0 kg E P T (mkF m pc' Ls' st)) : Go p e below Z n0 kg E P T (mkF m pc Ls (x :: st)) := by
  subst hp
  exact k.pre fun t q => XS.astore w.here w.hx rfl (hb w.hby hd) rfl hv hl q
theorem g_astoreN (w : Wd p l e R s m args below meth c Z a0 n0 kb ws y bytes ml ret T L cells slots) {pc : Nat} {Ls : Array Slot} {i : Fin 4} {x : Value} {st : List Value} (hd : decode bytes pc = .ok (.astore_n i, 1)) (pc' : Nat) (hp : pc + 1 = pc') (hv : x.isRef = true) (Ls' : Array Slot) (hl : storeLocals Ls i.val x = some Ls')
    (k : Go p e below Z n0 kg E P T (mkF m pc' Ls' st)) : Go p e below Z n0 kg E P T (mkF m pc Ls (x :: st)) := by
  subst hp
  exact k.pre fun t q => XS.astoreN w.here w.hx rfl (hb w.hby hd) rfl hv hl q
theorem g_iinc (w : Wd p l e R s m args below meth c Z a0 n0 kb ws y bytes ml ret T L cells slots) {pc : Nat} {Ls : Array Slot} {i : Nat} {cst : Int} {x x' : Int32} {st : List Value} (hd : decode bytes pc = .ok (.iinc i cst, 3)) (pc' : Nat) (hp : pc + 3 = pc') (hl0 : Ls[i]? = some (.val (.int x))) (e1 : x + Int32.ofInt cst = x') (Ls' : Array Slot) (hl : storeLocals Ls i (.int x') = some Ls')
    (k : Go p e below Z n0 kg E P T (mkF m pc' Ls' st)) : Go p e below Z n0 kg E P T (mkF m pc Ls st) := by
  subst hp e1
  exact k.pre fun t q => XS.iinc w.here w.hx rfl (hb w.hby hd) hl0 hl q
theorem g_goto (w : Wd p l e R s m args below meth c Z a0 n0 kb ws y bytes ml ret T L cells slots) {pc : Nat} {Ls : Array Slot} {o : Int} {st : List Value} (hd : decode bytes pc = .ok (.goto o, 3)) (pc' : Nat) (ho : 0 ≤ (pc : Int) + o) (hp : ((pc : Int) + o).toNat = pc')
    (k : Go p e below Z n0 kg E P T (mkF m pc' Ls st)) : Go p e below Z n0 kg E P T (mkF m pc Ls st) := k.pre fun t q => XS.goto w.here w.hx rfl rfl (hb w.hby hd) ho hp q
theorem g_icmp_eq (w : Wd p l e R s m args below meth c Z a0 n0 kb ws y bytes ml ret T L cells slots) {pc : Nat} {Ls : Array Slot} {x y' : Int32} {o : Int} {st : List Value} (hd : decode bytes pc = .ok (.if_icmp .eq o, 3)) (pcT : Nat) (ho : 0 ≤ (pc : Int) + o) (hT : ((pc : Int) + o).toNat = pcT) (pcF : Nat) (hF : pc + 3 = pcF)
    (k1 : x = y' → Go p e below Z n0 kg E P T (mkF m pcT Ls st)) (k2 : ¬ x = y' → Go p e below Z n0 kg E P T (mkF m pcF Ls st)) : Go p e below Z n0 kg E P T (mkF m pc Ls (.int y' :: .int x :: st)) := by
  subst hF
  by_cases h : x = y'
  · exact (k1 h).pre fun t q => XS.icmpYes w.here w.hx rfl rfl (hb w.hby hd) rfl (XT.ii_eq_t h) ho hT q
  · exact (k2 h).pre fun t q => XS.icmpNo w.here w.hx rfl (hb w.hby hd) rfl (XT.ii_eq_f h) q
theorem g_if_eq (w : Wd p l e R s m args below meth c Z a0 n0 kb ws y bytes ml ret T L cells slots) {pc : Nat} {Ls : Array Slot} {x : Int32} {o : Int} {st : List Value} (hd : decode bytes pc = .ok (.ifCond .eq o, 3)) (pcT : Nat) (ho : 0 ≤ (pc : Int) + o) (hT : ((pc : Int) + o).toNat = pcT) (pcF : Nat) (hF : pc + 3 = pcF)
    (k1 : x = 0 → Go p e below Z n0 kg E P T (mkF m pcT Ls st)) (k2 : ¬ x = 0 → Go p e below Z n0 kg E P T (mkF m pcF Ls st)) : Go p e below Z n0 kg E P T (mkF m pc Ls (.int x :: st)) := by
  subst hF
  by_cases h : x = 0
  · exact (k1 h).pre fun t q => XS.ifYes w.here w.hx rfl rfl (hb w.hby hd) rfl (XT.i0_eq_t h) ho hT q
  · exact (k2 h).pre fun t q => XS.ifNo w.here w.hx rfl (hb w.hby hd) rfl (XT.i0_eq_f h) q
theorem g_lif_eq (w : Wd p l e R s m args below meth c Z a0 n0 kb ws y bytes ml ret T L cells slots) {pc : Nat} {Ls : Array Slot} {x y' : Int64} {o : Int} {st : List Value} (hd : decode bytes pc = .ok (.ifCond .eq o, 3)) (pcT : Nat) (ho : 0 ≤ (pc : Int) + o) (hT : ((pc : Int) + o).toNat = pcT) (pcF : Nat) (hF : pc + 3 = pcF)
    (k1 : x = y' → Go p e below Z n0 kg E P T (mkF m pcT Ls st)) (k2 : ¬ x = y' → Go p e below Z n0 kg E P T (mkF m pcF Ls st)) : Go p e below Z n0 kg E P T (mkF m pc Ls (.int (XT.cmpL x y') :: st)) := by
  subst hF
  by_cases h : x = y'
  · exact (k1 h).pre fun t q => XS.ifYes w.here w.hx rfl rfl (hb w.hby hd) rfl (XT.ll_eq_t h) ho hT q
  · exact (k2 h).pre fun t q => XS.ifNo w.here w.hx rfl (hb w.hby hd) rfl (XT.ll_eq_f h) q
theorem g_icmp_ne (w : Wd p l e R s m args below meth c Z a0 n0 kb ws y bytes ml ret T L cells slots) {pc : Nat} {Ls : Array Slot} {x y' : Int32} {o : Int} {st : List Value} (hd : decode bytes pc = .ok (.if_icmp .ne o, 3)) (pcT : Nat) (ho : 0 ≤ (pc : Int) + o) (hT : ((pc : Int) + o).toNat = pcT) (pcF : Nat) (hF : pc + 3 = pcF)
    (k1 : ¬ x = y' → Go p e below Z n0 kg E P T (mkF m pcT Ls st)) (k2 : x = y' → Go p e below Z n0 kg E P T (mkF m pcF Ls st)) : Go p e below Z n0 kg E P T (mkF m pc Ls (.int y' :: .int x :: st)) := by
  subst hF
  by_cases h : x = y'
  · exact (k2 h).pre fun t q => XS.icmpNo w.here w.hx rfl (hb w.hby hd) rfl (XT.ii_ne_f h) q
  · exact (k1 h).pre fun t q => XS.icmpYes w.here w.hx rfl rfl (hb w.hby hd) rfl (XT.ii_ne_t h) ho hT q
theorem g_if_ne (w : Wd p l e R s m args below meth c Z a0 n0 kb ws y bytes ml ret T L cells slots) {pc : Nat} {Ls : Array Slot} {x : Int32} {o : Int} {st : List Value} (hd : decode bytes pc = .ok (.ifCond .ne o, 3)) (pcT : Nat) (ho : 0 ≤ (pc : Int) + o) (hT : ((pc : Int) + o).toNat = pcT) (pcF : Nat) (hF : pc + 3 = pcF)
    (k1 : ¬ x = 0 → Go p e below Z n0 kg E P T (mkF m pcT Ls st)) (k2 : x = 0 → Go p e below Z n0 kg E P T (mkF m pcF Ls st)) : Go p e below Z n0 kg E P T (mkF m pc Ls (.int x :: st)) := by
  subst hF
  by_cases h : x = 0
  · exact (k2 h).pre fun t q => XS.ifNo w.here w.hx rfl (hb w.hby hd) rfl (XT.i0_ne_f h) q
  · exact (k1 h).pre fun t q => XS.ifYes w.here w.hx rfl rfl (hb w.hby hd) rfl (XT.i0_ne_t h) ho hT q
theorem g_lif_ne (w : Wd p l e R s m args below meth c Z a0 n0 kb ws y bytes ml ret T L cells slots) {pc : Nat} {Ls : Array Slot} {x y' : Int64} {o : Int} {st : List Value} (hd : decode bytes pc = .ok (.ifCond .ne o, 3)) (pcT : Nat) (ho : 0 ≤ (pc : Int) + o) (hT : ((pc : Int) + o).toNat = pcT) (pcF : Nat) (hF : pc + 3 = pcF)
    (k1 : ¬ x = y' → Go p e below Z n0 kg E P T (mkF m pcT Ls st)) (k2 : x = y' → Go p e below Z n0 kg E P T (mkF m pcF Ls st)) : Go p e below Z n0 kg E P T (mkF m pc Ls (.int (XT.cmpL x y') :: st)) := by
  subst hF
  by_cases h : x = y'
  · exact (k2 h).pre fun t q => XS.ifNo w.here w.hx rfl (hb w.hby hd) rfl (XT.ll_ne_f h) q
  · exact (k1 h).pre fun t q => XS.ifYes w.here w.hx rfl rfl (hb w.hby hd) rfl (XT.ll_ne_t h) ho hT q
theorem g_icmp_lt (w : Wd p l e R s m args below meth c Z a0 n0 kb ws y bytes ml ret T L cells slots) {pc : Nat} {Ls : Array Slot} {x y' : Int32} {o : Int} {st : List Value} (hd : decode bytes pc = .ok (.if_icmp .lt o, 3)) (pcT : Nat) (ho : 0 ≤ (pc : Int) + o) (hT : ((pc : Int) + o).toNat = pcT) (pcF : Nat) (hF : pc + 3 = pcF)
    (k1 : x < y' → Go p e below Z n0 kg E P T (mkF m pcT Ls st)) (k2 : ¬ x < y' → Go p e below Z n0 kg E P T (mkF m pcF Ls st)) : Go p e below Z n0 kg E P T (mkF m pc Ls (.int y' :: .int x :: st)) := by
  subst hF
  by_cases h : x < y'
  · exact (k1 h).pre fun t q => XS.icmpYes w.here w.hx rfl rfl (hb w.hby hd) rfl (XT.ii_lt_t h) ho hT q
  · exact (k2 h).pre fun t q => XS.icmpNo w.here w.hx rfl (hb w.hby hd) rfl (XT.ii_lt_f h) q
theorem g_if_lt (w : Wd p l e R s m args below meth c Z a0 n0 kb ws y bytes ml ret T L cells slots) {pc : Nat} {Ls : Array Slot} {x : Int32} {o : Int} {st : List Value} (hd : decode bytes pc = .ok (.ifCond .lt o, 3)) (pcT : Nat) (ho : 0 ≤ (pc : Int) + o) (hT : ((pc : Int) + o).toNat = pcT) (pcF : Nat) (hF : pc + 3 = pcF)
    (k1 : x < 0 → Go p e below Z n0 kg E P T (mkF m pcT Ls st)) (k2 : ¬ x < 0 → Go p e below Z n0 kg E P T (mkF m pcF Ls st)) : Go p e below Z n0 kg E P T (mkF m pc Ls (.int x :: st)) := by
  subst hF
  by_cases h : x < 0
  · exact (k1 h).pre fun t q => XS.ifYes w.here w.hx rfl rfl (hb w.hby hd) rfl (XT.i0_lt_t h) ho hT q
  · exact (k2 h).pre fun t q => XS.ifNo w.here w.hx rfl (hb w.hby hd) rfl (XT.i0_lt_f h) q
theorem g_lif_lt (w : Wd p l e R s m args below meth c Z a0 n0 kb ws y bytes ml ret T L cells slots) {pc : Nat} {Ls : Array Slot} {x y' : Int64} {o : Int} {st : List Value} (hd : decode bytes pc = .ok (.ifCond .lt o, 3)) (pcT : Nat) (ho : 0 ≤ (pc : Int) + o) (hT : ((pc : Int) + o).toNat = pcT) (pcF : Nat) (hF : pc + 3 = pcF)
    (k1 : x < y' → Go p e below Z n0 kg E P T (mkF m pcT Ls st)) (k2 : ¬ x < y' → Go p e below Z n0 kg E P T (mkF m pcF Ls st)) : Go p e below Z n0 kg E P T (mkF m pc Ls (.int (XT.cmpL x y') :: st)) := by
  subst hF
  by_cases h : x < y'
  · exact (k1 h).pre fun t q => XS.ifYes w.here w.hx rfl rfl (hb w.hby hd) rfl (XT.ll_lt_t h) ho hT q
  · exact (k2 h).pre fun t q => XS.ifNo w.here w.hx rfl (hb w.hby hd) rfl (XT.ll_lt_f h) q
theorem g_icmp_ge (w : Wd p l e R s m args below meth c Z a0 n0 kb ws y bytes ml ret T L cells slots) {pc : Nat} {Ls : Array Slot} {x y' : Int32} {o : Int} {st : List Value} (hd : decode bytes pc = .ok (.if_icmp .ge o, 3)) (pcT : Nat) (ho : 0 ≤ (pc : Int) + o) (hT : ((pc : Int) + o).toNat = pcT) (pcF : Nat) (hF : pc + 3 = pcF)
    (k1 : ¬ x < y' → Go p e below Z n0 kg E P T (mkF m pcT Ls st)) (k2 : x < y' → Go p e below Z n0 kg E P T (mkF m pcF Ls st)) : Go p e below Z n0 kg E P T (mkF m pc Ls (.int y' :: .int x :: st)) := by
  subst hF
  by_cases h : x < y'
  · exact (k2 h).pre fun t q => XS.icmpNo w.here w.hx rfl (hb w.hby hd) rfl (XT.ii_ge_f h) q
  · exact (k1 h).pre fun t q => XS.icmpYes w.here w.hx rfl rfl (hb w.hby hd) rfl (XT.ii_ge_t h) ho hT q
theorem g_if_ge (w : Wd p l e R s m args below meth c Z a0 n0 kb ws y bytes ml ret T L cells slots) {pc : Nat} {Ls : Array Slot} {x : Int32} {o : Int} {st : List Value} (hd : decode bytes pc = .ok (.ifCond .ge o, 3)) (pcT : Nat) (ho : 0 ≤ (pc : Int) + o) (hT : ((pc : Int) + o).toNat = pcT) (pcF : Nat) (hF : pc + 3 = pcF)
    (k1 : ¬ x < 0 → Go p e below Z n0 kg E P T (mkF m pcT Ls st)) (k2 : x < 0 → Go p e below Z n0 kg E P T (mkF m pcF Ls st)) : Go p e below Z n0 kg E P T (mkF m pc Ls (.int x :: st)) := by
  subst hF
  by_cases h : x < 0
  · exact (k2 h).pre fun t q => XS.ifNo w.here w.hx rfl (hb w.hby hd) rfl (XT.i0_ge_f h) q
  · exact (k1 h).pre fun t q => XS.ifYes w.here w.hx rfl rfl (hb w.hby hd) rfl (XT.i0_ge_t h) ho hT q
theorem g_lif_ge (w : Wd p l e R s m args below meth c Z a0 n0 kb ws y bytes ml ret T L cells slots) {pc : Nat} {Ls : Array Slot} {x y' : Int64} {o : Int} {st : List Value} (hd : decode bytes pc = .ok (.ifCond .ge o, 3)) (pcT : Nat) (ho : 0 ≤ (pc : Int) + o) (hT : ((pc : Int) + o).toNat = pcT) (pcF : Nat) (hF : pc + 3 = pcF)
    (k1 : ¬ x < y' → Go p e below Z n0 kg E P T (mkF m pcT Ls st)) (k2 : x < y' → Go p e below Z n0 kg E P T (mkF m pcF Ls st)) : Go p e below Z n0 kg E P T (mkF m pc Ls (.int (XT.cmpL x y') :: st)) := by
  subst hF
  by_cases h : x < y'
  · exact (k2 h).pre fun t q => XS.ifNo w.here w.hx rfl (hb w.hby hd) rfl (XT.ll_ge_f h) q
  · exact (k1 h).pre fun t q => XS.ifYes w.here w.hx rfl rfl (hb w.hby hd) rfl (XT.ll_ge_t h) ho hT q
theorem g_icmp_gt (w : Wd p l e R s m args below meth c Z a0 n0 kb ws y bytes ml ret T L cells slots) {pc : Nat} {Ls : Array Slot} {x y' : Int32} {o : Int} {st : List Value} (hd : decode bytes pc = .ok (.if_icmp .gt o, 3)) (pcT : Nat) (ho : 0 ≤ (pc : Int) + o) (hT : ((pc : Int) + o).toNat = pcT) (pcF : Nat) (hF : pc + 3 = pcF)
    (k1 : y' < x → Go p e below Z n0 kg E P T (mkF m pcT Ls st)) (k2 : ¬ y' < x → Go p e below Z n0 kg E P T (mkF m pcF Ls st)) : Go p e below Z n0 kg E P T (mkF m pc Ls (.int y' :: .int x :: st)) := by
  subst hF
  by_cases h : y' < x
  · exact (k1 h).pre fun t q => XS.icmpYes w.here w.hx rfl rfl (hb w.hby hd) rfl (XT.ii_gt_t h) ho hT q
  · exact (k2 h).pre fun t q => XS.icmpNo w.here w.hx rfl (hb w.hby hd) rfl (XT.ii_gt_f h) q
theorem g_if_gt (w : Wd p l e R s m args below meth c Z a0 n0 kb ws y bytes ml ret T L cells slots) {pc : Nat} {Ls : Array Slot} {x : Int32} {o : Int} {st : List Value} (hd : decode bytes pc = .ok (.ifCond .gt o, 3)) (pcT : Nat) (ho : 0 ≤ (pc : Int) + o) (hT : ((pc : Int) + o).toNat = pcT) (pcF : Nat) (hF : pc + 3 = pcF)
    (k1 : 0 < x → Go p e below Z n0 kg E P T (mkF m pcT Ls st)) (k2 : ¬ 0 < x → Go p e below Z n0 kg E P T (mkF m pcF Ls st)) : Go p e below Z n0 kg E P T (mkF m pc Ls (.int x :: st)) := by
  subst hF
  by_cases h : 0 < x
  · exact (k1 h).pre fun t q => XS.ifYes w.here w.hx rfl rfl (hb w.hby hd) rfl (XT.i0_gt_t h) ho hT q
  · exact (k2 h).pre fun t q => XS.ifNo w.here w.hx rfl (hb w.hby hd) rfl (XT.i0_gt_f h) q
theorem g_lif_gt (w : Wd p l e R s m args below meth c Z a0 n0 kb ws y bytes ml ret T L cells slots) {pc : Nat} {Ls : Array Slot} {x y' : Int64} {o : Int} {st : List Value} (hd : decode bytes pc = .ok (.ifCond .gt o, 3)) (pcT : Nat) (ho : 0 ≤ (pc : Int) + o) (hT : ((pc : Int) + o).toNat = pcT) (pcF : Nat) (hF : pc + 3 = pcF)
    (k1 : y' < x → Go p e below Z n0 kg E P T (mkF m pcT Ls st)) (k2 : ¬ y' < x → Go p e below Z n0 kg E P T (mkF m pcF Ls st)) : Go p e below Z n0 kg E P T (mkF m pc Ls (.int (XT.cmpL x y') :: st)) := by
  subst hF
  by_cases h : y' < x
  · exact (k1 h).pre fun t q => XS.ifYes w.here w.hx rfl rfl (hb w.hby hd) rfl (XT.ll_gt_t h) ho hT q
  · exact (k2 h).pre fun t q => XS.ifNo w.here w.hx rfl (hb w.hby hd) rfl (XT.ll_gt_f h) q
theorem g_icmp_le (w : Wd p l e R s m args below meth c Z a0 n0 kb ws y bytes ml ret T L cells slots) {pc : Nat} {Ls : Array Slot} {x y' : Int32} {o : Int} {st : List Value} (hd : decode bytes pc = .ok (.if_icmp .le o, 3)) (pcT : Nat) (ho : 0 ≤ (pc : Int) + o) (hT : ((pc : Int) + o).toNat = pcT) (pcF : Nat) (hF : pc + 3 = pcF)
    (k1 : ¬ y' < x → Go p e below Z n0 kg E P T (mkF m pcT Ls st)) (k2 : y' < x → Go p e below Z n0 kg E P T (mkF m pcF Ls st)) : Go p e below Z n0 kg E P T (mkF m pc Ls (.int y' :: .int x :: st)) := by
  subst hF
  by_cases h : y' < x
  · exact (k2 h).pre fun t q => XS.icmpNo w.here w.hx rfl (hb w.hby hd) rfl (XT.ii_le_f h) q
  · exact (k1 h).pre fun t q => XS.icmpYes w.here w.hx rfl rfl (hb w.hby hd) rfl (XT.ii_le_t h) ho hT q
theorem g_if_le (w : Wd p l e R s m args below meth c Z a0 n0 kb ws y bytes ml ret T L cells slots) {pc : Nat} {Ls : Array Slot} {x : Int32} {o : Int} {st : List Value} (hd : decode bytes pc = .ok (.ifCond .le o, 3)) (pcT : Nat) (ho : 0 ≤ (pc : Int) + o) (hT : ((pc : Int) + o).toNat = pcT) (pcF : Nat) (hF : pc + 3 = pcF)
    (k1 : ¬ 0 < x → Go p e below Z n0 kg E P T (mkF m pcT Ls st)) (k2 : 0 < x → Go p e below Z n0 kg E P T (mkF m pcF Ls st)) : Go p e below Z n0 kg E P T (mkF m pc Ls (.int x :: st)) := by
  subst hF
  by_cases h : 0 < x
  · exact (k2 h).pre fun t q => XS.ifNo w.here w.hx rfl (hb w.hby hd) rfl (XT.i0_le_f h) q
  · exact (k1 h).pre fun t q => XS.ifYes w.here w.hx rfl rfl (hb w.hby hd) rfl (XT.i0_le_t h) ho hT q
theorem g_lif_le (w : Wd p l e R s m args below meth c Z a0 n0 kb ws y bytes ml ret T L cells slots) {pc : Nat} {Ls : Array Slot} {x y' : Int64} {o : Int} {st : List Value} (hd : decode bytes pc = .ok (.ifCond .le o, 3)) (pcT : Nat) (ho : 0 ≤ (pc : Int) + o) (hT : ((pc : Int) + o).toNat = pcT) (pcF : Nat) (hF : pc + 3 = pcF)
    (k1 : ¬ y' < x → Go p e below Z n0 kg E P T (mkF m pcT Ls st)) (k2 : y' < x → Go p e below Z n0 kg E P T (mkF m pcF Ls st)) : Go p e below Z n0 kg E P T (mkF m pc Ls (.int (XT.cmpL x y') :: st)) := by
  subst hF
  by_cases h : y' < x
  · exact (k2 h).pre fun t q => XS.ifNo w.here w.hx rfl (hb w.hby hd) rfl (XT.ll_le_f h) q
  · exact (k1 h).pre fun t q => XS.ifYes w.here w.hx rfl rfl (hb w.hby hd) rfl (XT.ll_le_t h) ho hT q
theorem g_acmp_eq (w : Wd p l e R s m args below meth c Z a0 n0 kb ws y bytes ml ret T L cells slots) {pc : Nat} {Ls : Array Slot} {x y' : Value} {o : Int} {st : List Value} (hd : decode bytes pc = .ok (.if_acmp .eq o, 3)) (hx' : x.isRef = true) (hy' : y'.isRef = true) (pcT : Nat) (ho : 0 ≤ (pc : Int) + o) (hT : ((pc : Int) + o).toNat = pcT) (pcF : Nat) (hF : pc + 3 = pcF)
    (k1 : x = y' → Go p e below Z n0 kg E P T (mkF m pcT Ls st)) (k2 : ¬ x = y' → Go p e below Z n0 kg E P T (mkF m pcF Ls st)) : Go p e below Z n0 kg E P T (mkF m pc Ls (y' :: x :: st)) := by
  subst hF
  by_cases h : x = y'
  · exact (k1 h).pre fun t q => XT.acmpYes w.here w.hx rfl rfl (hb w.hby hd) rfl hx' hy' (XT.aa_eq_t h) ho hT q
  · exact (k2 h).pre fun t q => XT.acmpNo w.here w.hx rfl (hb w.hby hd) rfl hx' hy' (XT.aa_eq_f h) q
theorem g_acmp_ne (w : Wd p l e R s m args below meth c Z a0 n0 kb ws y bytes ml ret T L cells slots) {pc : Nat} {Ls : Array Slot} {x y' : Value} {o : Int} {st : List Value} (hd : decode bytes pc = .ok (.if_acmp .ne o, 3)) (hx' : x.isRef = true) (hy' : y'.isRef = true) (pcT : Nat) (ho : 0 ≤ (pc : Int) + o) (hT : ((pc : Int) + o).toNat = pcT) (pcF : Nat) (hF : pc + 3 = pcF)
    (k1 : ¬ x = y' → Go p e below Z n0 kg E P T (mkF m pcT Ls st)) (k2 : x = y' → Go p e below Z n0 kg E P T (mkF m pcF Ls st)) : Go p e below Z n0 kg E P T (mkF m pc Ls (y' :: x :: st)) := by
  subst hF
  by_cases h : x = y'
  · exact (k2 h).pre fun t q => XT.acmpNo w.here w.hx rfl (hb w.hby hd) rfl hx' hy' (XT.aa_ne_f h) q
  · exact (k1 h).pre fun t q => XT.acmpYes w.here w.hx rfl rfl (hb w.hby hd) rfl hx' hy' (XT.aa_ne_t h) ho hT q
theorem g_ifnullT (w : Wd p l e R s m args below meth c Z a0 n0 kb ws y bytes ml ret T L cells slots) {pc : Nat} {Ls : Array Slot} {o : Int} {st : List Value} (hd : decode bytes pc = .ok (.ifnull o, 3)) (pcT : Nat) (ho : 0 ≤ (pc : Int) + o) (hT : ((pc : Int) + o).toNat = pcT) (k : Go p e below Z n0 kg E P T (mkF m pcT Ls st)) : Go p e below Z n0 kg E P T (mkF m pc Ls (.null :: st)) := k.pre fun t q => XS.ifnullYes w.here w.hx rfl rfl (hb w.hby hd) rfl ho hT q
theorem g_ifnullF (w : Wd p l e R s m args below meth c Z a0 n0 kb ws y bytes ml ret T L cells slots) {pc : Nat} {Ls : Array Slot} {r : Addr} {o : Int} {st : List Value} (hd : decode bytes pc = .ok (.ifnull o, 3)) (pcF : Nat) (hF : pc + 3 = pcF) (k : Go p e below Z n0 kg E P T (mkF m pcF Ls st)) : Go p e below Z n0 kg E P T (mkF m pc Ls (.ref r :: st)) := by
  subst hF
  exact k.pre fun t q => XS.ifnullNo w.here w.hx rfl (hb w.hby hd) rfl q
theorem g_ifnonnullT (w : Wd p l e R s m args below meth c Z a0 n0 kb ws y bytes ml ret T L cells slots) {pc : Nat} {Ls : Array Slot} {r : Addr} {o : Int} {st : List Value} (hd : decode bytes pc = .ok (.ifnonnull o, 3)) (pcT : Nat) (ho : 0 ≤ (pc : Int) + o) (hT : ((pc : Int) + o).toNat = pcT) (k : Go p e below Z n0 kg E P T (mkF m pcT Ls st)) : Go p e below Z n0 kg E P T (mkF m pc Ls (.ref r :: st)) := k.pre fun t q => XT.ifnonnullYes w.here w.hx rfl rfl (hb w.hby hd) rfl ho hT q
theorem g_ifnonnullF (w : Wd p l e R s m args below meth c Z a0 n0 kb ws y bytes ml ret T L cells slots) {pc : Nat} {Ls : Array Slot} {o : Int} {st : List Value} (hd : decode bytes pc = .ok (.ifnonnull o, 3)) (pcF : Nat) (hF : pc + 3 = pcF) (k : Go p e below Z n0 kg E P T (mkF m pcF Ls st)) : Go p e below Z n0 kg E P T (mkF m pc Ls (.null :: st)) := by
  subst hF
  exact k.pre fun t q => XT.ifnonnullNo w.here w.hx rfl (hb w.hby hd) rfl q
/-! ## calls -/
theorem g_initO (w : Wd p l e R s m args below meth c Z a0 n0 kb ws y bytes ml ret T L cells slots) {pc : Nat} {Ls : Array Slot} {st : List Value} {idx : Nat} {a : Addr} (hd : decode bytes pc = .ok (.invokespecial idx, 3)) (k1 : Nat) (hk1 : ws[k1]? = some (.methodLink y.cls idx Lib.objectInit)) (k2 : Nat) (hk2 : ws[k2]? = some (.instanceMethod Lib.objectInit)) (k3 : Nat) (hk3 : ws[k3]? = some (.code Lib.objectInit ⟨#[0xb1]⟩ 1 none))
    (hsz : Ls.size = ml) (hf : 1 ≤ R.frames) (W : Nat) (hW : (st.map fun v => v.category).sum = W) (hl : W + 12 ≤ R.locals) (pc' : Nat) (hp : pc + 3 = pc')
    (kt : ∀ T', Wd p l e R s m args below meth c Z a0 n0 kb ws y bytes ml ret T' L cells slots → Go p e below Z n0 kg E P T' (mkF m pc' Ls st)) : Go p e below Z n0 kg E P T (mkF m pc Ls (.ref a :: st)) := by
  subst hp
  have hk1' := w.hw hk1
  have hk2' := w.hw hk2
  have hk3' := w.hw hk3
  obtain ⟨⟨locs, X, N⟩, H, hx, hZ, hown, hby, hml, hret, hlk, hnm, hws⟩ := w
  obtain ⟨T', X', e', st'⟩ := initO X hx hZ hown hk1' hk2' hk3' rfl (g := mkF m pc Ls (.ref a :: st)) rfl (by rw [hml]; exact hsz) rfl (hb hby hd) hf (W := W) (by show 2 * 0 + _ ≤ _; rw [hW]; omega) hl
  exact (kt T' ⟨⟨locs, X', N⟩, by rw [e']; exact H, hx, hZ, hown, hby, hml, hret, hlk, hnm, hws⟩).pre st'
theorem Con.back {y' : MethodName} {bytes' : ByteArray} {ml' : Nat} {ret' : Option FieldType} {rm : Room} {as' : Array Value} {P' : Option Value → HL → Prop} {h : Heap} {len W : Nat} (C : Con l y' bytes' ml' ret' rm Z n0 as' L P') (H : Hp Z n0 kb h L) (hZ : Z.Warmed39 s.vm) (wc : (Cond.code y' bytes' ml' ret').before a0 Z = true) (wz : (Cond.initialized y'.cls).before a0 Z = true) (hf : rm.frames + 1 ≤ R.frames) (hl : W + (ml' + 11) + rm.locals ≤ R.locals) :
    Back l R p e below s args y' len W (fun A a => a = as' ∧ A.U.heap = h ∧ A.cells + rm.cells ≤ R.cells ∧ A.slots + rm.slots ≤ R.slots)
      (fun A _ v B => ∃ Lc, (Fr n0 Lc ∧ ∃ L', Hp Z n0 kb B.U.heap L' ∧ P' v L') ∧ B.locs = A.locs ++ Lc ∧ B.cells = A.cells + rm.cells ∧ B.slots = A.slots + rm.slots) :=
  backOf (Q := fun v hh Lc => Fr n0 Lc ∧ ∃ L', Hp Z n0 kb hh L' ∧ P' v L') (C [] kb h H) hZ wc wz hf hl
/-- behind a call -/
theorem g_behind {rm : Room} {P' : Option Value → HL → Prop} {pc : Nat} {Ls : Array Slot} {rest : List Value} {v : Option Value} {B : Pt} {locs : List Loc}
    (N : Fr n0 locs) (hx : p.tables.exec = Jvm.exec) (hZ : Z.Warmed39 s.vm) (hown : s.vm.findClass y.cls = some m.cls) (hby : c.code = bytes) (hml : c.maxLocals = ml) (hret : meth.sig.returnType = ret) (hlk : meth.locks = false) (hnm : meth.name = y.name) (hws : ∀ d ∈ ws, d.before a0 Z = true)
    (X' : Stand p l e R s m args below meth c B.U B.locs B.cells B.slots)
    (hQ : ∃ Lc, (Fr n0 Lc ∧ ∃ L', Hp Z n0 kb B.U.heap L' ∧ P' v L') ∧ Pt.locs B = locs ++ Lc ∧ Pt.cells B = cells + rm.cells ∧ Pt.slots B = slots + rm.slots)
    (kt : ∀ T' v L', Wd p l e R s m args below meth c Z a0 n0 kb ws y bytes ml ret T' L' (cells + rm.cells) (slots + rm.slots) → P' v L' → Go p e below Z n0 kg E P T' (mkF m pc Ls (pushV v rest))) :
    Go p e below Z n0 kg E P B.U (mkF m pc Ls (v.toList ++ rest)) := by
  obtain ⟨Lc, ⟨N', L', H', hP⟩, h1, h2, h3⟩ := hQ
  obtain ⟨U, bl, bc, bs⟩ := B
  dsimp only [Pt.U, Pt.locs, Pt.cells, Pt.slots] at h1 h2 h3 X' H' ⊢
  subst h1 h2 h3
  rw [pushV_eq]
  exact kt U v L' ⟨⟨_, X', Fr.app N N'⟩, H', hx, hZ, hown, hby, hml, hret, hlk, hnm, hws⟩ hP
theorem g_static (w : Wd p l e R s m args below meth c Z a0 n0 kb ws y bytes ml ret T L cells slots) {pc : Nat} {Ls : Array Slot} {st : List Value} {idx : Nat} {y' : MethodName} {bytes' : ByteArray} {ml' : Nat} {ret' : Option FieldType} {rm : Room} {P' : Option Value → HL → Prop} {ps : List FieldType} {rt : Option FieldType} {argsL rest : List Value}
    (C : Con l y' bytes' ml' ret' rm Z n0 argsL.toArray L P') (hd : decode bytes pc = .ok (.invokestatic idx, 3)) (k1 : Nat) (hk1 : ws[k1]? = some (.methodLink y.cls idx y')) (k2 : Nat) (hk2 : ws[k2]? = some (.static y')) (k3 : Nat) (hk3 : ws[k3]? = some (.initialized y'.cls)) (k4 : Nat) (hk4 : ws[k4]? = some (.code y' bytes' ml' ret'))
    (hy : y'.cls ≠ "java/lang/invoke/MethodHandle" ∧ y'.cls ≠ "java/lang/invoke/VarHandle") (hpd : parseMethodDescriptor y'.desc = some ⟨ps, rt⟩) (hlen : argsL.length = ps.length) (hst : st = argsL.reverse ++ rest) (hsz : Ls.size = ml) (W : Nat) (hW : (rest.map fun v => v.category).sum = W) (hf : rm.frames + 1 ≤ R.frames) (hl : W + (ml' + 11) + rm.locals ≤ R.locals)
    (hc : cells + rm.cells ≤ R.cells) (hs : slots + rm.slots ≤ R.slots) (pc' : Nat) (hp : pc + 3 = pc')
    (kt : ∀ T' v L', Wd p l e R s m args below meth c Z a0 n0 kb ws y bytes ml ret T' L' (cells + rm.cells) (slots + rm.slots) → P' v L' → Go p e below Z n0 kg E P T' (mkF m pc' Ls (pushV v rest))) : Go p e below Z n0 kg E P T (mkF m pc Ls st) := by
  subst hp hst
  have hk1' := w.hw hk1
  have hk2' := w.hw hk2
  have hk3' := w.hw hk3
  have hk4' := w.hw hk4
  obtain ⟨⟨locs, X, N⟩, H, hx, hZ, hown, hby, hml, hret, hlk, hnm, hws⟩ := w
  obtain ⟨v, vm₁, B, -, X', hQ, st'⟩ := Jvm.LawKit.callS X hx hown (mvT hZ hk1') (mvT hZ hk2') (mvT hZ hk3') (mvT hZ hk4') hy (Con.back C H hZ hk4' hk3' hf hl) (g := mkF m pc Ls (argsL.reverse ++ rest)) rfl (by rw [hml]; exact hsz) (argsL := argsL) (rest := rest) (lenOf hpd hlen) rfl (by show 2 * 0 + _ ≤ _; rw [hW]; omega) (hb hby hd) (fun _ _ => ⟨rfl, rfl, hc, hs⟩)
  exact (g_behind (rm := rm) (P' := P') N hx hZ hown hby hml hret hlk hnm hws X' hQ kt).pre st'
theorem g_ctor (w : Wd p l e R s m args below meth c Z a0 n0 kb ws y bytes ml ret T L cells slots) {pc : Nat} {Ls : Array Slot} {st : List Value} {idx : Nat} {y' : MethodName} {bytes' : ByteArray} {ml' : Nat} {rm : Room} {P' : Option Value → HL → Prop} {ps : List FieldType} {rt : Option FieldType} {a : Addr} {argsL rest : List Value}
    (C : Con l y' bytes' ml' none rm Z n0 (Value.ref a :: argsL).toArray L P') (hd : decode bytes pc = .ok (.invokespecial idx, 3)) (k1 : Nat) (hk1 : ws[k1]? = some (.methodLink y.cls idx y')) (k2 : Nat) (hk2 : ws[k2]? = some (.instanceMethod y')) (k3 : Nat) (hk3 : ws[k3]? = some (.initialized y'.cls)) (k4 : Nat) (hk4 : ws[k4]? = some (.code y' bytes' ml' none))
    (hyn : y'.name = "<init>") (hy : y'.cls ≠ "java/lang/invoke/MethodHandle" ∧ y'.cls ≠ "java/lang/invoke/VarHandle") (hpd : parseMethodDescriptor y'.desc = some ⟨ps, rt⟩) (hlen : argsL.length = ps.length) (hst : st = argsL.reverse ++ .ref a :: rest) (hsz : Ls.size = ml) (W : Nat) (hW : (rest.map fun v => v.category).sum = W) (hf : rm.frames + 1 ≤ R.frames) (hl : W + (ml' + 11) + rm.locals ≤ R.locals)
    (hc : cells + rm.cells ≤ R.cells) (hs : slots + rm.slots ≤ R.slots) (pc' : Nat) (hp : pc + 3 = pc')
    (kt : ∀ T' v L', Wd p l e R s m args below meth c Z a0 n0 kb ws y bytes ml ret T' L' (cells + rm.cells) (slots + rm.slots) → P' v L' → Go p e below Z n0 kg E P T' (mkF m pc' Ls (pushV v rest))) : Go p e below Z n0 kg E P T (mkF m pc Ls st) := by
  subst hp hst
  have hk1' := w.hw hk1
  have hk2' := w.hw hk2
  have hk3' := w.hw hk3
  have hk4' := w.hw hk4
  obtain ⟨⟨locs, X, N⟩, H, hx, hZ, hown, hby, hml, hret, hlk, hnm, hws⟩ := w
  obtain ⟨v, vm₁, B, -, X', hQ, st'⟩ := X.specialBack hx hyn hown (mvT hZ hk1') (mvT hZ hk2') (mvT hZ hk4') hy (Con.back C H hZ hk4' hk3' hf hl) (g := mkF m pc Ls (argsL.reverse ++ .ref a :: rest)) rfl (by rw [hml]; exact hsz) (Steps.refl _) (a := a) (argsL := argsL) (rest := rest) (lenOf hpd hlen) rfl (by show 2 * 0 + _ ≤ _; rw [hW]; omega) (hb hby hd) (fun _ _ => ⟨rfl, rfl, hc, hs⟩)
  exact (g_behind (rm := rm) (P' := P') N hx hZ hown hby hml hret hlk hnm hws X' hQ kt).pre fun t q => st'.trans q
theorem g_virt (w : Wd p l e R s m args below meth c Z a0 n0 kb ws y bytes ml ret T L cells slots) {pc : Nat} {Ls : Array Slot} {st : List Value} {idx : Nat} {y' : MethodName} {bytes' : ByteArray} {ml' : Nat} {ret' : Option FieldType} {rm : Room} {P' : Option Value → HL → Prop} {ps : List FieldType} {rt : Option FieldType} {a : Addr} {Cn : String} {fs : List FldE} {argsL rest : List Value}
    (C : Con l y' bytes' ml' ret' rm Z n0 (Value.ref a :: argsL).toArray L P') (hd : decode bytes pc = .ok (.invokevirtual idx, 3)) (i : Nat) (hi : L[i]? = some (a, .inl (Cn, fs))) (k1 : Nat) (hk1 : ws[k1]? = some (.methodLink y.cls idx y')) (k2 : Nat) (hk2 : ws[k2]? = some (.declares y')) (k3 : Nat) (hk3 : ws[k3]? = some (.initialized y'.cls)) (k4 : Nat) (hk4 : ws[k4]? = some (.code y' bytes' ml' ret'))
    (k5 : Nat) (hk5 : ws[k5]? = some (.selects Cn y' y')) (k6 : Nat) (hk6 : ws[k6]? = some (.instanceMethod y'))
    (hy : y'.cls ≠ "java/lang/invoke/MethodHandle" ∧ y'.cls ≠ "java/lang/invoke/VarHandle") (hpd : parseMethodDescriptor y'.desc = some ⟨ps, rt⟩) (hlen : argsL.length = ps.length) (hst : st = argsL.reverse ++ .ref a :: rest) (hsz : Ls.size = ml) (W : Nat) (hW : (rest.map fun v => v.category).sum = W) (hf : rm.frames + 1 ≤ R.frames) (hl : W + (ml' + 11) + rm.locals ≤ R.locals)
    (hc : cells + rm.cells ≤ R.cells) (hs : slots + rm.slots ≤ R.slots) (pc' : Nat) (hp : pc + 3 = pc')
    (kt : ∀ T' v L', Wd p l e R s m args below meth c Z a0 n0 kb ws y bytes ml ret T' L' (cells + rm.cells) (slots + rm.slots) → P' v L' → Go p e below Z n0 kg E P T' (mkF m pc' Ls (pushV v rest))) : Go p e below Z n0 kg E P T (mkF m pc Ls st) := by
  subst hp hst
  have hk1' := w.hw hk1
  have hk2' := w.hw hk2
  have hk3' := w.hw hk3
  have hk4' := w.hw hk4
  have hk5' := w.hw hk5
  have hk6' := w.hw hk6
  obtain ⟨⟨locs, X, N⟩, H, hx, hZ, hown, hby, hml, hret, hlk, hnm, hws⟩ := w
  obtain ⟨cq, kq, qa, qb, qc⟩ := isOf hZ rfl (H.obj hi).1
  obtain ⟨v, vm₁, B, -, X', hQ, st'⟩ := X.virtualBack hx (y := y') (z := y') hown (mvT hZ hk1') (mvT hZ hk2') (notFace_of_selects (args := #[]) (mvT hZ hk5')) (mvT hZ hk5') (mvT hZ hk6') hy (Con.back C H hZ hk4' hk3' hf hl) qa qc (g := mkF m pc Ls (argsL.reverse ++ .ref a :: rest)) rfl (by rw [hml]; exact hsz) (Steps.refl _) (argsL := argsL) (rest := rest) (lenOf hpd hlen) rfl (by show 2 * 0 + _ ≤ _; rw [hW]; omega) (hb hby hd) (fun _ _ => ⟨rfl, rfl, hc, hs⟩)
  exact (g_behind (rm := rm) (P' := P') N hx hZ hown hby hml hret hlk hnm hws X' hQ kt).pre fun t q => st'.trans q
theorem g_virtO (w : Wd p l e R s m args below meth c Z a0 n0 kb ws y bytes ml ret T L cells slots) {pc : Nat} {Ls : Array Slot} {st : List Value} {idx : Nat} {y' : MethodName} {bytes' : ByteArray} {ml' : Nat} {ret' : Option FieldType} {rm : Room} {P' : Option Value → HL → Prop} {ps : List FieldType} {rt : Option FieldType} {a : Addr} {Cn : String} {argsL rest : List Value}
    (C : Con l y' bytes' ml' ret' rm Z n0 (Value.ref a :: argsL).toArray L P') (hd : decode bytes pc = .ok (.invokevirtual idx, 3)) (EO : Exa Z Z.heap a Cn) (k1 : Nat) (hk1 : ws[k1]? = some (.methodLink y.cls idx y')) (k2 : Nat) (hk2 : ws[k2]? = some (.declares y')) (k3 : Nat) (hk3 : ws[k3]? = some (.initialized y'.cls)) (k4 : Nat) (hk4 : ws[k4]? = some (.code y' bytes' ml' ret'))
    (k5 : Nat) (hk5 : ws[k5]? = some (.selects Cn y' y')) (k6 : Nat) (hk6 : ws[k6]? = some (.instanceMethod y'))
    (hy : y'.cls ≠ "java/lang/invoke/MethodHandle" ∧ y'.cls ≠ "java/lang/invoke/VarHandle") (hpd : parseMethodDescriptor y'.desc = some ⟨ps, rt⟩) (hlen : argsL.length = ps.length) (hst : st = argsL.reverse ++ .ref a :: rest) (hsz : Ls.size = ml) (W : Nat) (hW : (rest.map fun v => v.category).sum = W) (hf : rm.frames + 1 ≤ R.frames) (hl : W + (ml' + 11) + rm.locals ≤ R.locals)
    (hc : cells + rm.cells ≤ R.cells) (hs : slots + rm.slots ≤ R.slots) (pc' : Nat) (hp : pc + 3 = pc')
    (kt : ∀ T' v L', Wd p l e R s m args below meth c Z a0 n0 kb ws y bytes ml ret T' L' (cells + rm.cells) (slots + rm.slots) → P' v L' → Go p e below Z n0 kg E P T' (mkF m pc' Ls (pushV v rest))) : Go p e below Z n0 kg E P T (mkF m pc Ls st) := by
  subst hp hst
  have hk1' := w.hw hk1
  have hk2' := w.hw hk2
  have hk3' := w.hw hk3
  have hk4' := w.hw hk4
  have hk5' := w.hw hk5
  have hk6' := w.hw hk6
  obtain ⟨⟨locs, X, N⟩, H, hx, hZ, hown, hby, hml, hret, hlk, hnm, hws⟩ := w
  obtain ⟨cq, kq, qa, qb, qc⟩ := isOf hZ rfl (EO.ext H.old)
  obtain ⟨v, vm₁, B, -, X', hQ, st'⟩ := X.virtualBack hx (y := y') (z := y') hown (mvT hZ hk1') (mvT hZ hk2') (notFace_of_selects (args := #[]) (mvT hZ hk5')) (mvT hZ hk5') (mvT hZ hk6') hy (Con.back C H hZ hk4' hk3' hf hl) qa qc (g := mkF m pc Ls (argsL.reverse ++ .ref a :: rest)) rfl (by rw [hml]; exact hsz) (Steps.refl _) (argsL := argsL) (rest := rest) (lenOf hpd hlen) rfl (by show 2 * 0 + _ ≤ _; rw [hW]; omega) (hb hby hd) (fun _ _ => ⟨rfl, rfl, hc, hs⟩)
  exact (g_behind (rm := rm) (P' := P') N hx hZ hown hby hml hret hlk hnm hws X' hQ kt).pre fun t q => st'.trans q
theorem g_priv (w : Wd p l e R s m args below meth c Z a0 n0 kb ws y bytes ml ret T L cells slots) {pc : Nat} {Ls : Array Slot} {st : List Value} {idx nI : Nat} {y' : MethodName} {bytes' : ByteArray} {ml' : Nat} {ret' : Option FieldType} {rm : Room} {P' : Option Value → HL → Prop} {ps : List FieldType} {rt : Option FieldType} {a : Addr} {Cn : String} {fs : List FldE} {argsL rest : List Value}
    (C : Con l y' bytes' ml' ret' rm Z n0 (Value.ref a :: argsL).toArray L P') (hd : decode bytes pc = .ok (.invokevirtual idx, 3)) (i : Nat) (hi : L[i]? = some (a, .inl (Cn, fs))) (k1 : Nat) (hk1 : ws[k1]? = some (.methodLink y.cls idx y')) (k2 : Nat) (hk2 : ws[k2]? = some (.instanceMethod y')) (k3 : Nat) (hk3 : ws[k3]? = some (.initialized y'.cls)) (k4 : Nat) (hk4 : ws[k4]? = some (.code y' bytes' ml' ret'))
    (k5 : Nat) (hk5 : ws[k5]? = some (.privateMethod y')) (k6 : Nat) (hk6 : ws[k6]? = some (.instantiable y'.cls nI))
    (hy : y'.cls ≠ "java/lang/invoke/MethodHandle" ∧ y'.cls ≠ "java/lang/invoke/VarHandle") (hpd : parseMethodDescriptor y'.desc = some ⟨ps, rt⟩) (hlen : argsL.length = ps.length) (hst : st = argsL.reverse ++ .ref a :: rest) (hsz : Ls.size = ml) (W : Nat) (hW : (rest.map fun v => v.category).sum = W) (hf : rm.frames + 1 ≤ R.frames) (hl : W + (ml' + 11) + rm.locals ≤ R.locals)
    (hc : cells + rm.cells ≤ R.cells) (hs : slots + rm.slots ≤ R.slots) (pc' : Nat) (hp : pc + 3 = pc')
    (kt : ∀ T' v L', Wd p l e R s m args below meth c Z a0 n0 kb ws y bytes ml ret T' L' (cells + rm.cells) (slots + rm.slots) → P' v L' → Go p e below Z n0 kg E P T' (mkF m pc' Ls (pushV v rest))) : Go p e below Z n0 kg E P T (mkF m pc Ls st) := by
  subst hp hst
  have hk1' := w.hw hk1
  have hk2' := w.hw hk2
  have hk3' := w.hw hk3
  have hk4' := w.hw hk4
  have hk5' := w.hw hk5
  have hk6' := w.hw hk6
  obtain ⟨⟨locs, X, N⟩, H, hx, hZ, hown, hby, hml, hret, hlk, hnm, hws⟩ := w
  obtain ⟨cl, hcl, hst0⟩ := (H.obj hi).1.cell
  have hpa : s.PrivateAt y' := Cond.privateMethod_at (mvP hZ hk5' (args := #[]))
  have hin : (Cond.instanceMethod y').before args s = true := mvT hZ hk2'
  have hic : (Cond.instantiable y'.cls nI).before args s = true := mvT hZ hk6'
  obtain ⟨cI, kI, i1, i2, i3, i4, -⟩ := Cond.instantiable_spec hic
  have hsel : (Cond.selects y'.cls y' y').before args s = true := selects_self_of_private i1 i2 (Bool.or_eq_false_iff.mp i4).1 hpa hin hy
  obtain ⟨v, vm₁, B, -, X', hQ, st'⟩ := X.privateBack hx (y := y') hown (mvT hZ hk1') hin hsel hpa (mvT hZ hk4') hy (Con.back C H hZ hk4' hk3' hf hl) (g := mkF m pc Ls (argsL.reverse ++ .ref a :: rest)) rfl (by rw [hml]; exact hsz) (Steps.refl _) (a := a) hcl hst0 (argsL := argsL) (rest := rest) (lenOf hpd hlen) rfl (by show 2 * 0 + _ ≤ _; rw [hW]; omega) (hb hby hd) (fun _ _ => ⟨rfl, rfl, hc, hs⟩)
  exact (g_behind (rm := rm) (P' := P') N hx hZ hown hby hml hret hlk hnm hws X' hQ kt).pre fun t q => st'.trans q
/-! ## from the case's words to the contract of the law -/
theorem fr_end {Lc : List Loc} {v : Option Value} {u : State} (N : Fr s.heap.size Lc) (hq : FrameEnd s (.returned v) u Lc kc ks) (L0 : List Loc) {kc' ks' : Nat} (h1 : kc ≤ kc') (h2 : ks ≤ ks') : FrameEnd s (.returned v) u L0 kc' ks' :=
  ⟨hq.1, hq.2.1, (hq.2.2.sift fun y hy => Or.inr (N y hy)).mono h1 h2⟩
end Walk
end Jvm.OwnW
/-! ## cells out of sight, counts raised, dup_x2, System.arraycopy -/
namespace Jvm.OwnW
open Jvm Jvm.ClassFile Sem Op Lib Jvm.Free Jvm.Stand Jvm.LawKit Jvm.RoadKit
section More
variable {p : Program} {l : Launch} {e : Env} {R : Room} {s : State} {m : MethodId} {args : Array Value} {below : List Frame} {meth : Method} {c : Code} {Z : State} {a0 : Array Value} {n0 kb kg : Nat} {ws : List Cond} {y : MethodName} {bytes : ByteArray} {ml : Nat} {ret : Option FieldType} {T T' : State} {L : HL} {cells slots : Nat} {P : Option Value → HL → Prop} {E : Option Value → State → List Loc → Prop} {kc ks : Nat} {h h' : Heap} {a b : Addr} {o : Obj}
theorem Hp.cut {L' R : HL} (H : Hp Z n0 kb h (L' ++ R)) : Hp Z n0 kb h L' := by
  have up : ∀ {i : Nat} {q : Addr × Obj}, L'[i]? = some q → (L' ++ R)[i]? = some q := fun q => by
    rw [List.getElem?_append_left (List.getElem?_eq_some_iff.mp q).1]; exact q
  exact ⟨H.1, fun i a o q => H.2.1 i a o (up q), fun i j a o o' q q' => H.2.2 i j a o o' (up q) (up q')⟩
theorem Wd.cut {L' R' : HL} (w : Wd p l e R s m args below meth c Z a0 n0 kb ws y bytes ml ret T L cells slots) (q : L = L' ++ R') : Wd p l e R s m args below meth c Z a0 n0 kb ws y bytes ml ret T L' cells slots := ⟨w.1, (q ▸ w.2.1).cut, w.2.2⟩
theorem Wd.more {c' s' : Nat} (w : Wd p l e R s m args below meth c Z a0 n0 kb ws y bytes ml ret T L cells slots) (hc : cells ≤ c') (hs : slots ≤ s') : Wd p l e R s m args below meth c Z a0 n0 kb ws y bytes ml ret T L c' s' := by
  obtain ⟨⟨locs, X, N⟩, r⟩ := w
  exact ⟨⟨locs, { X with same := X.same.mono hc hs }, N⟩, r⟩
theorem Is.keep {wr : List Addr} (F : Is Z h b o) (K : Keep h h' wr) (q : b ∉ wr) : Is Z h' b o := by
  rcases o with ⟨C, fs⟩ | ⟨ty, vs⟩
  · exact ⟨F.1.keep K, fun f hf => (F.2.1 f hf).keep K q, F.2.2⟩
  · obtain ⟨c, A, X, r⟩ := F; exact ⟨c, ⟨K.2.1 _ _ A.1 q, A.2⟩, X.keep K, r⟩
theorem Hp.keep {o' : Obj} (H : Hp Z n0 kb h L) {i : Nat} (q : L[i]? = some (a, o)) (K : Keep h h' [a]) (F : Is Z h' a o') : Hp Z n0 kb h' (L.set i (a, o')) := by
  have at' : ∀ {j : Nat} {b : Addr} {o2 : Obj}, (L.set i (a, o'))[j]? = some (b, o2) → (j = i ∧ b = a ∧ o2 = o') ∨ (j ≠ i ∧ L[j]? = some (b, o2)) := by
    intro j b o2 r
    by_cases hj : j = i
    · subst hj
      rw [List.getElem?_set_self (List.getElem?_eq_some_iff.mp q).1] at r
      simp at r
      exact Or.inl ⟨rfl, r.1.symm, r.2.symm⟩
    · rw [List.getElem?_set_ne (Ne.symm hj)] at r
      exact Or.inr ⟨hj, r⟩
  refine ⟨⟨H.1.1.keep K fun x hx => by cases List.mem_singleton.mp hx; exact H.ge q, Nat.le_trans H.1.2 K.1⟩, fun j b o2 r => ?_, fun j j' b o1 o2 r1 r2 => ?_⟩
  · rcases at' r with ⟨rfl, rfl, rfl⟩ | ⟨hj, r'⟩
    · exact ⟨H.ge q, F⟩
    · exact ⟨H.ge r', (H.at r').keep K fun e => hj (by have e := List.mem_singleton.mp e; subst e; exact H.2.2 _ _ _ _ _ r' q)⟩
  · rcases at' r1 with ⟨rfl, rfl, rfl⟩ | ⟨n1, r1'⟩ <;> rcases at' r2 with ⟨rfl, e2, -⟩ | ⟨n2, r2'⟩
    · rfl
    · exact absurd (H.2.2 _ _ _ _ _ r2' q) n2
    · subst e2; exact absurd (H.2.2 _ _ _ _ _ r1' q) n1
    · exact H.2.2 _ _ _ _ _ r1' r2'
theorem st_dup_x2 {tb : Tables} [Ours tb] {target : State} {g : JFrame} (h : At T m c below) (hx : tb.exec = Jvm.exec) (hg : g.method = m) {x y z : Value} {rest : List Value} (hd : decode c.code g.pc = .ok (.dup_x2, 1)) (hs : g.stack = x :: y :: z :: rest) (hc : x.category = 1) (hc' : y.category = 1) (hc'' : z.category = 1)
    (hr : Steps tb e below (T.setTop { g with pc := g.pc + 1, stack := x :: y :: z :: x :: rest }) target) : Steps tb e below (T.setTop g) target := by
  subst hg
  jvm_step h [h.top, hx, hd, hs, hc, hc', hc'']
  exact hr
theorem g_dup_x2 (w : Wd p l e R s m args below meth c Z a0 n0 kb ws y bytes ml ret T L cells slots) {pc : Nat} {Ls : Array Slot} {x x' x'' : Value} {st : List Value} (hd : decode bytes pc = .ok (.dup_x2, 1)) (hc : x.category = 1) (hc' : x'.category = 1) (hc'' : x''.category = 1) (pc' : Nat) (hp : pc + 1 = pc')
    (k : Go p e below Z n0 kg E P T (mkF m pc' Ls (x :: x' :: x'' :: x :: st))) : Go p e below Z n0 kg E P T (mkF m pc Ls (x :: x' :: x'' :: st)) := by
  subst hp
  exact k.pre fun t q => st_dup_x2 w.here w.hx rfl (hb w.hby hd) rfl hc hc' hc'' q
theorem arv_of {ty : FieldType} {vs : List Value} {cl : Cell} (A : Arr Z h a cl ty) (ev : cl.slots.toList = vs) (hl : vs.length < 2 ^ 31) (f : ∀ v ∈ vs, fits ty v = true) : ∃ z : Int32, z.toNatClampNeg = vs.length ∧ Arv Z h a cl.cls ty z vs .null := by
  have sz : cl.slots.size = vs.length := by rw [← ev]; simp
  have e1 : (Nat.toInt32 vs.length).toNatClampNeg = vs.length := by simp only [Int32.toNatClampNeg, len_toInt hl]; rfl
  refine ⟨Nat.toInt32 vs.length, e1, cl, A, rfl, by rw [e1, sz], ?_, fun k hk => ?_, fun i hi => ?_⟩
  · rw [Int32.lt_iff_toInt_lt, len_toInt hl]; have : (0 : Int32).toInt = 0 := rfl; omega
  · rw [sz] at hk
    have : cl.slots[k]? = vs[k]? := by rw [← ev]; simp
    rw [this, List.getD_eq_getElem?_getD, List.getElem?_eq_getElem hk]; rfl
  · rw [sz] at hi
    rw [List.getD_eq_getElem?_getD, List.getElem?_eq_getElem hi]; exact f _ (List.getElem_mem hi)
theorem g_acopy (w : Wd p l e R s m args below meth c Z a0 n0 kb ws y bytes ml ret T L cells slots) {pc : Nat} {Ls : Array Slot} {st : List Value} {ty : FieldType} {vs vd : List Value} {idx : Nat} {nn : Int32} (hd : decode bytes pc = .ok (.invokestatic idx, 3)) (i : Nat) (hi : L[i]? = some (a, .inr (ty, vs))) (j : Nat) (hj : L[j]? = some (b, .inr (ty, vd)))
    (k1 : Nat) (hk1 : ws[k1]? = some (.methodLink y.cls idx ⟨"java/lang/System", "arraycopy", "(Ljava/lang/Object;ILjava/lang/Object;II)V"⟩)) (k2 : Nat) (hk2 : ws[k2]? = some (.native ⟨"java/lang/System", "arraycopy", "(Ljava/lang/Object;ILjava/lang/Object;II)V"⟩)) (k3 : Nat) (hk3 : ws[k3]? = some (.static ⟨"java/lang/System", "arraycopy", "(Ljava/lang/Object;ILjava/lang/Object;II)V"⟩)) (k4 : Nat) (hk4 : ws[k4]? = some (.initialized "java/lang/System"))
    (hr : refKind ty = false) (n : Nat) (hn : nn.toInt = (n : Int)) (h1 : n ≤ vs.length) (h2 : n ≤ vd.length) (f1 : ∀ v ∈ vs, fits ty v = true) (f2 : ∀ v ∈ vd, fits ty v = true) (hsz : Ls.size = ml) (hf : 1 ≤ R.frames) (W : Nat) (hW : (st.map fun v => v.category).sum = W) (hl : W + 18 ≤ R.locals)
    (new : List Value) (hnew : vs.take n ++ vd.drop n = new) (pc' : Nat) (hp : pc + 3 = pc')
    (kt : ∀ T', Wd p l e R s m args below meth c Z a0 n0 kb ws y bytes ml ret T' (L.set j (b, .inr (ty, new))) cells slots → Go p e below Z n0 kg E P T' (mkF m pc' Ls st)) : Go p e below Z n0 kg E P T (mkF m pc Ls (.int nn :: .int 0 :: .ref b :: .int 0 :: .ref a :: st)) := by
  subst hp hnew
  have hk1' := w.hw hk1
  have hk2' := w.hw hk2
  have hk3' := w.hw hk3
  have hk4' := w.hw hk4
  obtain ⟨⟨locs, X, N⟩, H, hx, hZ, hown, hby, hml, hret, hlk, hnm, hws⟩ := w
  obtain ⟨ca, A, XA, ea, la⟩ := H.arr hi
  obtain ⟨cb, B, XB, eb, lb⟩ := H.arr hj
  obtain ⟨z, hz, AA⟩ := arv_of A ea la f1
  obtain ⟨z', hz', BB⟩ := arv_of B eb lb f2
  have n0' : (0 : Int32).toNatClampNeg = 0 := rfl
  have nn' : nn.toNatClampNeg = n := by simp only [Int32.toNatClampNeg, hn]; rfl
  have k0 : (0 : Int32).toInt = 0 := rfl
  obtain ⟨T', h', L', X', e', N', K, A', st'⟩ := cpA X hx hZ hown hk1' hk2' hk3' hk4' rfl AA BB (us := (List.range nn.toNatClampNeg).map fun i => vs.getD ((0 : Int32).toNatClampNeg + i) .null) (Or.inl ⟨rfl, hr⟩) (sp := 0) (dp := 0) (nn := nn) (by decide) (by decide) (by rw [Int32.lt_iff_toInt_lt, hn, k0]; omega) (by rw [n0', nn', hz]; omega) (by rw [n0', nn', hz']; omega) rfl (by rw [n0', nn']; omega) N (H.ge hj)
    (g := mkF m pc Ls (.int nn :: .int 0 :: .ref b :: .int 0 :: .ref a :: st)) rfl (by rw [hml]; exact hsz) (rest := st) rfl (hb hby hd) hf (W := W) (by show 2 * 0 + _ ≤ _; rw [hW]; omega) hl
  refine (kt T' ⟨⟨_, X', N'⟩, ?_, hx, hZ, hown, hby, hml, hret, hlk, hnm, hws⟩).pre st'
  rw [e']
  obtain ⟨c', C1, C2, C3, C4, C5, C6⟩ := A'
  rw [n0', nn'] at C5
  have us' : ((List.range n).map fun i => vs.getD (0 + i) .null) = vs.take n := by
    refine List.ext_getElem? fun k => ?_
    rw [List.getElem?_map, List.getElem?_take]
    by_cases hk : k < n
    · rw [if_pos hk, List.getElem?_range hk, List.getElem?_eq_getElem (show k < vs.length by omega)]
      simp only [Option.map_some, Nat.zero_add]
      rw [List.getD_eq_getElem?_getD, List.getElem?_eq_getElem (show k < vs.length by omega)]; rfl
    · rw [if_neg hk, List.getElem?_eq_none (by simpa using Nat.not_lt.mp hk)]; rfl
  rw [us', List.take_zero, List.nil_append, Nat.zero_add] at C5
  have len : (vs.take n ++ vd.drop n).length = vd.length := by rw [List.length_append, List.length_take, List.length_drop]; omega
  have sz : c'.slots.size = vd.length := by rw [C3, hz']
  refine H.keep hj K ⟨c', C1, XB.keep K, ?_, by rw [len]; exact lb⟩
  refine List.ext_getElem? fun k => ?_
  by_cases hk : k < vd.length
  · have q := C5 k (by rw [sz]; exact hk)
    rw [List.getD_eq_getElem?_getD, List.getElem?_eq_getElem (show k < (vs.take n ++ vd.drop n).length by rw [len]; exact hk)] at q
    rw [List.getElem?_eq_getElem (show k < (vs.take n ++ vd.drop n).length by rw [len]; exact hk)]
    simpa using q
  · rw [List.getElem?_eq_none (by rw [Array.length_toList, sz]; omega), List.getElem?_eq_none (by rw [len]; omega)]
end More
end Jvm.OwnW
namespace Jvm.Pilot.@@N@@
open Jvm Jvm.ClassFile Sem Op Lib Jvm.Free Jvm.Stand Jvm.LawKit Jvm.RoadKit Bundle Jvm.OwnW Jvm.Pilot.@@N@@.Jvm.D
/-- the groups listed so far: four places to a group, its kind -/
def own_G (c : Nat) (ms ks : List Value) : Prop :=
  ms.length = 64 ∧ ks.length = 16 ∧ (∀ q, q < 4 * c → ∃ z : Int32, ms[q]? = some (.int z) ∧ ((0 ≤ z.toInt ∧ z.toInt ≤ 3) ∨ (q % 4 = 3 ∧ z.toInt = -1))) ∧ ∀ g, g < c → ∃ z : Int32, ks[g]? = some (.int z) ∧ 0 ≤ z.toInt ∧ z.toInt ≤ 4
theorem own_G_le {c d : Nat} {ms ks : List Value} (h : own_G d ms ks) (q : c ≤ d) : own_G c ms ks := ⟨h.1, h.2.1, fun i hi => h.2.2.1 i (by omega), fun i hi => h.2.2.2 i (by omega)⟩
theorem own_G_0 : own_G 0 (List.replicate 64 (.int (0 : Int32))) (List.replicate 16 (.int (0 : Int32))) := ⟨by simp, by simp, fun i hi => by omega, fun i hi => by omega⟩
theorem own_K {c : Nat} {ks : List Value} {k : Int32} (hl : ks.length = 16) (h : ∀ g, g < c → ∃ z : Int32, ks[g]? = some (.int z) ∧ 0 ≤ z.toInt ∧ z.toInt ≤ 4) (hc : c < 16) (k0 : 0 ≤ k.toInt) (k4 : k.toInt ≤ 4) : ∀ g, g < c + 1 → ∃ z : Int32, (ks.set c (.int k))[g]? = some (.int z) ∧ 0 ≤ z.toInt ∧ z.toInt ≤ 4 := by
  intro g hg
  by_cases e : c = g
  · subst e; exact ⟨k, List.getElem?_set_self (by rw [hl]; exact hc), k0, k4⟩
  · rw [List.getElem?_set_ne e]; exact h g (by omega)
def own_in (z : Int32) : Prop := 0 ≤ z.toInt ∧ z.toInt ≤ 3
theorem own_G3 {c : Nat} {ms ks : List Value} {z0 z1 z2 k : Int32} (h : own_G c ms ks) (hc : c < 16) (h0 : own_in z0) (h1 : own_in z1) (h2 : own_in z2) (k0 : 0 ≤ k.toInt) (k4 : k.toInt ≤ 4) :
    own_G (c + 1) ((((ms.set (4 * c + 3) (.int (-1 : Int32))).set (4 * c) (.int z0)).set (4 * c + 1) (.int z1)).set (4 * c + 1 + 1) (.int z2)) (ks.set c (.int k)) := by
  refine ⟨by simpa using h.1, by simpa using h.2.1, fun q hq => ?_, own_K h.2.1 h.2.2.2 hc k0 k4⟩
  have l := h.1
  rcases (by omega : q < 4 * c ∨ q = 4 * c ∨ q = 4 * c + 1 ∨ q = 4 * c + 1 + 1 ∨ q = 4 * c + 3) with e | rfl | rfl | rfl | rfl
  · rw [List.getElem?_set_ne (by omega), List.getElem?_set_ne (by omega), List.getElem?_set_ne (by omega), List.getElem?_set_ne (by omega)]
    exact h.2.2.1 q e
  · rw [List.getElem?_set_ne (by omega), List.getElem?_set_ne (by omega)]
    exact ⟨z0, List.getElem?_set_self (by simp only [List.length_set, l]; omega), Or.inl h0⟩
  · rw [List.getElem?_set_ne (by omega)]
    exact ⟨z1, List.getElem?_set_self (by simp only [List.length_set, l]; omega), Or.inl h1⟩
  · exact ⟨z2, List.getElem?_set_self (by simp only [List.length_set, l]; omega), Or.inl h2⟩
  · rw [List.getElem?_set_ne (by omega), List.getElem?_set_ne (by omega), List.getElem?_set_ne (by omega)]
    exact ⟨-1, List.getElem?_set_self (by simp only [List.length_set, l]; omega), Or.inr ⟨by omega, rfl⟩⟩
theorem own_G4 {c : Nat} {ms ks : List Value} {z0 z1 z2 z3 k : Int32} (h : own_G c ms ks) (hc : c < 16) (h0 : own_in z0) (h1 : own_in z1) (h2 : own_in z2) (h3 : own_in z3) (k0 : 0 ≤ k.toInt) (k4 : k.toInt ≤ 4) :
    own_G (c + 1) (((((ms.set (4 * c + 3) (.int (-1 : Int32))).set (4 * c) (.int z0)).set (4 * c + 1) (.int z1)).set (4 * c + 1 + 1) (.int z2)).set (4 * c + 1 + 1 + 1) (.int z3)) (ks.set c (.int k)) := by
  refine ⟨by simpa using h.1, by simpa using h.2.1, fun q hq => ?_, own_K h.2.1 h.2.2.2 hc k0 k4⟩
  have l := h.1
  rcases (by omega : q < 4 * c ∨ q = 4 * c ∨ q = 4 * c + 1 ∨ q = 4 * c + 1 + 1 ∨ q = 4 * c + 1 + 1 + 1) with e | rfl | rfl | rfl | rfl
  · rw [List.getElem?_set_ne (by omega), List.getElem?_set_ne (by omega), List.getElem?_set_ne (by omega), List.getElem?_set_ne (by omega), List.getElem?_set_ne (by omega)]
    exact h.2.2.1 q e
  · rw [List.getElem?_set_ne (by omega), List.getElem?_set_ne (by omega), List.getElem?_set_ne (by omega)]
    exact ⟨z0, List.getElem?_set_self (by simp only [List.length_set, l]; omega), Or.inl h0⟩
  · rw [List.getElem?_set_ne (by omega), List.getElem?_set_ne (by omega)]
    exact ⟨z1, List.getElem?_set_self (by simp only [List.length_set, l]; omega), Or.inl h1⟩
  · rw [List.getElem?_set_ne (by omega)]
    exact ⟨z2, List.getElem?_set_self (by simp only [List.length_set, l]; omega), Or.inl h2⟩
  · exact ⟨z3, List.getElem?_set_self (by simp only [List.length_set, l]; omega), Or.inl h3⟩
theorem own_inc {z : Int32} {n : Nat} (h : z.toInt = (n : Int)) (q : n < 1000) : (z + 1).toInt = ((n + 1 : Nat) : Int) := by
  have a := c_iadd z 1
  have b := (z + 1).toInt_lt
  have c := (z + 1).le_toInt
  have k1 : (1 : Int32).toInt = 1 := rfl
  omega
theorem own_add3 {z : Int32} {n : Nat} (h : z.toInt = (n : Int)) (q : n < 1000) : (z + 3).toInt = ((n + 3 : Nat) : Int) := by
  have a := c_iadd z 3
  have b := (z + 3).toInt_lt
  have c := (z + 3).le_toInt
  have k1 : (3 : Int32).toInt = 3 := rfl
  omega
theorem own_add4 {z : Int32} {n : Nat} (h : z.toInt = (n : Int)) (q : n < 1000) : (z + 4).toInt = ((n + 4 : Nat) : Int) := by
  have a := c_iadd z 4
  have b := (z + 4).toInt_lt
  have c := (z + 4).le_toInt
  have k1 : (4 : Int32).toInt = 4 := rfl
  omega
theorem own_mul4 {z : Int32} {n : Nat} (h : z.toInt = (n : Int)) (q : n < 1000) : (4 * z).toInt = ((4 * n : Nat) : Int) := by
  have a := c_imul 4 z
  have b := (4 * z).toInt_lt
  have c := (4 * z).le_toInt
  rw [show (4 : Int32).toInt = 4 from rfl, h] at a
  omega
theorem own_eqN {a b : Int32} {n k : Nat} (h1 : a.toInt = (n : Int)) (h2 : b.toInt = (k : Int)) : a = b ↔ n = k := by
  rw [← Int32.toInt_inj, h1, h2]
  omega
theorem own_ltN {a b : Int32} {n k : Nat} (h1 : a.toInt = (n : Int)) (h2 : b.toInt = (k : Int)) : a < b ↔ n < k := by
  rw [Int32.lt_iff_toInt_lt, h1, h2]
  omega
theorem own_ltL {a b : Int64} {A B : Int} (h1 : a.toInt = A) (h2 : b.toInt = B) : a < b ↔ A < B := by rw [Int64.lt_iff_toInt_lt, h1, h2]
theorem own_ladd {a b : Int64} {A B : Int} (h1 : a.toInt = A) (h2 : b.toInt = B) (q1 : -1000 ≤ A) (q2 : A ≤ 1000) (q3 : -1000 ≤ B) (q4 : B ≤ 1000) : (a + b).toInt = A + B := by
  have x := c_ladd a b
  have y := (a + b).toInt_lt
  have z := (a + b).le_toInt
  omega
theorem own_lsub {a b : Int64} {A B : Int} (h1 : a.toInt = A) (h2 : b.toInt = B) (q1 : -1000 ≤ A) (q2 : A ≤ 1000) (q3 : -1000 ≤ B) (q4 : B ≤ 1000) : (a - b).toInt = A - B := by
  have x := c_lsub a b
  have y := (a - b).toInt_lt
  have z := (a - b).le_toInt
  omega
theorem own_lneg {a : Int64} {A : Int} (h1 : a.toInt = A) (q1 : -1000 ≤ A) (q2 : A ≤ 1000) : (-a).toInt = -A := by
  have x := c_lneg a
  have y := (-a).toInt_lt
  have z := (-a).le_toInt
  omega
def own_A (x0 x1 x2 x3 : Int64) : Prop := -20 ≤ x0.toInt ∧ x0.toInt ≤ x1.toInt ∧ x1.toInt ≤ x2.toInt ∧ x2.toInt ≤ x3.toInt ∧ x3.toInt ≤ 20 ∧ x0.toInt ≠ 0 ∧ x1.toInt ≠ 0 ∧ x2.toInt ≠ 0 ∧ x3.toInt ≠ 0
def own_zn (s : Int) : Nat := if s = 0 then 1 else 0
theorem own_zn_c (s : Int) : (own_zn s = 1 ∧ s = 0) ∨ (own_zn s = 0 ∧ s ≠ 0) := by
  unfold own_zn
  by_cases h : s = 0
  · exact Or.inl ⟨if_pos h, h⟩
  · exact Or.inr ⟨if_neg h, h⟩
/-- a group's place's item; -1 where there is none -/
def own_m (ms : List Value) (q : Nat) : Int := match ms[q]? with | some (.int z) => z.toInt | _ => -1
theorem own_m_at {ms : List Value} {q : Nat} {z : Int32} (h : ms[q]? = some (.int z)) : own_m ms q = z.toInt := by unfold own_m; rw [h]
def own_n (ms : List Value) (j : Nat) : Nat → Nat
  | 0 => 0
  | k + 1 => own_n ms j k + (if own_m ms k = (j : Int) then 1 else 0)
theorem own_n_hit {ms : List Value} {j k : Nat} (h : own_m ms k = (j : Int)) : own_n ms j (k + 1) = own_n ms j k + 1 := by rw [own_n, if_pos h]
theorem own_n_miss {ms : List Value} {j k : Nat} (h : ¬ own_m ms k = (j : Int)) : own_n ms j (k + 1) = own_n ms j k := by rw [own_n, if_neg h]; rfl
theorem own_n_mono {ms : List Value} {j a : Nat} (d : Nat) : own_n ms j a ≤ own_n ms j (a + d) := by
  induction d with
  | zero => exact Nat.le_refl _
  | succ d ih => exact Nat.le_trans ih (by show _ ≤ own_n ms j (a + d) + _; omega)
theorem own_n_sum (ms : List Value) (k : Nat) : own_n ms 0 k + own_n ms 1 k + own_n ms 2 k + own_n ms 3 k ≤ k := by
  induction k with
  | zero => exact Nat.le_refl _
  | succ k ih =>
    simp only [own_n]
    generalize own_m ms k = v
    by_cases h0 : v = ((0 : Nat) : Int)
    · rw [if_pos h0, if_neg (by omega), if_neg (by omega), if_neg (by omega)]; omega
    · rw [if_neg h0]
      by_cases h1 : v = ((1 : Nat) : Int)
      · rw [if_pos h1, if_neg (by omega), if_neg (by omega)]; omega
      · rw [if_neg h1]
        by_cases h2 : v = ((2 : Nat) : Int)
        · rw [if_pos h2, if_neg (by omega)]; omega
        · rw [if_neg h2]
          by_cases h3 : v = ((3 : Nat) : Int)
          · rw [if_pos h3]; omega
          · rw [if_neg h3]; omega
def own_S (ms : List Value) (k : Nat) : List Value := [.int (0 : Int32), .int (Int32.ofNat (own_n ms 0 k)), .int (Int32.ofNat (own_n ms 1 k)), .int (Int32.ofNat (own_n ms 2 k)), .int (Int32.ofNat (own_n ms 3 k))]
def own_b (ms : List Value) (C : Nat) : Nat → Nat
  | 0 => 0
  | j + 1 => own_b ms C j + own_n ms j C
def own_X (ms : List Value) (C k : Nat) : List Value := [.int (Int32.ofNat (own_b ms C 0 + own_n ms 0 k)), .int (Int32.ofNat (own_b ms C 1 + own_n ms 1 k)), .int (Int32.ofNat (own_b ms C 2 + own_n ms 2 k)), .int (Int32.ofNat (own_b ms C 3 + own_n ms 3 k))]
theorem own_four {j : Nat} (h : j < 4) : j = 0 ∨ j = 1 ∨ j = 2 ∨ j = 3 := by omega
theorem own_S_get {ms : List Value} {j k : Nat} (h : j < 4) : (own_S ms k)[j + 1]? = some (.int (Int32.ofNat (own_n ms j k))) := by rcases own_four h with rfl | rfl | rfl | rfl <;> rfl
theorem own_X_get {ms : List Value} {C j k : Nat} (h : j < 4) : (own_X ms C k)[j]? = some (.int (Int32.ofNat (own_b ms C j + own_n ms j k))) := by rcases own_four h with rfl | rfl | rfl | rfl <;> rfl
theorem own_one (n : Nat) : Int32.ofNat n + 1 = Int32.ofNat (n + 1) := by rw [Int32.ofNat_add]; rfl
theorem own_S_set {ms : List Value} {j k : Nat} {z : Int32} (h : ms[k]? = some (.int z)) (hz : z.toInt = (j : Int)) (hj : j < 4) : (own_S ms k).set (j + 1) (.int (Int32.ofNat (own_n ms j k) + 1)) = own_S ms (k + 1) := by
  have e := (own_m_at h).trans hz
  rw [own_one, ← own_n_hit e]
  unfold own_S
  rcases own_four hj with rfl | rfl | rfl | rfl
  · rw [own_n_miss (j := 1) (by omega), own_n_miss (j := 2) (by omega), own_n_miss (j := 3) (by omega)]; rfl
  · rw [own_n_miss (j := 0) (by omega), own_n_miss (j := 2) (by omega), own_n_miss (j := 3) (by omega)]; rfl
  · rw [own_n_miss (j := 0) (by omega), own_n_miss (j := 1) (by omega), own_n_miss (j := 3) (by omega)]; rfl
  · rw [own_n_miss (j := 0) (by omega), own_n_miss (j := 1) (by omega), own_n_miss (j := 2) (by omega)]; rfl
theorem own_X_set {ms : List Value} {C j k : Nat} {z : Int32} (h : ms[k]? = some (.int z)) (hz : z.toInt = (j : Int)) (hj : j < 4) : (own_X ms C k).set j (.int (Int32.ofNat (own_b ms C j + own_n ms j k) + 1)) = own_X ms C (k + 1) := by
  have e := (own_m_at h).trans hz
  rw [own_one, Nat.add_assoc, ← own_n_hit e]
  unfold own_X
  rcases own_four hj with rfl | rfl | rfl | rfl
  · rw [own_n_miss (j := 1) (by omega), own_n_miss (j := 2) (by omega), own_n_miss (j := 3) (by omega)]; rfl
  · rw [own_n_miss (j := 0) (by omega), own_n_miss (j := 2) (by omega), own_n_miss (j := 3) (by omega)]; rfl
  · rw [own_n_miss (j := 0) (by omega), own_n_miss (j := 1) (by omega), own_n_miss (j := 3) (by omega)]; rfl
  · rw [own_n_miss (j := 0) (by omega), own_n_miss (j := 1) (by omega), own_n_miss (j := 2) (by omega)]; rfl
theorem own_S_skip {ms : List Value} {k : Nat} {z : Int32} (h : ms[k]? = some (.int z)) (hz : z.toInt = -1) : own_S ms k = own_S ms (k + 1) := by
  have e := (own_m_at h).trans hz
  unfold own_S
  rw [own_n_miss (j := 0) (by omega), own_n_miss (j := 1) (by omega), own_n_miss (j := 2) (by omega), own_n_miss (j := 3) (by omega)]
theorem own_X_skip {ms : List Value} {C k : Nat} {z : Int32} (h : ms[k]? = some (.int z)) (hz : z.toInt = -1) : own_X ms C k = own_X ms C (k + 1) := by
  have e := (own_m_at h).trans hz
  unfold own_X
  rw [own_n_miss (j := 0) (by omega), own_n_miss (j := 1) (by omega), own_n_miss (j := 2) (by omega), own_n_miss (j := 3) (by omega)]
theorem own_b4 (ms : List Value) (C : Nat) : own_b ms C 4 ≤ C := by
  have := own_n_sum ms C
  show 0 + own_n ms 0 C + own_n ms 1 C + own_n ms 2 C + own_n ms 3 C ≤ C
  omega
theorem own_b_lt {ms : List Value} {C j k : Nat} {z : Int32} (h : ms[k]? = some (.int z)) (hz : z.toInt = (j : Int)) (hj : j < 4) (hk : k < C) : own_b ms C j + own_n ms j k < own_b ms C 4 := by
  have e := own_n_hit ((own_m_at h).trans hz)
  have m : own_n ms j (k + 1) ≤ own_n ms j C := by have := own_n_mono (ms := ms) (j := j) (a := k + 1) (C - (k + 1)); rwa [show k + 1 + (C - (k + 1)) = C by omega] at this
  have b1 : own_b ms C 1 = own_b ms C 0 + own_n ms 0 C := rfl
  have b2 : own_b ms C 2 = own_b ms C 1 + own_n ms 1 C := rfl
  have b3 : own_b ms C 3 = own_b ms C 2 + own_n ms 2 C := rfl
  have b4 : own_b ms C 4 = own_b ms C 3 + own_n ms 3 C := rfl
  rcases own_four hj with rfl | rfl | rfl | rfl <;> omega
theorem own_nat {n : Nat} (h : n < 1000) : (Int32.ofNat n).toInt = (n : Int) := Int32.toInt_ofNat_of_lt (by omega)
theorem own_bs {ms : List Value} {C j : Nat} {u v : Int32} (hv : v = Int32.ofNat (own_b ms C j)) (hu : u = Int32.ofNat (own_n ms j C)) : u + v = Int32.ofNat (own_b ms C (j + 1)) := by
  rw [hv, hu, ← Int32.ofNat_add, Nat.add_comm]; rfl
theorem own_mem {c q : Nat} {ms ks : List Value} (h : own_G c ms ks) (hq : q < 4 * c) (h3 : q % 4 ≠ 3) : ∃ (z : Int32) (j : Nat), ms[q]? = some (.int z) ∧ z.toInt = (j : Int) ∧ j < 4 := by
  obtain ⟨z, h1, h2⟩ := h.2.2.1 q hq
  exact ⟨z, z.toInt.toNat, h1, by omega, by omega⟩
theorem own_mem3 {c q : Nat} {ms ks : List Value} (h : own_G c ms ks) (hq : q < 4 * c) : ∃ z : Int32, ms[q]? = some (.int z) ∧ ((z < 0 ∧ z.toInt = -1) ∨ (¬ z < 0 ∧ ∃ j : Nat, z.toInt = (j : Int) ∧ j < 4)) := by
  obtain ⟨z, h1, h2⟩ := h.2.2.1 q hq
  have k0 : (0 : Int32).toInt = 0 := rfl
  refine ⟨z, h1, ?_⟩
  rw [Int32.lt_iff_toInt_lt, k0]
  rcases h2 with h2 | h2
  · exact Or.inr ⟨by omega, z.toInt.toNat, by omega, by omega⟩
  · exact Or.inl ⟨by omega, h2.2⟩
theorem own_kd {c g : Nat} {ms ks : List Value} (h : own_G c ms ks) (hg : g < c) : ∃ (z : Int32) (j : Nat), ks[g]? = some (.int z) ∧ z.toInt = (j : Int) ∧ j ≤ 4 := by
  obtain ⟨z, h1, h2, h3⟩ := h.2.2.2 g hg
  exact ⟨z, z.toInt.toNat, h1, by omega, by omega⟩
theorem own_ix5 {z k : Int32} {j n : Nat} (h1 : z.toInt = (j : Int)) (h2 : j < 4) (h3 : k.toInt = (n : Int)) (h4 : n ≤ 4) : (5 * z + k).toInt = ((5 * j + n : Nat) : Int) := by
  have a := c_imul 5 z
  have b := (5 * z).toInt_lt
  have c := (5 * z).le_toInt
  rw [show (5 : Int32).toInt = 5 from rfl, h1] at a
  have a' := c_iadd (5 * z) k
  have b' := (5 * z + k).toInt_lt
  have c' := (5 * z + k).le_toInt
  omega
def own_ok (vs : List Value) : Prop := vs.length = 20 ∧ ∀ i, i < 20 → ∃ z : Int32, vs[i]? = some (.int z)
theorem own_ok_set {vs : List Value} (h : own_ok vs) (i : Nat) (z : Int32) : own_ok (vs.set i (.int z)) := by
  refine ⟨by simpa using h.1, fun j hj => ?_⟩
  by_cases e : i = j
  · subst e; exact ⟨z, List.getElem?_set_self (by rw [h.1]; exact hj)⟩
  · rw [List.getElem?_set_ne e]; exact h.2 j hj
theorem own_ok_0 : own_ok (List.replicate 20 (.int (0 : Int32))) := ⟨by simp, fun i hi => ⟨0, List.getElem?_replicate_of_lt hi⟩⟩
def own_szf (z : Int32) : Int32 := if z < 0 then 3 else 4
theorem own_left {L R : HL} {i : Nat} {q : Addr × Obj} (h : L[i]? = some q) : (L ++ R)[i]? = some q := by rw [List.getElem?_append_left (List.getElem?_eq_some_iff.mp h).1]; exact h
theorem own_right {L : HL} {q : Addr × Obj} : (L ++ [q])[L.length]? = some q := by simp
theorem own_rset {L : HL} {q r : Addr × Obj} : (L ++ [q]).set L.length r = L ++ [r] := by simp
def own_nzf (v : Int64) : Int64 := if v < 0 then v else v + 1
def own_zf (v : Int64) : Int32 := if v = 0 then 1 else 0
def own_le (a b : Int32) : Int32 := if b < a then 0 else 1
def own_up (sp : Int64) (M : Nat) (x0 x1 x2 x3 : Int64) (up : Int32) : Prop :=
  (up = 4 ∧ 10 ≤ sp.toInt ∧ (own_zn (x0.toInt + x1.toInt + x2.toInt) + own_zn (x0.toInt + x1.toInt + x3.toInt) + own_zn (x0.toInt + x2.toInt + x3.toInt) + own_zn (x1.toInt + x2.toInt + x3.toInt)) + own_zn (x0.toInt + x1.toInt + x2.toInt + x3.toInt) ≤ M) ∨ (up = 3 ∧ 8 ≤ sp.toInt ∧ own_zn (x0.toInt + x1.toInt + x2.toInt) + own_zn (x0.toInt + x1.toInt + x3.toInt) + own_zn (x0.toInt + x2.toInt + x3.toInt) + own_zn (x1.toInt + x2.toInt + x3.toInt) ≤ M ∧ (sp.toInt < 10 ∨ M < (own_zn (x0.toInt + x1.toInt + x2.toInt) + own_zn (x0.toInt + x1.toInt + x3.toInt) + own_zn (x0.toInt + x2.toInt + x3.toInt) + own_zn (x1.toInt + x2.toInt + x3.toInt)) + own_zn (x0.toInt + x1.toInt + x2.toInt + x3.toInt))) ∨ (up = 2 ∧ (sp.toInt < 8 ∨ M < own_zn (x0.toInt + x1.toInt + x2.toInt) + own_zn (x0.toInt + x1.toInt + x3.toInt) + own_zn (x0.toInt + x2.toInt + x3.toInt) + own_zn (x1.toInt + x2.toInt + x3.toInt)))
theorem own_zf_c {v : Int64} {s : Int} (h : v.toInt = s) : (own_zf v).toInt = (own_zn s : Int) := by
  unfold own_zf own_zn
  have k0 : (0 : Int64).toInt = 0 := rfl
  by_cases e : v = 0
  · rw [if_pos e, if_pos (by rw [← h, e]; rfl)]; rfl
  · rw [if_neg e, if_neg (by rw [← h, ← k0]; exact fun q => e (Int64.toInt_inj.mp q))]; rfl
theorem own_add32 {a b : Int32} {n k : Nat} (h1 : a.toInt = (n : Int)) (h2 : b.toInt = (k : Int)) (q1 : n ≤ 100) (q2 : k ≤ 100) : (a + b).toInt = ((n + k : Nat) : Int) := by
  have x := c_iadd a b
  have y := (a + b).toInt_lt
  have z := (a + b).le_toInt
  omega
theorem own_zn1 (s : Int) : own_zn s ≤ 1 := by rcases own_zn_c s with h | h <;> omega
theorem own_t3 {x0 x1 x2 x3 : Int64} {t3 : Int32} (hA : own_A x0 x1 x2 x3) (h : t3 = own_zf (x0 + x1 + x2) + own_zf (x0 + x1 + x3) + own_zf (x0 + x2 + x3) + own_zf (x1 + x2 + x3)) : t3.toInt = ((own_zn (x0.toInt + x1.toInt + x2.toInt) + own_zn (x0.toInt + x1.toInt + x3.toInt) + own_zn (x0.toInt + x2.toInt + x3.toInt) + own_zn (x1.toInt + x2.toInt + x3.toInt) : Nat) : Int) := by
  obtain ⟨A0, A1, A2, A3, A4, N0, N1, N2, N3⟩ := hA
  have e01 := own_ladd (a := x0) (b := x1) rfl rfl (by omega) (by omega) (by omega) (by omega)
  have e02 := own_ladd (a := x0) (b := x2) rfl rfl (by omega) (by omega) (by omega) (by omega)
  have e12 := own_ladd (a := x1) (b := x2) rfl rfl (by omega) (by omega) (by omega) (by omega)
  have f0 := own_zf_c (own_ladd (b := x2) e01 rfl (by omega) (by omega) (by omega) (by omega))
  have f1 := own_zf_c (own_ladd (b := x3) e01 rfl (by omega) (by omega) (by omega) (by omega))
  have f2 := own_zf_c (own_ladd (b := x3) e02 rfl (by omega) (by omega) (by omega) (by omega))
  have f3 := own_zf_c (own_ladd (b := x3) e12 rfl (by omega) (by omega) (by omega) (by omega))
  have g0 := own_zn1 (x0.toInt + x1.toInt + x2.toInt)
  have g1 := own_zn1 (x0.toInt + x1.toInt + x3.toInt)
  have g2 := own_zn1 (x0.toInt + x2.toInt + x3.toInt)
  have g3 := own_zn1 (x1.toInt + x2.toInt + x3.toInt)
  rw [h]
  exact own_add32 (own_add32 (own_add32 f0 f1 (by omega) (by omega)) f2 (by omega) (by omega)) f3 (by omega) (by omega)
theorem own_t4 {x0 x1 x2 x3 : Int64} {t4 : Int32} (hA : own_A x0 x1 x2 x3) (h : t4 = own_zf (x0 + x1 + x2 + x3)) : t4.toInt = ((own_zn (x0.toInt + x1.toInt + x2.toInt + x3.toInt) : Nat) : Int) := by
  obtain ⟨A0, A1, A2, A3, A4, N0, N1, N2, N3⟩ := hA
  have e01 := own_ladd (a := x0) (b := x1) rfl rfl (by omega) (by omega) (by omega) (by omega)
  have e2 := own_ladd (b := x2) e01 rfl (by omega) (by omega) (by omega) (by omega)
  rw [h]
  exact own_zf_c (own_ladd (b := x3) e2 rfl (by omega) (by omega) (by omega) (by omega))
theorem own_nzf_c (v : Int64) (q1 : -100 ≤ v.toInt) (q2 : v.toInt ≤ 100) : (v.toInt < 0 ∧ (own_nzf v).toInt = v.toInt) ∨ (0 ≤ v.toInt ∧ (own_nzf v).toInt = v.toInt + 1) := by
  unfold own_nzf
  have k0 : (0 : Int64).toInt = 0 := rfl
  by_cases e : v < 0
  · rw [if_pos e]; rw [Int64.lt_iff_toInt_lt, k0] at e; exact Or.inl ⟨e, rfl⟩
  · rw [if_neg e]; rw [Int64.lt_iff_toInt_lt, k0] at e
    exact Or.inr ⟨by omega, own_ladd (b := 1) rfl rfl (by omega) (by omega) (by decide) (by decide)⟩
theorem own_step {w w' : Int64} {sh : Int32} {k : Int32} (kn : Nat) (h : w' = w + ((ushrI sh k) &&& 3).toInt64) (q1 : -100 ≤ w.toInt) (q2 : w.toInt ≤ 100) : w.toInt ≤ w'.toInt ∧ w'.toInt ≤ w.toInt + 3 := by
  have m := c_mask (ushrI sh k) 3 2 (by decide) (by decide)
  rw [show ((2 ^ 2 : Nat) : Int) = 4 from rfl] at m
  have i := c_i2l ((ushrI sh k) &&& 3)
  have a := own_ladd (a := w) (b := ((ushrI sh k) &&& 3).toInt64) rfl rfl (by omega) (by omega) (by omega) (by omega)
  rw [h, a]
  omega
theorem own_shape {sh : Int32} {w0 w1 w2 w3 x0 x1 x2 x3 : Int64} (h0 : w0 = ((sh &&& 7) - 6).toInt64) (h1 : w1 = w0 + ((ushrI sh 3) &&& 3).toInt64) (h2 : w2 = w1 + ((ushrI sh 5) &&& 3).toInt64) (h3 : w3 = w2 + ((ushrI sh 7) &&& 3).toInt64) (g0 : x0 = own_nzf w0) (g1 : x1 = own_nzf w1) (g2 : x2 = own_nzf w2) (g3 : x3 = own_nzf w3) : own_A x0 x1 x2 x3 := by
  have m := c_mask sh 7 3 (by decide) (by decide)
  rw [show ((2 ^ 3 : Nat) : Int) = 8 from rfl] at m
  have i := c_i2l ((sh &&& 7) - 6)
  have a := c_isub (sh &&& 7) 6
  have b := ((sh &&& 7) - 6).toInt_lt
  have c := ((sh &&& 7) - 6).le_toInt
  have k6 : (6 : Int32).toInt = 6 := rfl
  have e0 : -6 ≤ w0.toInt ∧ w0.toInt ≤ 1 := by rw [h0, i]; omega
  have e1 := own_step 3 h1 (by omega) (by omega)
  have e2 := own_step 5 h2 (by omega) (by omega)
  have e3 := own_step 7 h3 (by omega) (by omega)
  have f0 := own_nzf_c w0 (by omega) (by omega)
  have f1 := own_nzf_c w1 (by omega) (by omega)
  have f2 := own_nzf_c w2 (by omega) (by omega)
  have f3 := own_nzf_c w3 (by omega) (by omega)
  rw [← g0] at f0
  rw [← g1] at f1
  rw [← g2] at f2
  rw [← g3] at f3
  unfold own_A
  omega
theorem own_most {mo mq : Int32} (h : mo = mq &&& 7) : ∃ M : Nat, mo.toInt = (M : Int) ∧ M ≤ 7 := by
  have m := c_mask mq 7 3 (by decide) (by decide)
  rw [show ((2 ^ 3 : Nat) : Int) = 8 from rfl] at m
  exact ⟨mo.toInt.toNat, by rw [h]; omega, by rw [h]; omega⟩
abbrev O_SmallGroups (f0 : Value) (f1 : Value) (f2 : Value) (f3 : Value) (f4 : Value) (f5 : Value) (f6 : Value) (f7 : Value) (f8 : Value) (f9 : Value) (f10 : Value) (f11 : Value) (f12 : Value) : Obj := .inl ("com/example/cangdan/cangdan/fewest/SmallGroups", [("com/example/cangdan/cangdan/fewest/SmallGroups", "members", "[I", f0), ("com/example/cangdan/cangdan/fewest/SmallGroups", "kinds", "[B", f1), ("com/example/cangdan/cangdan/fewest/SmallGroups", "itemCount", "I", f2), ("com/example/cangdan/cangdan/fewest/SmallGroups", "byAmount", "[I", f3), ("com/example/cangdan/cangdan/fewest/SmallGroups", "amounts", "[J", f4), ("com/example/cangdan/cangdan/fewest/SmallGroups", "most", "I", f5), ("com/example/cangdan/cangdan/fewest/SmallGroups", "listedUpTo", "I", f6), ("com/example/cangdan/cangdan/fewest/SmallGroups", "start", "[I", f7), ("com/example/cangdan/cangdan/fewest/SmallGroups", "holding", "[I", f8), ("com/example/cangdan/cangdan/fewest/SmallGroups", "count", "I", f9), ("com/example/cangdan/cangdan/fewest/SmallGroups", "groupsOf", "[I", f10), ("com/example/cangdan/cangdan/fewest/SmallGroups", "gone", "[I", f11), ("com/example/cangdan/cangdan/fewest/SmallGroups", "listingSteps", "J", f12)])
theorem d12_0 : decode prog_29_method_6_code 0 = .ok (.iconst 2, 1) := by decide +kernel
theorem d12_1 : decode prog_29_method_6_code 1 = .ok (.iload_n 0, 1) := by decide +kernel
theorem d12_2 : decode prog_29_method_6_code 2 = .ok (.iconst 3, 1) := by decide +kernel
theorem d12_3 : decode prog_29_method_6_code 3 = .ok (.isub, 1) := by decide +kernel
theorem d12_4 : decode prog_29_method_6_code 4 = .ok (.imul, 1) := by decide +kernel
theorem d12_5 : decode prog_29_method_6_code 5 = .ok (.iload_n 1, 1) := by decide +kernel
theorem d12_6 : decode prog_29_method_6_code 6 = .ok (.iadd, 1) := by decide +kernel
theorem d12_7 : decode prog_29_method_6_code 7 = .ok (.iconst 1, 1) := by decide +kernel
theorem d12_8 : decode prog_29_method_6_code 8 = .ok (.isub, 1) := by decide +kernel
theorem d12_9 : decode prog_29_method_6_code 9 = .ok (.ireturn, 1) := by decide +kernel
theorem pn_12 : plainFor (⟨"com/example/cangdan/cangdan/fewest/SmallGroups", "kind", "(II)I"⟩ : MethodName) = true := plainFor_of_name (by first | (simp [plainName, overriddenIn]; done) | decide +kernel)
set_option maxRecDepth 65536 in
set_option maxHeartbeats 40000000 in
theorem rm12 (l : Launch) (Z : State) (a0 : Array Value) (hw : ∀ d ∈ tables_1, d.before a0 Z = true) (n0 : Nat) (a b : Int32) (L : HL)  :
    Con l (⟨"com/example/cangdan/cangdan/fewest/SmallGroups", "kind", "(II)I"⟩ : MethodName) prog_29_method_6_code 2 (some .int) ({ frames := 0, cells := 0, slots := 0, locals := 0 } : Room) Z n0 #[(.int a), (.int b)] L (fun v L' => v = some (.int (2 * (a - 3) + b - 1)) ∧ L' = L) := by
  refine Con.of (ws := tables_1) (a0 := a0) pn_12 hw ?_
  intro p e s m below meth cde T kb w
  refine g_entry #[.val (.int a), .val (.int b)] (by first | (simp [entryFrame, mkF, argsToLocals, Value.category]; done) | rfl) ?_
  refine g_iconst w d12_0 (2 : Int32) rfl 1 rfl ?_
  refine g_iloadN w d12_1 rfl 2 rfl ?_
  refine g_iconst w d12_2 (3 : Int32) rfl 3 rfl ?_
  refine g_isub w d12_3 4 rfl ?_
  refine g_imul w d12_4 5 rfl ?_
  refine g_iloadN w d12_5 rfl 6 rfl ?_
  refine g_iadd w d12_6 7 rfl ?_
  refine g_iconst w d12_7 (1 : Int32) rfl 8 rfl ?_
  refine g_isub w d12_8 9 rfl ?_
  exact g_ireti w d12_9 (by decide) (by decide) ⟨rfl, rfl⟩
theorem pd_0 : parseMethodDescriptor "(II)I" = some ⟨[.int, .int], some .int⟩ := by decide +kernel
theorem d11_0 : decode prog_29_method_16_code 0 = .ok (.aload_n 0, 1) := by decide +kernel
theorem d11_1 : decode prog_29_method_16_code 1 = .ok (.getfield 50, 3) := by decide +kernel
theorem d11_4 : decode prog_29_method_16_code 4 = .ok (.aload_n 0, 1) := by decide +kernel
theorem d11_5 : decode prog_29_method_16_code 5 = .ok (.getfield 28, 3) := by decide +kernel
theorem d11_8 : decode prog_29_method_16_code 8 = .ok (.if_icmp .ne 5, 3) := by decide +kernel
theorem d11_11 : decode prog_29_method_16_code 11 = .ok (.iconst 0, 1) := by decide +kernel
theorem d11_12 : decode prog_29_method_16_code 12 = .ok (.ireturn, 1) := by decide +kernel
theorem d11_13 : decode prog_29_method_16_code 13 = .ok (.aload_n 0, 1) := by decide +kernel
theorem d11_14 : decode prog_29_method_16_code 14 = .ok (.getfield 50, 3) := by decide +kernel
theorem d11_17 : decode prog_29_method_16_code 17 = .ok (.aload_n 0, 1) := by decide +kernel
theorem d11_18 : decode prog_29_method_16_code 18 = .ok (.getfield 13, 3) := by decide +kernel
theorem d11_21 : decode prog_29_method_16_code 21 = .ok (.arraylength, 1) := by decide +kernel
theorem d11_22 : decode prog_29_method_16_code 22 = .ok (.if_icmp .ne 39, 3) := by decide +kernel
theorem d11_25 : decode prog_29_method_16_code 25 = .ok (.aload_n 0, 1) := by decide +kernel
theorem d11_26 : decode prog_29_method_16_code 26 = .ok (.aload_n 0, 1) := by decide +kernel
theorem d11_27 : decode prog_29_method_16_code 27 = .ok (.getfield 7, 3) := by decide +kernel
theorem d11_30 : decode prog_29_method_16_code 30 = .ok (.iconst 2, 1) := by decide +kernel
theorem d11_31 : decode prog_29_method_16_code 31 = .ok (.aload_n 0, 1) := by decide +kernel
theorem d11_32 : decode prog_29_method_16_code 32 = .ok (.getfield 7, 3) := by decide +kernel
theorem d11_35 : decode prog_29_method_16_code 35 = .ok (.arraylength, 1) := by decide +kernel
theorem d11_36 : decode prog_29_method_16_code 36 = .ok (.imul, 1) := by decide +kernel
theorem d11_37 : decode prog_29_method_16_code 37 = .ok (.invokestatic 60, 3) := by decide +kernel
theorem d11_40 : decode prog_29_method_16_code 40 = .ok (.putfield 7, 3) := by decide +kernel
theorem d11_43 : decode prog_29_method_16_code 43 = .ok (.aload_n 0, 1) := by decide +kernel
theorem d11_44 : decode prog_29_method_16_code 44 = .ok (.aload_n 0, 1) := by decide +kernel
theorem d11_45 : decode prog_29_method_16_code 45 = .ok (.getfield 13, 3) := by decide +kernel
theorem d11_48 : decode prog_29_method_16_code 48 = .ok (.iconst 2, 1) := by decide +kernel
theorem d11_49 : decode prog_29_method_16_code 49 = .ok (.aload_n 0, 1) := by decide +kernel
theorem d11_50 : decode prog_29_method_16_code 50 = .ok (.getfield 13, 3) := by decide +kernel
theorem d11_53 : decode prog_29_method_16_code 53 = .ok (.arraylength, 1) := by decide +kernel
theorem d11_54 : decode prog_29_method_16_code 54 = .ok (.imul, 1) := by decide +kernel
theorem d11_55 : decode prog_29_method_16_code 55 = .ok (.invokestatic 102, 3) := by decide +kernel
theorem d11_58 : decode prog_29_method_16_code 58 = .ok (.putfield 13, 3) := by decide +kernel
theorem d11_61 : decode prog_29_method_16_code 61 = .ok (.iconst 4, 1) := by decide +kernel
theorem d11_62 : decode prog_29_method_16_code 62 = .ok (.aload_n 0, 1) := by decide +kernel
theorem d11_63 : decode prog_29_method_16_code 63 = .ok (.getfield 50, 3) := by decide +kernel
theorem d11_66 : decode prog_29_method_16_code 66 = .ok (.imul, 1) := by decide +kernel
theorem d11_67 : decode prog_29_method_16_code 67 = .ok (.istore 4, 2) := by decide +kernel
theorem d11_69 : decode prog_29_method_16_code 69 = .ok (.aload_n 0, 1) := by decide +kernel
theorem d11_70 : decode prog_29_method_16_code 70 = .ok (.getfield 7, 3) := by decide +kernel
theorem d11_73 : decode prog_29_method_16_code 73 = .ok (.iload 4, 2) := by decide +kernel
theorem d11_75 : decode prog_29_method_16_code 75 = .ok (.iconst 3, 1) := by decide +kernel
theorem d11_76 : decode prog_29_method_16_code 76 = .ok (.iadd, 1) := by decide +kernel
theorem d11_77 : decode prog_29_method_16_code 77 = .ok (.iconst (-1), 1) := by decide +kernel
theorem d11_78 : decode prog_29_method_16_code 78 = .ok (.iastore, 1) := by decide +kernel
theorem d11_79 : decode prog_29_method_16_code 79 = .ok (.iconst 0, 1) := by decide +kernel
theorem d11_80 : decode prog_29_method_16_code 80 = .ok (.istore 5, 2) := by decide +kernel
theorem d11_82 : decode prog_29_method_16_code 82 = .ok (.aload_n 1, 1) := by decide +kernel
theorem d11_83 : decode prog_29_method_16_code 83 = .ok (.astore 6, 2) := by decide +kernel
theorem d11_85 : decode prog_29_method_16_code 85 = .ok (.aload 6, 2) := by decide +kernel
theorem d11_87 : decode prog_29_method_16_code 87 = .ok (.arraylength, 1) := by decide +kernel
theorem d11_88 : decode prog_29_method_16_code 88 = .ok (.istore 7, 2) := by decide +kernel
theorem d11_90 : decode prog_29_method_16_code 90 = .ok (.iconst 0, 1) := by decide +kernel
theorem d11_91 : decode prog_29_method_16_code 91 = .ok (.istore 8, 2) := by decide +kernel
theorem d11_93 : decode prog_29_method_16_code 93 = .ok (.iload 8, 2) := by decide +kernel
theorem d11_95 : decode prog_29_method_16_code 95 = .ok (.iload 7, 2) := by decide +kernel
theorem d11_97 : decode prog_29_method_16_code 97 = .ok (.if_icmp .ge 55, 3) := by decide +kernel
theorem d11_100 : decode prog_29_method_16_code 100 = .ok (.aload 6, 2) := by decide +kernel
theorem d11_102 : decode prog_29_method_16_code 102 = .ok (.iload 8, 2) := by decide +kernel
theorem d11_104 : decode prog_29_method_16_code 104 = .ok (.iaload, 1) := by decide +kernel
theorem d11_105 : decode prog_29_method_16_code 105 = .ok (.istore 9, 2) := by decide +kernel
theorem d11_107 : decode prog_29_method_16_code 107 = .ok (.aload_n 0, 1) := by decide +kernel
theorem d11_108 : decode prog_29_method_16_code 108 = .ok (.getfield 7, 3) := by decide +kernel
theorem d11_111 : decode prog_29_method_16_code 111 = .ok (.iload 4, 2) := by decide +kernel
theorem d11_113 : decode prog_29_method_16_code 113 = .ok (.iinc 4 1, 3) := by decide +kernel
theorem d11_116 : decode prog_29_method_16_code 116 = .ok (.aload_n 0, 1) := by decide +kernel
theorem d11_117 : decode prog_29_method_16_code 117 = .ok (.getfield 21, 3) := by decide +kernel
theorem d11_120 : decode prog_29_method_16_code 120 = .ok (.iload 9, 2) := by decide +kernel
theorem d11_122 : decode prog_29_method_16_code 122 = .ok (.iaload, 1) := by decide +kernel
theorem d11_123 : decode prog_29_method_16_code 123 = .ok (.iastore, 1) := by decide +kernel
theorem d11_124 : decode prog_29_method_16_code 124 = .ok (.iload 5, 2) := by decide +kernel
theorem d11_126 : decode prog_29_method_16_code 126 = .ok (.aload_n 0, 1) := by decide +kernel
theorem d11_127 : decode prog_29_method_16_code 127 = .ok (.getfield 24, 3) := by decide +kernel
theorem d11_130 : decode prog_29_method_16_code 130 = .ok (.iload 9, 2) := by decide +kernel
theorem d11_132 : decode prog_29_method_16_code 132 = .ok (.laload, 1) := by decide +kernel
theorem d11_133 : decode prog_29_method_16_code 133 = .ok (.lconst 0, 1) := by decide +kernel
theorem d11_134 : decode prog_29_method_16_code 134 = .ok (.lcmp, 1) := by decide +kernel
theorem d11_135 : decode prog_29_method_16_code 135 = .ok (.ifCond .le 7, 3) := by decide +kernel
theorem d11_138 : decode prog_29_method_16_code 138 = .ok (.iconst 1, 1) := by decide +kernel
theorem d11_139 : decode prog_29_method_16_code 139 = .ok (.goto 4, 3) := by decide +kernel
theorem d11_142 : decode prog_29_method_16_code 142 = .ok (.iconst 0, 1) := by decide +kernel
theorem d11_143 : decode prog_29_method_16_code 143 = .ok (.iadd, 1) := by decide +kernel
theorem d11_144 : decode prog_29_method_16_code 144 = .ok (.istore 5, 2) := by decide +kernel
theorem d11_146 : decode prog_29_method_16_code 146 = .ok (.iinc 8 1, 3) := by decide +kernel
theorem d11_149 : decode prog_29_method_16_code 149 = .ok (.goto (-56), 3) := by decide +kernel
theorem d11_152 : decode prog_29_method_16_code 152 = .ok (.aload_n 0, 1) := by decide +kernel
theorem d11_153 : decode prog_29_method_16_code 153 = .ok (.getfield 7, 3) := by decide +kernel
theorem d11_156 : decode prog_29_method_16_code 156 = .ok (.iload 4, 2) := by decide +kernel
theorem d11_158 : decode prog_29_method_16_code 158 = .ok (.iinc 4 1, 3) := by decide +kernel
theorem d11_161 : decode prog_29_method_16_code 161 = .ok (.aload_n 0, 1) := by decide +kernel
theorem d11_162 : decode prog_29_method_16_code 162 = .ok (.getfield 21, 3) := by decide +kernel
theorem d11_165 : decode prog_29_method_16_code 165 = .ok (.iload_n 2, 1) := by decide +kernel
theorem d11_166 : decode prog_29_method_16_code 166 = .ok (.iaload, 1) := by decide +kernel
theorem d11_167 : decode prog_29_method_16_code 167 = .ok (.iastore, 1) := by decide +kernel
theorem d11_168 : decode prog_29_method_16_code 168 = .ok (.aload_n 0, 1) := by decide +kernel
theorem d11_169 : decode prog_29_method_16_code 169 = .ok (.getfield 7, 3) := by decide +kernel
theorem d11_172 : decode prog_29_method_16_code 172 = .ok (.iload 4, 2) := by decide +kernel
theorem d11_174 : decode prog_29_method_16_code 174 = .ok (.aload_n 0, 1) := by decide +kernel
theorem d11_175 : decode prog_29_method_16_code 175 = .ok (.getfield 21, 3) := by decide +kernel
theorem d11_178 : decode prog_29_method_16_code 178 = .ok (.iload_n 3, 1) := by decide +kernel
theorem d11_179 : decode prog_29_method_16_code 179 = .ok (.iaload, 1) := by decide +kernel
theorem d11_180 : decode prog_29_method_16_code 180 = .ok (.iastore, 1) := by decide +kernel
theorem d11_181 : decode prog_29_method_16_code 181 = .ok (.iload 5, 2) := by decide +kernel
theorem d11_183 : decode prog_29_method_16_code 183 = .ok (.aload_n 0, 1) := by decide +kernel
theorem d11_184 : decode prog_29_method_16_code 184 = .ok (.getfield 24, 3) := by decide +kernel
theorem d11_187 : decode prog_29_method_16_code 187 = .ok (.iload_n 2, 1) := by decide +kernel
theorem d11_188 : decode prog_29_method_16_code 188 = .ok (.laload, 1) := by decide +kernel
theorem d11_189 : decode prog_29_method_16_code 189 = .ok (.lconst 0, 1) := by decide +kernel
theorem d11_190 : decode prog_29_method_16_code 190 = .ok (.lcmp, 1) := by decide +kernel
theorem d11_191 : decode prog_29_method_16_code 191 = .ok (.ifCond .le 7, 3) := by decide +kernel
theorem d11_194 : decode prog_29_method_16_code 194 = .ok (.iconst 1, 1) := by decide +kernel
theorem d11_195 : decode prog_29_method_16_code 195 = .ok (.goto 4, 3) := by decide +kernel
theorem d11_198 : decode prog_29_method_16_code 198 = .ok (.iconst 0, 1) := by decide +kernel
theorem d11_199 : decode prog_29_method_16_code 199 = .ok (.aload_n 0, 1) := by decide +kernel
theorem d11_200 : decode prog_29_method_16_code 200 = .ok (.getfield 24, 3) := by decide +kernel
theorem d11_203 : decode prog_29_method_16_code 203 = .ok (.iload_n 3, 1) := by decide +kernel
theorem d11_204 : decode prog_29_method_16_code 204 = .ok (.laload, 1) := by decide +kernel
theorem d11_205 : decode prog_29_method_16_code 205 = .ok (.lconst 0, 1) := by decide +kernel
theorem d11_206 : decode prog_29_method_16_code 206 = .ok (.lcmp, 1) := by decide +kernel
theorem d11_207 : decode prog_29_method_16_code 207 = .ok (.ifCond .le 7, 3) := by decide +kernel
theorem d11_210 : decode prog_29_method_16_code 210 = .ok (.iconst 1, 1) := by decide +kernel
theorem d11_211 : decode prog_29_method_16_code 211 = .ok (.goto 4, 3) := by decide +kernel
theorem d11_214 : decode prog_29_method_16_code 214 = .ok (.iconst 0, 1) := by decide +kernel
theorem d11_215 : decode prog_29_method_16_code 215 = .ok (.iadd, 1) := by decide +kernel
theorem d11_216 : decode prog_29_method_16_code 216 = .ok (.iadd, 1) := by decide +kernel
theorem d11_217 : decode prog_29_method_16_code 217 = .ok (.istore 5, 2) := by decide +kernel
theorem d11_219 : decode prog_29_method_16_code 219 = .ok (.aload_n 0, 1) := by decide +kernel
theorem d11_220 : decode prog_29_method_16_code 220 = .ok (.getfield 13, 3) := by decide +kernel
theorem d11_223 : decode prog_29_method_16_code 223 = .ok (.aload_n 0, 1) := by decide +kernel
theorem d11_224 : decode prog_29_method_16_code 224 = .ok (.dup, 1) := by decide +kernel
theorem d11_225 : decode prog_29_method_16_code 225 = .ok (.getfield 50, 3) := by decide +kernel
theorem d11_228 : decode prog_29_method_16_code 228 = .ok (.dup_x1, 1) := by decide +kernel
theorem d11_229 : decode prog_29_method_16_code 229 = .ok (.iconst 1, 1) := by decide +kernel
theorem d11_230 : decode prog_29_method_16_code 230 = .ok (.iadd, 1) := by decide +kernel
theorem d11_231 : decode prog_29_method_16_code 231 = .ok (.putfield 50, 3) := by decide +kernel
theorem d11_234 : decode prog_29_method_16_code 234 = .ok (.aload_n 1, 1) := by decide +kernel
theorem d11_235 : decode prog_29_method_16_code 235 = .ok (.arraylength, 1) := by decide +kernel
theorem d11_236 : decode prog_29_method_16_code 236 = .ok (.iconst 2, 1) := by decide +kernel
theorem d11_237 : decode prog_29_method_16_code 237 = .ok (.iadd, 1) := by decide +kernel
theorem d11_238 : decode prog_29_method_16_code 238 = .ok (.iload 5, 2) := by decide +kernel
theorem d11_240 : decode prog_29_method_16_code 240 = .ok (.invokestatic 75, 3) := by decide +kernel
theorem d11_243 : decode prog_29_method_16_code 243 = .ok (.i2b, 1) := by decide +kernel
theorem d11_244 : decode prog_29_method_16_code 244 = .ok (.bastore, 1) := by decide +kernel
theorem d11_245 : decode prog_29_method_16_code 245 = .ok (.iconst 1, 1) := by decide +kernel
theorem d11_246 : decode prog_29_method_16_code 246 = .ok (.ireturn, 1) := by decide +kernel
theorem pn_11 : plainFor (⟨"com/example/cangdan/cangdan/fewest/SmallGroups", "add", "([III)Z"⟩ : MethodName) = true := plainFor_of_name (by first | (simp [plainName, overriddenIn]; done) | decide +kernel)
set_option maxRecDepth 65536 in
set_option maxHeartbeats 40000000 in
theorem rm11_1 (l : Launch) (Z : State) (a0 : Array Value) (hw : ∀ d ∈ tables_1, d.before a0 Z = true) (n0 : Nat) (t sa ba me ki am hd : Addr) (x0 x1 x2 x3 : Int64) (mo ct : Int32) (ls : Int64) (ms ks : List Value) (c M : Nat) (z0 z1 z2 : Int32) (p0 p1 p2 : Nat) (y0 y1 y2 : Int64) (hmo : mo.toInt = (M : Int)) (hM : M ≤ 7) (hct : ct.toInt = (c : Int)) (hcM : c ≤ M) (hG : own_G c ms ks) (hz0 : z0.toInt = (p0 : Int)) (hp0 : p0 < 4) (hb0 : [Value.int (0 : Int32), Value.int (1 : Int32), Value.int (2 : Int32), Value.int (3 : Int32)][p0]? = some (Value.int z0)) (hy0 : [Value.long x0, Value.long x1, Value.long x2, Value.long x3][p0]? = some (Value.long y0)) (hn0 : y0.toInt ≠ 0) (hz1 : z1.toInt = (p1 : Int)) (hp1 : p1 < 4) (hb1 : [Value.int (0 : Int32), Value.int (1 : Int32), Value.int (2 : Int32), Value.int (3 : Int32)][p1]? = some (Value.int z1)) (hy1 : [Value.long x0, Value.long x1, Value.long x2, Value.long x3][p1]? = some (Value.long y1)) (hn1 : y1.toInt ≠ 0) (hz2 : z2.toInt = (p2 : Int)) (hp2 : p2 < 4) (hb2 : [Value.int (0 : Int32), Value.int (1 : Int32), Value.int (2 : Int32), Value.int (3 : Int32)][p2]? = some (Value.int z2)) (hy2 : [Value.long x0, Value.long x1, Value.long x2, Value.long x3][p2]? = some (Value.long y2)) (hn2 : y2.toInt ≠ 0) (hsum : y0.toInt + y1.toInt + y2.toInt = 0) :
    Con l (⟨"com/example/cangdan/cangdan/fewest/SmallGroups", "add", "([III)Z"⟩ : MethodName) prog_29_method_16_code 10 (some .boolean) ({ frames := 1, cells := 0, slots := 0, locals := 15 } : Room) Z n0 #[(.ref t), (.ref hd), (.int z1), (.int z2)] ([(t, O_SmallGroups (.ref me) (.ref ki) (.int (4 : Int32)) (.ref ba) (.ref am) (.int mo) (.int (0 : Int32)) .null .null (.int ct) .null .null (.long ls)), (sa, .inr (.long, [(.long x0), (.long x1), (.long x2), (.long x3)])), (ba, .inr (.int, [(.int (0 : Int32)), (.int (1 : Int32)), (.int (2 : Int32)), (.int (3 : Int32))])), (me, .inr (.int, ms)), (ki, .inr (.byte, ks)), (am, .inr (.long, [(.long x0), (.long x1), (.long x2), (.long x3)])), (hd, .inr (.int, [(.int z0)]))]) (fun v L' => ∃ (rr ct' : Int32) (c' : Nat) (ms' ks' : List Value), v = some (.int rr) ∧ ct'.toInt = (c' : Int) ∧ own_G c' ms' ks' ∧ L' = [(t, O_SmallGroups (.ref me) (.ref ki) (.int (4 : Int32)) (.ref ba) (.ref am) (.int mo) (.int (0 : Int32)) .null .null (.int ct') .null .null (.long ls)), (sa, .inr (.long, [(.long x0), (.long x1), (.long x2), (.long x3)])), (ba, .inr (.int, [(.int (0 : Int32)), (.int (1 : Int32)), (.int (2 : Int32)), (.int (3 : Int32))])), (me, .inr (.int, ms')), (ki, .inr (.byte, ks')), (am, .inr (.long, [(.long x0), (.long x1), (.long x2), (.long x3)])), (hd, .inr (.int, [(.int z0)]))] ∧ ((rr = 1 ∧ c' = c + 1 ∧ c < M) ∨ (rr = 0 ∧ c' = c ∧ c = M))) := by
  refine Con.of (ws := tables_1) (a0 := a0) pn_11 hw ?_
  intro p e s m below meth cde T kb w
  refine g_entry #[.val (.ref t), .val (.ref hd), .val (.int z1), .val (.int z2), .unset, .unset, .unset, .unset, .unset, .unset] (by first | (simp [entryFrame, mkF, argsToLocals, Value.category]; done) | rfl) ?_
  obtain ⟨g1, g2, -, -⟩ := id hG
  refine g_aloadN w d11_0 rfl rfl 1 rfl ?_
  refine g_getf w d11_1 0 rfl 9 rfl 39 rfl Via.refl 4 rfl (fun T w => ?_)
  refine g_aloadN w d11_4 rfl rfl 5 rfl ?_
  refine g_getf w d11_5 0 rfl 5 rfl 30 rfl Via.refl 8 rfl (fun T w => ?_)
  refine g_icmp_ne w d11_8 13 (by decide) (by decide) 11 rfl (fun hc8 => ?_) (fun hc8 => ?_)
  · -- pc 13 (taken: not ct = mo)
    refine g_aloadN w d11_13 rfl rfl 14 rfl ?_
    refine g_getf w d11_14 0 rfl 9 rfl 39 rfl Via.refl 17 rfl (fun T w => ?_)
    refine g_aloadN w d11_17 rfl rfl 18 rfl ?_
    refine g_getf w d11_18 0 rfl 1 rfl 22 rfl Via.refl 21 rfl (fun T w => ?_)
    refine g_alen w d11_21 4 rfl (16 : Int32) (by rw [g2]; rfl) 22 rfl ?_
    refine g_icmp_ne w d11_22 61 (by decide) (by decide) 25 rfl (fun hc22 => ?_) (fun h => absurd h (fun q => by have := (own_eqN hct (show (16 : Int32).toInt = ((16 : Nat) : Int) from rfl)).mp q; omega))
    refine g_iconst w d11_61 (4 : Int32) rfl 62 rfl ?_
    refine g_aloadN w d11_62 rfl rfl 63 rfl ?_
    refine g_getf w d11_63 0 rfl 9 rfl 39 rfl Via.refl 66 rfl (fun T w => ?_)
    refine g_imul w d11_66 67 rfl ?_
    obtain ⟨ap, hap⟩ : ∃ own_z, own_z = (((4 : Int32) * ct) : Int32) := ⟨_, rfl⟩
    refine g_istore w d11_67 69 rfl hap.symm #[.val (.ref t), .val (.ref hd), .val (.int z1), .val (.int z2), .val (.int ap), .unset, .unset, .unset, .unset, .unset] rfl ?_
    have hap' : ap.toInt = ((4 * c : Nat) : Int) := by rw [hap]; exact own_mul4 hct (by omega)
    have hlt : c < M := by have := mt (own_eqN hct hmo).mpr hc8; omega
    refine g_aloadN w d11_69 rfl rfl 70 rfl ?_
    refine g_getf w d11_70 0 rfl 0 rfl 19 rfl Via.refl 73 rfl (fun T w => ?_)
    refine g_iload w d11_73 rfl 75 rfl ?_
    refine g_iconst w d11_75 (3 : Int32) rfl 76 rfl ?_
    refine g_iadd w d11_76 77 rfl ?_
    refine g_iconst w d11_77 (-1 : Int32) rfl 78 rfl ?_
    refine g_iastore w d11_78 3 rfl (4 * c + 3) (own_add3 hap' (by omega)) (by simp only [List.length_set, g1]; omega) (.int (-1 : Int32)) rfl 79 rfl (fun T w => ?_)
    replace w := w.to (L' := [(t, O_SmallGroups (.ref me) (.ref ki) (.int (4 : Int32)) (.ref ba) (.ref am) (.int mo) (.int (0 : Int32)) .null .null (.int ct) .null .null (.long ls)), (sa, .inr (.long, [(.long x0), (.long x1), (.long x2), (.long x3)])), (ba, .inr (.int, [(.int (0 : Int32)), (.int (1 : Int32)), (.int (2 : Int32)), (.int (3 : Int32))])), (me, .inr (.int, (ms.set (4 * c + 3) (.int (-1 : Int32))))), (ki, .inr (.byte, ks)), (am, .inr (.long, [(.long x0), (.long x1), (.long x2), (.long x3)])), (hd, .inr (.int, [(.int z0)]))]) rfl
    refine g_iconst w d11_79 (0 : Int32) rfl 80 rfl ?_
    refine g_istore w d11_80 82 rfl rfl #[.val (.ref t), .val (.ref hd), .val (.int z1), .val (.int z2), .val (.int ap), .val (.int (0 : Int32)), .unset, .unset, .unset, .unset] rfl ?_
    refine g_aloadN w d11_82 rfl rfl 83 rfl ?_
    refine g_astore w d11_83 85 rfl rfl #[.val (.ref t), .val (.ref hd), .val (.int z1), .val (.int z2), .val (.int ap), .val (.int (0 : Int32)), .val (.ref hd), .unset, .unset, .unset] rfl ?_
    refine g_aload w d11_85 rfl rfl 87 rfl ?_
    refine g_alen w d11_87 6 rfl (1 : Int32) rfl 88 rfl ?_
    refine g_istore w d11_88 90 rfl rfl #[.val (.ref t), .val (.ref hd), .val (.int z1), .val (.int z2), .val (.int ap), .val (.int (0 : Int32)), .val (.ref hd), .val (.int (1 : Int32)), .unset, .unset] rfl ?_
    refine g_iconst w d11_90 (0 : Int32) rfl 91 rfl ?_
    refine g_istore w d11_91 93 rfl rfl #[.val (.ref t), .val (.ref hd), .val (.int z1), .val (.int z2), .val (.int ap), .val (.int (0 : Int32)), .val (.ref hd), .val (.int (1 : Int32)), .val (.int (0 : Int32)), .unset] rfl ?_
    refine g_iload w d11_93 rfl 95 rfl ?_
    refine g_iload w d11_95 rfl 97 rfl ?_
    refine g_icmp_ge w d11_97 152 (by decide) (by decide) 100 rfl (fun h => absurd (by decide) h) (fun hc97 => ?_)
    refine g_aload w d11_100 rfl rfl 102 rfl ?_
    refine g_iload w d11_102 rfl 104 rfl ?_
    refine g_iaload w d11_104 6 rfl 0 (by decide) rfl 105 rfl ?_
    refine g_istore w d11_105 107 rfl rfl #[.val (.ref t), .val (.ref hd), .val (.int z1), .val (.int z2), .val (.int ap), .val (.int (0 : Int32)), .val (.ref hd), .val (.int (1 : Int32)), .val (.int (0 : Int32)), .val (.int z0)] rfl ?_
    refine g_aloadN w d11_107 rfl rfl 108 rfl ?_
    refine g_getf w d11_108 0 rfl 0 rfl 19 rfl Via.refl 111 rfl (fun T w => ?_)
    refine g_iload w d11_111 rfl 113 rfl ?_
    refine g_iinc w d11_113 116 rfl rfl rfl #[.val (.ref t), .val (.ref hd), .val (.int z1), .val (.int z2), .val (.int (ap + (1 : Int32))), .val (.int (0 : Int32)), .val (.ref hd), .val (.int (1 : Int32)), .val (.int (0 : Int32)), .val (.int z0)] rfl ?_
    refine g_aloadN w d11_116 rfl rfl 117 rfl ?_
    refine g_getf w d11_117 0 rfl 3 rfl 26 rfl Via.refl 120 rfl (fun T w => ?_)
    refine g_iload w d11_120 rfl 122 rfl ?_
    refine g_iaload w d11_122 2 rfl p0 hz0 hb0 123 rfl ?_
    refine g_iastore w d11_123 3 rfl (4 * c) hap' (by simp only [List.length_set, g1]; omega) (.int z0) rfl 124 rfl (fun T w => ?_)
    replace w := w.to (L' := [(t, O_SmallGroups (.ref me) (.ref ki) (.int (4 : Int32)) (.ref ba) (.ref am) (.int mo) (.int (0 : Int32)) .null .null (.int ct) .null .null (.long ls)), (sa, .inr (.long, [(.long x0), (.long x1), (.long x2), (.long x3)])), (ba, .inr (.int, [(.int (0 : Int32)), (.int (1 : Int32)), (.int (2 : Int32)), (.int (3 : Int32))])), (me, .inr (.int, ((ms.set (4 * c + 3) (.int (-1 : Int32))).set (4 * c) (.int z0)))), (ki, .inr (.byte, ks)), (am, .inr (.long, [(.long x0), (.long x1), (.long x2), (.long x3)])), (hd, .inr (.int, [(.int z0)]))]) rfl
    refine g_iload w d11_124 rfl 126 rfl ?_
    refine g_aloadN w d11_126 rfl rfl 127 rfl ?_
    refine g_getf w d11_127 0 rfl 4 rfl 28 rfl Via.refl 130 rfl (fun T w => ?_)
    refine g_iload w d11_130 rfl 132 rfl ?_
    refine g_laload w d11_132 5 rfl p0 hz0 hy0 133 rfl ?_
    refine g_lconst w d11_133 (0 : Int64) rfl 134 rfl ?_
    refine g_lcmp w d11_134 135 rfl ?_
    refine g_lif_le w d11_135 142 (by decide) (by decide) 138 rfl (fun hc135 => ?_) (fun hc135 => ?_)
    · -- pc 142 (taken: not (0 : Int64) < y0)
      have s0 := mt (own_ltL (show (0 : Int64).toInt = 0 from rfl) (rfl : y0.toInt = y0.toInt)).mpr hc135
      refine g_iconst w d11_142 (0 : Int32) rfl 143 rfl ?_
      refine g_iadd w d11_143 144 rfl ?_
      refine g_int (x' := (0 : Int32)) (by decide) ?_
      refine g_istore w d11_144 146 rfl rfl #[.val (.ref t), .val (.ref hd), .val (.int z1), .val (.int z2), .val (.int (ap + (1 : Int32))), .val (.int (0 : Int32)), .val (.ref hd), .val (.int (1 : Int32)), .val (.int (0 : Int32)), .val (.int z0)] rfl ?_
      refine g_iinc w d11_146 149 rfl rfl (by decide) #[.val (.ref t), .val (.ref hd), .val (.int z1), .val (.int z2), .val (.int (ap + (1 : Int32))), .val (.int (0 : Int32)), .val (.ref hd), .val (.int (1 : Int32)), .val (.int (1 : Int32)), .val (.int z0)] rfl ?_
      refine g_goto w d11_149 93 (by decide) (by decide) ?_
      refine g_iload w d11_93 rfl 95 rfl ?_
      refine g_iload w d11_95 rfl 97 rfl ?_
      refine g_icmp_ge w d11_97 152 (by decide) (by decide) 100 rfl (fun hc97 => ?_) (fun h => absurd h (by decide))
      refine g_aloadN w d11_152 rfl rfl 153 rfl ?_
      refine g_getf w d11_153 0 rfl 0 rfl 19 rfl Via.refl 156 rfl (fun T w => ?_)
      refine g_iload w d11_156 rfl 158 rfl ?_
      refine g_iinc w d11_158 161 rfl rfl rfl #[.val (.ref t), .val (.ref hd), .val (.int z1), .val (.int z2), .val (.int ((ap + (1 : Int32)) + (1 : Int32))), .val (.int (0 : Int32)), .val (.ref hd), .val (.int (1 : Int32)), .val (.int (1 : Int32)), .val (.int z0)] rfl ?_
      refine g_aloadN w d11_161 rfl rfl 162 rfl ?_
      refine g_getf w d11_162 0 rfl 3 rfl 26 rfl Via.refl 165 rfl (fun T w => ?_)
      refine g_iloadN w d11_165 rfl 166 rfl ?_
      refine g_iaload w d11_166 2 rfl p1 hz1 hb1 167 rfl ?_
      refine g_iastore w d11_167 3 rfl (4 * c + 1) (own_inc hap' (by omega)) (by simp only [List.length_set, g1]; omega) (.int z1) rfl 168 rfl (fun T w => ?_)
      replace w := w.to (L' := [(t, O_SmallGroups (.ref me) (.ref ki) (.int (4 : Int32)) (.ref ba) (.ref am) (.int mo) (.int (0 : Int32)) .null .null (.int ct) .null .null (.long ls)), (sa, .inr (.long, [(.long x0), (.long x1), (.long x2), (.long x3)])), (ba, .inr (.int, [(.int (0 : Int32)), (.int (1 : Int32)), (.int (2 : Int32)), (.int (3 : Int32))])), (me, .inr (.int, (((ms.set (4 * c + 3) (.int (-1 : Int32))).set (4 * c) (.int z0)).set (4 * c + 1) (.int z1)))), (ki, .inr (.byte, ks)), (am, .inr (.long, [(.long x0), (.long x1), (.long x2), (.long x3)])), (hd, .inr (.int, [(.int z0)]))]) rfl
      refine g_aloadN w d11_168 rfl rfl 169 rfl ?_
      refine g_getf w d11_169 0 rfl 0 rfl 19 rfl Via.refl 172 rfl (fun T w => ?_)
      refine g_iload w d11_172 rfl 174 rfl ?_
      refine g_aloadN w d11_174 rfl rfl 175 rfl ?_
      refine g_getf w d11_175 0 rfl 3 rfl 26 rfl Via.refl 178 rfl (fun T w => ?_)
      refine g_iloadN w d11_178 rfl 179 rfl ?_
      refine g_iaload w d11_179 2 rfl p2 hz2 hb2 180 rfl ?_
      refine g_iastore w d11_180 3 rfl (4 * c + 1 + 1) (own_inc (own_inc hap' (by omega)) (by omega)) (by simp only [List.length_set, g1]; omega) (.int z2) rfl 181 rfl (fun T w => ?_)
      replace w := w.to (L' := [(t, O_SmallGroups (.ref me) (.ref ki) (.int (4 : Int32)) (.ref ba) (.ref am) (.int mo) (.int (0 : Int32)) .null .null (.int ct) .null .null (.long ls)), (sa, .inr (.long, [(.long x0), (.long x1), (.long x2), (.long x3)])), (ba, .inr (.int, [(.int (0 : Int32)), (.int (1 : Int32)), (.int (2 : Int32)), (.int (3 : Int32))])), (me, .inr (.int, ((((ms.set (4 * c + 3) (.int (-1 : Int32))).set (4 * c) (.int z0)).set (4 * c + 1) (.int z1)).set (4 * c + 1 + 1) (.int z2)))), (ki, .inr (.byte, ks)), (am, .inr (.long, [(.long x0), (.long x1), (.long x2), (.long x3)])), (hd, .inr (.int, [(.int z0)]))]) rfl
      refine g_iload w d11_181 rfl 183 rfl ?_
      refine g_aloadN w d11_183 rfl rfl 184 rfl ?_
      refine g_getf w d11_184 0 rfl 4 rfl 28 rfl Via.refl 187 rfl (fun T w => ?_)
      refine g_iloadN w d11_187 rfl 188 rfl ?_
      refine g_laload w d11_188 5 rfl p1 hz1 hy1 189 rfl ?_
      refine g_lconst w d11_189 (0 : Int64) rfl 190 rfl ?_
      refine g_lcmp w d11_190 191 rfl ?_
      refine g_lif_le w d11_191 198 (by decide) (by decide) 194 rfl (fun hc191 => ?_) (fun hc191 => ?_)
      · -- pc 198 (taken: not (0 : Int64) < y1)
        have s1 := mt (own_ltL (show (0 : Int64).toInt = 0 from rfl) (rfl : y1.toInt = y1.toInt)).mpr hc191
        refine g_iconst w d11_198 (0 : Int32) rfl 199 rfl ?_
        refine g_aloadN w d11_199 rfl rfl 200 rfl ?_
        refine g_getf w d11_200 0 rfl 4 rfl 28 rfl Via.refl 203 rfl (fun T w => ?_)
        refine g_iloadN w d11_203 rfl 204 rfl ?_
        refine g_laload w d11_204 5 rfl p2 hz2 hy2 205 rfl ?_
        refine g_lconst w d11_205 (0 : Int64) rfl 206 rfl ?_
        refine g_lcmp w d11_206 207 rfl ?_
        refine g_lif_le w d11_207 214 (by decide) (by decide) 210 rfl (fun hc207 => ?_) (fun hc207 => ?_)
        · -- pc 214 (taken: not (0 : Int64) < y2)
          have s2 := mt (own_ltL (show (0 : Int64).toInt = 0 from rfl) (rfl : y2.toInt = y2.toInt)).mpr hc207
          refine g_iconst w d11_214 (0 : Int32) rfl 215 rfl ?_
          refine g_iadd w d11_215 216 rfl ?_
          refine g_int (x' := (0 : Int32)) (by decide) ?_
          refine g_iadd w d11_216 217 rfl ?_
          refine g_int (x' := (0 : Int32)) (by decide) ?_
          refine g_istore w d11_217 219 rfl rfl #[.val (.ref t), .val (.ref hd), .val (.int z1), .val (.int z2), .val (.int ((ap + (1 : Int32)) + (1 : Int32))), .val (.int (0 : Int32)), .val (.ref hd), .val (.int (1 : Int32)), .val (.int (1 : Int32)), .val (.int z0)] rfl ?_
          exfalso; omega
        · -- pc 210 (on: (0 : Int64) < y2)
          have s2 := (own_ltL (show (0 : Int64).toInt = 0 from rfl) (rfl : y2.toInt = y2.toInt)).mp hc207
          refine g_iconst w d11_210 (1 : Int32) rfl 211 rfl ?_
          refine g_goto w d11_211 215 (by decide) (by decide) ?_
          refine g_iadd w d11_215 216 rfl ?_
          refine g_int (x' := (1 : Int32)) (by decide) ?_
          refine g_iadd w d11_216 217 rfl ?_
          refine g_int (x' := (1 : Int32)) (by decide) ?_
          refine g_istore w d11_217 219 rfl rfl #[.val (.ref t), .val (.ref hd), .val (.int z1), .val (.int z2), .val (.int ((ap + (1 : Int32)) + (1 : Int32))), .val (.int (1 : Int32)), .val (.ref hd), .val (.int (1 : Int32)), .val (.int (1 : Int32)), .val (.int z0)] rfl ?_
          refine g_aloadN w d11_219 rfl rfl 220 rfl ?_
          refine g_getf w d11_220 0 rfl 1 rfl 22 rfl Via.refl 223 rfl (fun T w => ?_)
          refine g_aloadN w d11_223 rfl rfl 224 rfl ?_
          refine g_dup w d11_224 rfl 225 rfl ?_
          refine g_getf w d11_225 0 rfl 9 rfl 39 rfl Via.refl 228 rfl (fun T w => ?_)
          refine g_dup_x1 w d11_228 rfl rfl 229 rfl ?_
          refine g_iconst w d11_229 (1 : Int32) rfl 230 rfl ?_
          refine g_iadd w d11_230 231 rfl ?_
          obtain ⟨ct1, hct1⟩ : ∃ own_z, own_z = ((ct + (1 : Int32)) : Int32) := ⟨_, rfl⟩
          refine g_int hct1.symm ?_
          refine g_putf w d11_231 0 rfl 9 rfl 39 rfl Via.refl 40 (Or.inl rfl) 9 rfl (ty := .int) (by decide) rfl rfl 234 rfl (fun T w => ?_)
          replace w := w.to (L' := [(t, O_SmallGroups (.ref me) (.ref ki) (.int (4 : Int32)) (.ref ba) (.ref am) (.int mo) (.int (0 : Int32)) .null .null (.int ct1) .null .null (.long ls)), (sa, .inr (.long, [(.long x0), (.long x1), (.long x2), (.long x3)])), (ba, .inr (.int, [(.int (0 : Int32)), (.int (1 : Int32)), (.int (2 : Int32)), (.int (3 : Int32))])), (me, .inr (.int, ((((ms.set (4 * c + 3) (.int (-1 : Int32))).set (4 * c) (.int z0)).set (4 * c + 1) (.int z1)).set (4 * c + 1 + 1) (.int z2)))), (ki, .inr (.byte, ks)), (am, .inr (.long, [(.long x0), (.long x1), (.long x2), (.long x3)])), (hd, .inr (.int, [(.int z0)]))]) rfl
          refine g_aloadN w d11_234 rfl rfl 235 rfl ?_
          refine g_alen w d11_235 6 rfl (1 : Int32) rfl 236 rfl ?_
          refine g_iconst w d11_236 (2 : Int32) rfl 237 rfl ?_
          refine g_iadd w d11_237 238 rfl ?_
          refine g_int (x' := (3 : Int32)) (by decide) ?_
          refine g_iload w d11_238 rfl 240 rfl ?_
          refine g_static w (argsL := [(.int (3 : Int32)), (.int (1 : Int32))]) (rest := [(.int ct), (.ref ki)]) (rm12 l Z a0 hw n0 (3 : Int32) (1 : Int32) ([(t, O_SmallGroups (.ref me) (.ref ki) (.int (4 : Int32)) (.ref ba) (.ref am) (.int mo) (.int (0 : Int32)) .null .null (.int ct1) .null .null (.long ls)), (sa, .inr (.long, [(.long x0), (.long x1), (.long x2), (.long x3)])), (ba, .inr (.int, [(.int (0 : Int32)), (.int (1 : Int32)), (.int (2 : Int32)), (.int (3 : Int32))])), (me, .inr (.int, ((((ms.set (4 * c + 3) (.int (-1 : Int32))).set (4 * c) (.int z0)).set (4 * c + 1) (.int z1)).set (4 * c + 1 + 1) (.int z2)))), (ki, .inr (.byte, ks)), (am, .inr (.long, [(.long x0), (.long x1), (.long x2), (.long x3)])), (hd, .inr (.int, [(.int z0)]))])) d11_240 81 rfl 82 rfl 10 rfl 83 rfl ⟨by decide, by decide⟩ pd_0 rfl rfl rfl 2 rfl (by decide) (by decide) (by decide) (by decide) 243 rfl (fun T v L w h => ?_)
          obtain ⟨rfl, hL⟩ := h
          replace w := w.to hL
          refine g_int (x' := (0 : Int32)) (by decide) ?_
          refine g_i2b w d11_243 244 rfl ?_
          refine g_int (x' := (0 : Int32)) (by decide) ?_
          refine g_bastore w d11_244 4 rfl c hct (by rw [g2]; omega) (.int (0 : Int32)) (by decide) 245 rfl (fun T w => ?_)
          replace w := w.to (L' := [(t, O_SmallGroups (.ref me) (.ref ki) (.int (4 : Int32)) (.ref ba) (.ref am) (.int mo) (.int (0 : Int32)) .null .null (.int ct1) .null .null (.long ls)), (sa, .inr (.long, [(.long x0), (.long x1), (.long x2), (.long x3)])), (ba, .inr (.int, [(.int (0 : Int32)), (.int (1 : Int32)), (.int (2 : Int32)), (.int (3 : Int32))])), (me, .inr (.int, ((((ms.set (4 * c + 3) (.int (-1 : Int32))).set (4 * c) (.int z0)).set (4 * c + 1) (.int z1)).set (4 * c + 1 + 1) (.int z2)))), (ki, .inr (.byte, (ks.set c (.int (0 : Int32))))), (am, .inr (.long, [(.long x0), (.long x1), (.long x2), (.long x3)])), (hd, .inr (.int, [(.int z0)]))]) rfl
          refine g_iconst w d11_245 (1 : Int32) rfl 246 rfl ?_
          exact g_iretn w (by simp) d11_246 (by decide) (by decide) ⟨1, ct1, c + 1, _, _, rfl, by rw [hct1]; exact own_inc hct (by omega), own_G3 hG (by omega) ⟨by omega, by omega⟩ ⟨by omega, by omega⟩ ⟨by omega, by omega⟩ (by decide) (by decide), rfl, Or.inl ⟨rfl, rfl, hlt⟩⟩
      · -- pc 194 (on: (0 : Int64) < y1)
        have s1 := (own_ltL (show (0 : Int64).toInt = 0 from rfl) (rfl : y1.toInt = y1.toInt)).mp hc191
        refine g_iconst w d11_194 (1 : Int32) rfl 195 rfl ?_
        refine g_goto w d11_195 199 (by decide) (by decide) ?_
        refine g_aloadN w d11_199 rfl rfl 200 rfl ?_
        refine g_getf w d11_200 0 rfl 4 rfl 28 rfl Via.refl 203 rfl (fun T w => ?_)
        refine g_iloadN w d11_203 rfl 204 rfl ?_
        refine g_laload w d11_204 5 rfl p2 hz2 hy2 205 rfl ?_
        refine g_lconst w d11_205 (0 : Int64) rfl 206 rfl ?_
        refine g_lcmp w d11_206 207 rfl ?_
        refine g_lif_le w d11_207 214 (by decide) (by decide) 210 rfl (fun hc207 => ?_) (fun hc207 => ?_)
        · -- pc 214 (taken: not (0 : Int64) < y2)
          have s2 := mt (own_ltL (show (0 : Int64).toInt = 0 from rfl) (rfl : y2.toInt = y2.toInt)).mpr hc207
          refine g_iconst w d11_214 (0 : Int32) rfl 215 rfl ?_
          refine g_iadd w d11_215 216 rfl ?_
          refine g_int (x' := (1 : Int32)) (by decide) ?_
          refine g_iadd w d11_216 217 rfl ?_
          refine g_int (x' := (1 : Int32)) (by decide) ?_
          refine g_istore w d11_217 219 rfl rfl #[.val (.ref t), .val (.ref hd), .val (.int z1), .val (.int z2), .val (.int ((ap + (1 : Int32)) + (1 : Int32))), .val (.int (1 : Int32)), .val (.ref hd), .val (.int (1 : Int32)), .val (.int (1 : Int32)), .val (.int z0)] rfl ?_
          refine g_aloadN w d11_219 rfl rfl 220 rfl ?_
          refine g_getf w d11_220 0 rfl 1 rfl 22 rfl Via.refl 223 rfl (fun T w => ?_)
          refine g_aloadN w d11_223 rfl rfl 224 rfl ?_
          refine g_dup w d11_224 rfl 225 rfl ?_
          refine g_getf w d11_225 0 rfl 9 rfl 39 rfl Via.refl 228 rfl (fun T w => ?_)
          refine g_dup_x1 w d11_228 rfl rfl 229 rfl ?_
          refine g_iconst w d11_229 (1 : Int32) rfl 230 rfl ?_
          refine g_iadd w d11_230 231 rfl ?_
          obtain ⟨ct1, hct1⟩ : ∃ own_z, own_z = ((ct + (1 : Int32)) : Int32) := ⟨_, rfl⟩
          refine g_int hct1.symm ?_
          refine g_putf w d11_231 0 rfl 9 rfl 39 rfl Via.refl 40 (Or.inl rfl) 9 rfl (ty := .int) (by decide) rfl rfl 234 rfl (fun T w => ?_)
          replace w := w.to (L' := [(t, O_SmallGroups (.ref me) (.ref ki) (.int (4 : Int32)) (.ref ba) (.ref am) (.int mo) (.int (0 : Int32)) .null .null (.int ct1) .null .null (.long ls)), (sa, .inr (.long, [(.long x0), (.long x1), (.long x2), (.long x3)])), (ba, .inr (.int, [(.int (0 : Int32)), (.int (1 : Int32)), (.int (2 : Int32)), (.int (3 : Int32))])), (me, .inr (.int, ((((ms.set (4 * c + 3) (.int (-1 : Int32))).set (4 * c) (.int z0)).set (4 * c + 1) (.int z1)).set (4 * c + 1 + 1) (.int z2)))), (ki, .inr (.byte, ks)), (am, .inr (.long, [(.long x0), (.long x1), (.long x2), (.long x3)])), (hd, .inr (.int, [(.int z0)]))]) rfl
          refine g_aloadN w d11_234 rfl rfl 235 rfl ?_
          refine g_alen w d11_235 6 rfl (1 : Int32) rfl 236 rfl ?_
          refine g_iconst w d11_236 (2 : Int32) rfl 237 rfl ?_
          refine g_iadd w d11_237 238 rfl ?_
          refine g_int (x' := (3 : Int32)) (by decide) ?_
          refine g_iload w d11_238 rfl 240 rfl ?_
          refine g_static w (argsL := [(.int (3 : Int32)), (.int (1 : Int32))]) (rest := [(.int ct), (.ref ki)]) (rm12 l Z a0 hw n0 (3 : Int32) (1 : Int32) ([(t, O_SmallGroups (.ref me) (.ref ki) (.int (4 : Int32)) (.ref ba) (.ref am) (.int mo) (.int (0 : Int32)) .null .null (.int ct1) .null .null (.long ls)), (sa, .inr (.long, [(.long x0), (.long x1), (.long x2), (.long x3)])), (ba, .inr (.int, [(.int (0 : Int32)), (.int (1 : Int32)), (.int (2 : Int32)), (.int (3 : Int32))])), (me, .inr (.int, ((((ms.set (4 * c + 3) (.int (-1 : Int32))).set (4 * c) (.int z0)).set (4 * c + 1) (.int z1)).set (4 * c + 1 + 1) (.int z2)))), (ki, .inr (.byte, ks)), (am, .inr (.long, [(.long x0), (.long x1), (.long x2), (.long x3)])), (hd, .inr (.int, [(.int z0)]))])) d11_240 81 rfl 82 rfl 10 rfl 83 rfl ⟨by decide, by decide⟩ pd_0 rfl rfl rfl 2 rfl (by decide) (by decide) (by decide) (by decide) 243 rfl (fun T v L w h => ?_)
          obtain ⟨rfl, hL⟩ := h
          replace w := w.to hL
          refine g_int (x' := (0 : Int32)) (by decide) ?_
          refine g_i2b w d11_243 244 rfl ?_
          refine g_int (x' := (0 : Int32)) (by decide) ?_
          refine g_bastore w d11_244 4 rfl c hct (by rw [g2]; omega) (.int (0 : Int32)) (by decide) 245 rfl (fun T w => ?_)
          replace w := w.to (L' := [(t, O_SmallGroups (.ref me) (.ref ki) (.int (4 : Int32)) (.ref ba) (.ref am) (.int mo) (.int (0 : Int32)) .null .null (.int ct1) .null .null (.long ls)), (sa, .inr (.long, [(.long x0), (.long x1), (.long x2), (.long x3)])), (ba, .inr (.int, [(.int (0 : Int32)), (.int (1 : Int32)), (.int (2 : Int32)), (.int (3 : Int32))])), (me, .inr (.int, ((((ms.set (4 * c + 3) (.int (-1 : Int32))).set (4 * c) (.int z0)).set (4 * c + 1) (.int z1)).set (4 * c + 1 + 1) (.int z2)))), (ki, .inr (.byte, (ks.set c (.int (0 : Int32))))), (am, .inr (.long, [(.long x0), (.long x1), (.long x2), (.long x3)])), (hd, .inr (.int, [(.int z0)]))]) rfl
          refine g_iconst w d11_245 (1 : Int32) rfl 246 rfl ?_
          exact g_iretn w (by simp) d11_246 (by decide) (by decide) ⟨1, ct1, c + 1, _, _, rfl, by rw [hct1]; exact own_inc hct (by omega), own_G3 hG (by omega) ⟨by omega, by omega⟩ ⟨by omega, by omega⟩ ⟨by omega, by omega⟩ (by decide) (by decide), rfl, Or.inl ⟨rfl, rfl, hlt⟩⟩
        · -- pc 210 (on: (0 : Int64) < y2)
          have s2 := (own_ltL (show (0 : Int64).toInt = 0 from rfl) (rfl : y2.toInt = y2.toInt)).mp hc207
          refine g_iconst w d11_210 (1 : Int32) rfl 211 rfl ?_
          refine g_goto w d11_211 215 (by decide) (by decide) ?_
          refine g_iadd w d11_215 216 rfl ?_
          refine g_int (x' := (2 : Int32)) (by decide) ?_
          refine g_iadd w d11_216 217 rfl ?_
          refine g_int (x' := (2 : Int32)) (by decide) ?_
          refine g_istore w d11_217 219 rfl rfl #[.val (.ref t), .val (.ref hd), .val (.int z1), .val (.int z2), .val (.int ((ap + (1 : Int32)) + (1 : Int32))), .val (.int (2 : Int32)), .val (.ref hd), .val (.int (1 : Int32)), .val (.int (1 : Int32)), .val (.int z0)] rfl ?_
          refine g_aloadN w d11_219 rfl rfl 220 rfl ?_
          refine g_getf w d11_220 0 rfl 1 rfl 22 rfl Via.refl 223 rfl (fun T w => ?_)
          refine g_aloadN w d11_223 rfl rfl 224 rfl ?_
          refine g_dup w d11_224 rfl 225 rfl ?_
          refine g_getf w d11_225 0 rfl 9 rfl 39 rfl Via.refl 228 rfl (fun T w => ?_)
          refine g_dup_x1 w d11_228 rfl rfl 229 rfl ?_
          refine g_iconst w d11_229 (1 : Int32) rfl 230 rfl ?_
          refine g_iadd w d11_230 231 rfl ?_
          obtain ⟨ct1, hct1⟩ : ∃ own_z, own_z = ((ct + (1 : Int32)) : Int32) := ⟨_, rfl⟩
          refine g_int hct1.symm ?_
          refine g_putf w d11_231 0 rfl 9 rfl 39 rfl Via.refl 40 (Or.inl rfl) 9 rfl (ty := .int) (by decide) rfl rfl 234 rfl (fun T w => ?_)
          replace w := w.to (L' := [(t, O_SmallGroups (.ref me) (.ref ki) (.int (4 : Int32)) (.ref ba) (.ref am) (.int mo) (.int (0 : Int32)) .null .null (.int ct1) .null .null (.long ls)), (sa, .inr (.long, [(.long x0), (.long x1), (.long x2), (.long x3)])), (ba, .inr (.int, [(.int (0 : Int32)), (.int (1 : Int32)), (.int (2 : Int32)), (.int (3 : Int32))])), (me, .inr (.int, ((((ms.set (4 * c + 3) (.int (-1 : Int32))).set (4 * c) (.int z0)).set (4 * c + 1) (.int z1)).set (4 * c + 1 + 1) (.int z2)))), (ki, .inr (.byte, ks)), (am, .inr (.long, [(.long x0), (.long x1), (.long x2), (.long x3)])), (hd, .inr (.int, [(.int z0)]))]) rfl
          refine g_aloadN w d11_234 rfl rfl 235 rfl ?_
          refine g_alen w d11_235 6 rfl (1 : Int32) rfl 236 rfl ?_
          refine g_iconst w d11_236 (2 : Int32) rfl 237 rfl ?_
          refine g_iadd w d11_237 238 rfl ?_
          refine g_int (x' := (3 : Int32)) (by decide) ?_
          refine g_iload w d11_238 rfl 240 rfl ?_
          refine g_static w (argsL := [(.int (3 : Int32)), (.int (2 : Int32))]) (rest := [(.int ct), (.ref ki)]) (rm12 l Z a0 hw n0 (3 : Int32) (2 : Int32) ([(t, O_SmallGroups (.ref me) (.ref ki) (.int (4 : Int32)) (.ref ba) (.ref am) (.int mo) (.int (0 : Int32)) .null .null (.int ct1) .null .null (.long ls)), (sa, .inr (.long, [(.long x0), (.long x1), (.long x2), (.long x3)])), (ba, .inr (.int, [(.int (0 : Int32)), (.int (1 : Int32)), (.int (2 : Int32)), (.int (3 : Int32))])), (me, .inr (.int, ((((ms.set (4 * c + 3) (.int (-1 : Int32))).set (4 * c) (.int z0)).set (4 * c + 1) (.int z1)).set (4 * c + 1 + 1) (.int z2)))), (ki, .inr (.byte, ks)), (am, .inr (.long, [(.long x0), (.long x1), (.long x2), (.long x3)])), (hd, .inr (.int, [(.int z0)]))])) d11_240 81 rfl 82 rfl 10 rfl 83 rfl ⟨by decide, by decide⟩ pd_0 rfl rfl rfl 2 rfl (by decide) (by decide) (by decide) (by decide) 243 rfl (fun T v L w h => ?_)
          obtain ⟨rfl, hL⟩ := h
          replace w := w.to hL
          refine g_int (x' := (1 : Int32)) (by decide) ?_
          refine g_i2b w d11_243 244 rfl ?_
          refine g_int (x' := (1 : Int32)) (by decide) ?_
          refine g_bastore w d11_244 4 rfl c hct (by rw [g2]; omega) (.int (1 : Int32)) (by decide) 245 rfl (fun T w => ?_)
          replace w := w.to (L' := [(t, O_SmallGroups (.ref me) (.ref ki) (.int (4 : Int32)) (.ref ba) (.ref am) (.int mo) (.int (0 : Int32)) .null .null (.int ct1) .null .null (.long ls)), (sa, .inr (.long, [(.long x0), (.long x1), (.long x2), (.long x3)])), (ba, .inr (.int, [(.int (0 : Int32)), (.int (1 : Int32)), (.int (2 : Int32)), (.int (3 : Int32))])), (me, .inr (.int, ((((ms.set (4 * c + 3) (.int (-1 : Int32))).set (4 * c) (.int z0)).set (4 * c + 1) (.int z1)).set (4 * c + 1 + 1) (.int z2)))), (ki, .inr (.byte, (ks.set c (.int (1 : Int32))))), (am, .inr (.long, [(.long x0), (.long x1), (.long x2), (.long x3)])), (hd, .inr (.int, [(.int z0)]))]) rfl
          refine g_iconst w d11_245 (1 : Int32) rfl 246 rfl ?_
          exact g_iretn w (by simp) d11_246 (by decide) (by decide) ⟨1, ct1, c + 1, _, _, rfl, by rw [hct1]; exact own_inc hct (by omega), own_G3 hG (by omega) ⟨by omega, by omega⟩ ⟨by omega, by omega⟩ ⟨by omega, by omega⟩ (by decide) (by decide), rfl, Or.inl ⟨rfl, rfl, hlt⟩⟩
    · -- pc 138 (on: (0 : Int64) < y0)
      have s0 := (own_ltL (show (0 : Int64).toInt = 0 from rfl) (rfl : y0.toInt = y0.toInt)).mp hc135
      refine g_iconst w d11_138 (1 : Int32) rfl 139 rfl ?_
      refine g_goto w d11_139 143 (by decide) (by decide) ?_
      refine g_iadd w d11_143 144 rfl ?_
      refine g_int (x' := (1 : Int32)) (by decide) ?_
      refine g_istore w d11_144 146 rfl rfl #[.val (.ref t), .val (.ref hd), .val (.int z1), .val (.int z2), .val (.int (ap + (1 : Int32))), .val (.int (1 : Int32)), .val (.ref hd), .val (.int (1 : Int32)), .val (.int (0 : Int32)), .val (.int z0)] rfl ?_
      refine g_iinc w d11_146 149 rfl rfl (by decide) #[.val (.ref t), .val (.ref hd), .val (.int z1), .val (.int z2), .val (.int (ap + (1 : Int32))), .val (.int (1 : Int32)), .val (.ref hd), .val (.int (1 : Int32)), .val (.int (1 : Int32)), .val (.int z0)] rfl ?_
      refine g_goto w d11_149 93 (by decide) (by decide) ?_
      refine g_iload w d11_93 rfl 95 rfl ?_
      refine g_iload w d11_95 rfl 97 rfl ?_
      refine g_icmp_ge w d11_97 152 (by decide) (by decide) 100 rfl (fun hc97 => ?_) (fun h => absurd h (by decide))
      refine g_aloadN w d11_152 rfl rfl 153 rfl ?_
      refine g_getf w d11_153 0 rfl 0 rfl 19 rfl Via.refl 156 rfl (fun T w => ?_)
      refine g_iload w d11_156 rfl 158 rfl ?_
      refine g_iinc w d11_158 161 rfl rfl rfl #[.val (.ref t), .val (.ref hd), .val (.int z1), .val (.int z2), .val (.int ((ap + (1 : Int32)) + (1 : Int32))), .val (.int (1 : Int32)), .val (.ref hd), .val (.int (1 : Int32)), .val (.int (1 : Int32)), .val (.int z0)] rfl ?_
      refine g_aloadN w d11_161 rfl rfl 162 rfl ?_
      refine g_getf w d11_162 0 rfl 3 rfl 26 rfl Via.refl 165 rfl (fun T w => ?_)
      refine g_iloadN w d11_165 rfl 166 rfl ?_
      refine g_iaload w d11_166 2 rfl p1 hz1 hb1 167 rfl ?_
      refine g_iastore w d11_167 3 rfl (4 * c + 1) (own_inc hap' (by omega)) (by simp only [List.length_set, g1]; omega) (.int z1) rfl 168 rfl (fun T w => ?_)
      replace w := w.to (L' := [(t, O_SmallGroups (.ref me) (.ref ki) (.int (4 : Int32)) (.ref ba) (.ref am) (.int mo) (.int (0 : Int32)) .null .null (.int ct) .null .null (.long ls)), (sa, .inr (.long, [(.long x0), (.long x1), (.long x2), (.long x3)])), (ba, .inr (.int, [(.int (0 : Int32)), (.int (1 : Int32)), (.int (2 : Int32)), (.int (3 : Int32))])), (me, .inr (.int, (((ms.set (4 * c + 3) (.int (-1 : Int32))).set (4 * c) (.int z0)).set (4 * c + 1) (.int z1)))), (ki, .inr (.byte, ks)), (am, .inr (.long, [(.long x0), (.long x1), (.long x2), (.long x3)])), (hd, .inr (.int, [(.int z0)]))]) rfl
      refine g_aloadN w d11_168 rfl rfl 169 rfl ?_
      refine g_getf w d11_169 0 rfl 0 rfl 19 rfl Via.refl 172 rfl (fun T w => ?_)
      refine g_iload w d11_172 rfl 174 rfl ?_
      refine g_aloadN w d11_174 rfl rfl 175 rfl ?_
      refine g_getf w d11_175 0 rfl 3 rfl 26 rfl Via.refl 178 rfl (fun T w => ?_)
      refine g_iloadN w d11_178 rfl 179 rfl ?_
      refine g_iaload w d11_179 2 rfl p2 hz2 hb2 180 rfl ?_
      refine g_iastore w d11_180 3 rfl (4 * c + 1 + 1) (own_inc (own_inc hap' (by omega)) (by omega)) (by simp only [List.length_set, g1]; omega) (.int z2) rfl 181 rfl (fun T w => ?_)
      replace w := w.to (L' := [(t, O_SmallGroups (.ref me) (.ref ki) (.int (4 : Int32)) (.ref ba) (.ref am) (.int mo) (.int (0 : Int32)) .null .null (.int ct) .null .null (.long ls)), (sa, .inr (.long, [(.long x0), (.long x1), (.long x2), (.long x3)])), (ba, .inr (.int, [(.int (0 : Int32)), (.int (1 : Int32)), (.int (2 : Int32)), (.int (3 : Int32))])), (me, .inr (.int, ((((ms.set (4 * c + 3) (.int (-1 : Int32))).set (4 * c) (.int z0)).set (4 * c + 1) (.int z1)).set (4 * c + 1 + 1) (.int z2)))), (ki, .inr (.byte, ks)), (am, .inr (.long, [(.long x0), (.long x1), (.long x2), (.long x3)])), (hd, .inr (.int, [(.int z0)]))]) rfl
      refine g_iload w d11_181 rfl 183 rfl ?_
      refine g_aloadN w d11_183 rfl rfl 184 rfl ?_
      refine g_getf w d11_184 0 rfl 4 rfl 28 rfl Via.refl 187 rfl (fun T w => ?_)
      refine g_iloadN w d11_187 rfl 188 rfl ?_
      refine g_laload w d11_188 5 rfl p1 hz1 hy1 189 rfl ?_
      refine g_lconst w d11_189 (0 : Int64) rfl 190 rfl ?_
      refine g_lcmp w d11_190 191 rfl ?_
      refine g_lif_le w d11_191 198 (by decide) (by decide) 194 rfl (fun hc191 => ?_) (fun hc191 => ?_)
      · -- pc 198 (taken: not (0 : Int64) < y1)
        have s1 := mt (own_ltL (show (0 : Int64).toInt = 0 from rfl) (rfl : y1.toInt = y1.toInt)).mpr hc191
        refine g_iconst w d11_198 (0 : Int32) rfl 199 rfl ?_
        refine g_aloadN w d11_199 rfl rfl 200 rfl ?_
        refine g_getf w d11_200 0 rfl 4 rfl 28 rfl Via.refl 203 rfl (fun T w => ?_)
        refine g_iloadN w d11_203 rfl 204 rfl ?_
        refine g_laload w d11_204 5 rfl p2 hz2 hy2 205 rfl ?_
        refine g_lconst w d11_205 (0 : Int64) rfl 206 rfl ?_
        refine g_lcmp w d11_206 207 rfl ?_
        refine g_lif_le w d11_207 214 (by decide) (by decide) 210 rfl (fun hc207 => ?_) (fun hc207 => ?_)
        · -- pc 214 (taken: not (0 : Int64) < y2)
          have s2 := mt (own_ltL (show (0 : Int64).toInt = 0 from rfl) (rfl : y2.toInt = y2.toInt)).mpr hc207
          refine g_iconst w d11_214 (0 : Int32) rfl 215 rfl ?_
          refine g_iadd w d11_215 216 rfl ?_
          refine g_int (x' := (0 : Int32)) (by decide) ?_
          refine g_iadd w d11_216 217 rfl ?_
          refine g_int (x' := (1 : Int32)) (by decide) ?_
          refine g_istore w d11_217 219 rfl rfl #[.val (.ref t), .val (.ref hd), .val (.int z1), .val (.int z2), .val (.int ((ap + (1 : Int32)) + (1 : Int32))), .val (.int (1 : Int32)), .val (.ref hd), .val (.int (1 : Int32)), .val (.int (1 : Int32)), .val (.int z0)] rfl ?_
          refine g_aloadN w d11_219 rfl rfl 220 rfl ?_
          refine g_getf w d11_220 0 rfl 1 rfl 22 rfl Via.refl 223 rfl (fun T w => ?_)
          refine g_aloadN w d11_223 rfl rfl 224 rfl ?_
          refine g_dup w d11_224 rfl 225 rfl ?_
          refine g_getf w d11_225 0 rfl 9 rfl 39 rfl Via.refl 228 rfl (fun T w => ?_)
          refine g_dup_x1 w d11_228 rfl rfl 229 rfl ?_
          refine g_iconst w d11_229 (1 : Int32) rfl 230 rfl ?_
          refine g_iadd w d11_230 231 rfl ?_
          obtain ⟨ct1, hct1⟩ : ∃ own_z, own_z = ((ct + (1 : Int32)) : Int32) := ⟨_, rfl⟩
          refine g_int hct1.symm ?_
          refine g_putf w d11_231 0 rfl 9 rfl 39 rfl Via.refl 40 (Or.inl rfl) 9 rfl (ty := .int) (by decide) rfl rfl 234 rfl (fun T w => ?_)
          replace w := w.to (L' := [(t, O_SmallGroups (.ref me) (.ref ki) (.int (4 : Int32)) (.ref ba) (.ref am) (.int mo) (.int (0 : Int32)) .null .null (.int ct1) .null .null (.long ls)), (sa, .inr (.long, [(.long x0), (.long x1), (.long x2), (.long x3)])), (ba, .inr (.int, [(.int (0 : Int32)), (.int (1 : Int32)), (.int (2 : Int32)), (.int (3 : Int32))])), (me, .inr (.int, ((((ms.set (4 * c + 3) (.int (-1 : Int32))).set (4 * c) (.int z0)).set (4 * c + 1) (.int z1)).set (4 * c + 1 + 1) (.int z2)))), (ki, .inr (.byte, ks)), (am, .inr (.long, [(.long x0), (.long x1), (.long x2), (.long x3)])), (hd, .inr (.int, [(.int z0)]))]) rfl
          refine g_aloadN w d11_234 rfl rfl 235 rfl ?_
          refine g_alen w d11_235 6 rfl (1 : Int32) rfl 236 rfl ?_
          refine g_iconst w d11_236 (2 : Int32) rfl 237 rfl ?_
          refine g_iadd w d11_237 238 rfl ?_
          refine g_int (x' := (3 : Int32)) (by decide) ?_
          refine g_iload w d11_238 rfl 240 rfl ?_
          refine g_static w (argsL := [(.int (3 : Int32)), (.int (1 : Int32))]) (rest := [(.int ct), (.ref ki)]) (rm12 l Z a0 hw n0 (3 : Int32) (1 : Int32) ([(t, O_SmallGroups (.ref me) (.ref ki) (.int (4 : Int32)) (.ref ba) (.ref am) (.int mo) (.int (0 : Int32)) .null .null (.int ct1) .null .null (.long ls)), (sa, .inr (.long, [(.long x0), (.long x1), (.long x2), (.long x3)])), (ba, .inr (.int, [(.int (0 : Int32)), (.int (1 : Int32)), (.int (2 : Int32)), (.int (3 : Int32))])), (me, .inr (.int, ((((ms.set (4 * c + 3) (.int (-1 : Int32))).set (4 * c) (.int z0)).set (4 * c + 1) (.int z1)).set (4 * c + 1 + 1) (.int z2)))), (ki, .inr (.byte, ks)), (am, .inr (.long, [(.long x0), (.long x1), (.long x2), (.long x3)])), (hd, .inr (.int, [(.int z0)]))])) d11_240 81 rfl 82 rfl 10 rfl 83 rfl ⟨by decide, by decide⟩ pd_0 rfl rfl rfl 2 rfl (by decide) (by decide) (by decide) (by decide) 243 rfl (fun T v L w h => ?_)
          obtain ⟨rfl, hL⟩ := h
          replace w := w.to hL
          refine g_int (x' := (0 : Int32)) (by decide) ?_
          refine g_i2b w d11_243 244 rfl ?_
          refine g_int (x' := (0 : Int32)) (by decide) ?_
          refine g_bastore w d11_244 4 rfl c hct (by rw [g2]; omega) (.int (0 : Int32)) (by decide) 245 rfl (fun T w => ?_)
          replace w := w.to (L' := [(t, O_SmallGroups (.ref me) (.ref ki) (.int (4 : Int32)) (.ref ba) (.ref am) (.int mo) (.int (0 : Int32)) .null .null (.int ct1) .null .null (.long ls)), (sa, .inr (.long, [(.long x0), (.long x1), (.long x2), (.long x3)])), (ba, .inr (.int, [(.int (0 : Int32)), (.int (1 : Int32)), (.int (2 : Int32)), (.int (3 : Int32))])), (me, .inr (.int, ((((ms.set (4 * c + 3) (.int (-1 : Int32))).set (4 * c) (.int z0)).set (4 * c + 1) (.int z1)).set (4 * c + 1 + 1) (.int z2)))), (ki, .inr (.byte, (ks.set c (.int (0 : Int32))))), (am, .inr (.long, [(.long x0), (.long x1), (.long x2), (.long x3)])), (hd, .inr (.int, [(.int z0)]))]) rfl
          refine g_iconst w d11_245 (1 : Int32) rfl 246 rfl ?_
          exact g_iretn w (by simp) d11_246 (by decide) (by decide) ⟨1, ct1, c + 1, _, _, rfl, by rw [hct1]; exact own_inc hct (by omega), own_G3 hG (by omega) ⟨by omega, by omega⟩ ⟨by omega, by omega⟩ ⟨by omega, by omega⟩ (by decide) (by decide), rfl, Or.inl ⟨rfl, rfl, hlt⟩⟩
        · -- pc 210 (on: (0 : Int64) < y2)
          have s2 := (own_ltL (show (0 : Int64).toInt = 0 from rfl) (rfl : y2.toInt = y2.toInt)).mp hc207
          refine g_iconst w d11_210 (1 : Int32) rfl 211 rfl ?_
          refine g_goto w d11_211 215 (by decide) (by decide) ?_
          refine g_iadd w d11_215 216 rfl ?_
          refine g_int (x' := (1 : Int32)) (by decide) ?_
          refine g_iadd w d11_216 217 rfl ?_
          refine g_int (x' := (2 : Int32)) (by decide) ?_
          refine g_istore w d11_217 219 rfl rfl #[.val (.ref t), .val (.ref hd), .val (.int z1), .val (.int z2), .val (.int ((ap + (1 : Int32)) + (1 : Int32))), .val (.int (2 : Int32)), .val (.ref hd), .val (.int (1 : Int32)), .val (.int (1 : Int32)), .val (.int z0)] rfl ?_
          refine g_aloadN w d11_219 rfl rfl 220 rfl ?_
          refine g_getf w d11_220 0 rfl 1 rfl 22 rfl Via.refl 223 rfl (fun T w => ?_)
          refine g_aloadN w d11_223 rfl rfl 224 rfl ?_
          refine g_dup w d11_224 rfl 225 rfl ?_
          refine g_getf w d11_225 0 rfl 9 rfl 39 rfl Via.refl 228 rfl (fun T w => ?_)
          refine g_dup_x1 w d11_228 rfl rfl 229 rfl ?_
          refine g_iconst w d11_229 (1 : Int32) rfl 230 rfl ?_
          refine g_iadd w d11_230 231 rfl ?_
          obtain ⟨ct1, hct1⟩ : ∃ own_z, own_z = ((ct + (1 : Int32)) : Int32) := ⟨_, rfl⟩
          refine g_int hct1.symm ?_
          refine g_putf w d11_231 0 rfl 9 rfl 39 rfl Via.refl 40 (Or.inl rfl) 9 rfl (ty := .int) (by decide) rfl rfl 234 rfl (fun T w => ?_)
          replace w := w.to (L' := [(t, O_SmallGroups (.ref me) (.ref ki) (.int (4 : Int32)) (.ref ba) (.ref am) (.int mo) (.int (0 : Int32)) .null .null (.int ct1) .null .null (.long ls)), (sa, .inr (.long, [(.long x0), (.long x1), (.long x2), (.long x3)])), (ba, .inr (.int, [(.int (0 : Int32)), (.int (1 : Int32)), (.int (2 : Int32)), (.int (3 : Int32))])), (me, .inr (.int, ((((ms.set (4 * c + 3) (.int (-1 : Int32))).set (4 * c) (.int z0)).set (4 * c + 1) (.int z1)).set (4 * c + 1 + 1) (.int z2)))), (ki, .inr (.byte, ks)), (am, .inr (.long, [(.long x0), (.long x1), (.long x2), (.long x3)])), (hd, .inr (.int, [(.int z0)]))]) rfl
          refine g_aloadN w d11_234 rfl rfl 235 rfl ?_
          refine g_alen w d11_235 6 rfl (1 : Int32) rfl 236 rfl ?_
          refine g_iconst w d11_236 (2 : Int32) rfl 237 rfl ?_
          refine g_iadd w d11_237 238 rfl ?_
          refine g_int (x' := (3 : Int32)) (by decide) ?_
          refine g_iload w d11_238 rfl 240 rfl ?_
          refine g_static w (argsL := [(.int (3 : Int32)), (.int (2 : Int32))]) (rest := [(.int ct), (.ref ki)]) (rm12 l Z a0 hw n0 (3 : Int32) (2 : Int32) ([(t, O_SmallGroups (.ref me) (.ref ki) (.int (4 : Int32)) (.ref ba) (.ref am) (.int mo) (.int (0 : Int32)) .null .null (.int ct1) .null .null (.long ls)), (sa, .inr (.long, [(.long x0), (.long x1), (.long x2), (.long x3)])), (ba, .inr (.int, [(.int (0 : Int32)), (.int (1 : Int32)), (.int (2 : Int32)), (.int (3 : Int32))])), (me, .inr (.int, ((((ms.set (4 * c + 3) (.int (-1 : Int32))).set (4 * c) (.int z0)).set (4 * c + 1) (.int z1)).set (4 * c + 1 + 1) (.int z2)))), (ki, .inr (.byte, ks)), (am, .inr (.long, [(.long x0), (.long x1), (.long x2), (.long x3)])), (hd, .inr (.int, [(.int z0)]))])) d11_240 81 rfl 82 rfl 10 rfl 83 rfl ⟨by decide, by decide⟩ pd_0 rfl rfl rfl 2 rfl (by decide) (by decide) (by decide) (by decide) 243 rfl (fun T v L w h => ?_)
          obtain ⟨rfl, hL⟩ := h
          replace w := w.to hL
          refine g_int (x' := (1 : Int32)) (by decide) ?_
          refine g_i2b w d11_243 244 rfl ?_
          refine g_int (x' := (1 : Int32)) (by decide) ?_
          refine g_bastore w d11_244 4 rfl c hct (by rw [g2]; omega) (.int (1 : Int32)) (by decide) 245 rfl (fun T w => ?_)
          replace w := w.to (L' := [(t, O_SmallGroups (.ref me) (.ref ki) (.int (4 : Int32)) (.ref ba) (.ref am) (.int mo) (.int (0 : Int32)) .null .null (.int ct1) .null .null (.long ls)), (sa, .inr (.long, [(.long x0), (.long x1), (.long x2), (.long x3)])), (ba, .inr (.int, [(.int (0 : Int32)), (.int (1 : Int32)), (.int (2 : Int32)), (.int (3 : Int32))])), (me, .inr (.int, ((((ms.set (4 * c + 3) (.int (-1 : Int32))).set (4 * c) (.int z0)).set (4 * c + 1) (.int z1)).set (4 * c + 1 + 1) (.int z2)))), (ki, .inr (.byte, (ks.set c (.int (1 : Int32))))), (am, .inr (.long, [(.long x0), (.long x1), (.long x2), (.long x3)])), (hd, .inr (.int, [(.int z0)]))]) rfl
          refine g_iconst w d11_245 (1 : Int32) rfl 246 rfl ?_
          exact g_iretn w (by simp) d11_246 (by decide) (by decide) ⟨1, ct1, c + 1, _, _, rfl, by rw [hct1]; exact own_inc hct (by omega), own_G3 hG (by omega) ⟨by omega, by omega⟩ ⟨by omega, by omega⟩ ⟨by omega, by omega⟩ (by decide) (by decide), rfl, Or.inl ⟨rfl, rfl, hlt⟩⟩
      · -- pc 194 (on: (0 : Int64) < y1)
        have s1 := (own_ltL (show (0 : Int64).toInt = 0 from rfl) (rfl : y1.toInt = y1.toInt)).mp hc191
        refine g_iconst w d11_194 (1 : Int32) rfl 195 rfl ?_
        refine g_goto w d11_195 199 (by decide) (by decide) ?_
        refine g_aloadN w d11_199 rfl rfl 200 rfl ?_
        refine g_getf w d11_200 0 rfl 4 rfl 28 rfl Via.refl 203 rfl (fun T w => ?_)
        refine g_iloadN w d11_203 rfl 204 rfl ?_
        refine g_laload w d11_204 5 rfl p2 hz2 hy2 205 rfl ?_
        refine g_lconst w d11_205 (0 : Int64) rfl 206 rfl ?_
        refine g_lcmp w d11_206 207 rfl ?_
        refine g_lif_le w d11_207 214 (by decide) (by decide) 210 rfl (fun hc207 => ?_) (fun hc207 => ?_)
        · -- pc 214 (taken: not (0 : Int64) < y2)
          have s2 := mt (own_ltL (show (0 : Int64).toInt = 0 from rfl) (rfl : y2.toInt = y2.toInt)).mpr hc207
          refine g_iconst w d11_214 (0 : Int32) rfl 215 rfl ?_
          refine g_iadd w d11_215 216 rfl ?_
          refine g_int (x' := (1 : Int32)) (by decide) ?_
          refine g_iadd w d11_216 217 rfl ?_
          refine g_int (x' := (2 : Int32)) (by decide) ?_
          refine g_istore w d11_217 219 rfl rfl #[.val (.ref t), .val (.ref hd), .val (.int z1), .val (.int z2), .val (.int ((ap + (1 : Int32)) + (1 : Int32))), .val (.int (2 : Int32)), .val (.ref hd), .val (.int (1 : Int32)), .val (.int (1 : Int32)), .val (.int z0)] rfl ?_
          refine g_aloadN w d11_219 rfl rfl 220 rfl ?_
          refine g_getf w d11_220 0 rfl 1 rfl 22 rfl Via.refl 223 rfl (fun T w => ?_)
          refine g_aloadN w d11_223 rfl rfl 224 rfl ?_
          refine g_dup w d11_224 rfl 225 rfl ?_
          refine g_getf w d11_225 0 rfl 9 rfl 39 rfl Via.refl 228 rfl (fun T w => ?_)
          refine g_dup_x1 w d11_228 rfl rfl 229 rfl ?_
          refine g_iconst w d11_229 (1 : Int32) rfl 230 rfl ?_
          refine g_iadd w d11_230 231 rfl ?_
          obtain ⟨ct1, hct1⟩ : ∃ own_z, own_z = ((ct + (1 : Int32)) : Int32) := ⟨_, rfl⟩
          refine g_int hct1.symm ?_
          refine g_putf w d11_231 0 rfl 9 rfl 39 rfl Via.refl 40 (Or.inl rfl) 9 rfl (ty := .int) (by decide) rfl rfl 234 rfl (fun T w => ?_)
          replace w := w.to (L' := [(t, O_SmallGroups (.ref me) (.ref ki) (.int (4 : Int32)) (.ref ba) (.ref am) (.int mo) (.int (0 : Int32)) .null .null (.int ct1) .null .null (.long ls)), (sa, .inr (.long, [(.long x0), (.long x1), (.long x2), (.long x3)])), (ba, .inr (.int, [(.int (0 : Int32)), (.int (1 : Int32)), (.int (2 : Int32)), (.int (3 : Int32))])), (me, .inr (.int, ((((ms.set (4 * c + 3) (.int (-1 : Int32))).set (4 * c) (.int z0)).set (4 * c + 1) (.int z1)).set (4 * c + 1 + 1) (.int z2)))), (ki, .inr (.byte, ks)), (am, .inr (.long, [(.long x0), (.long x1), (.long x2), (.long x3)])), (hd, .inr (.int, [(.int z0)]))]) rfl
          refine g_aloadN w d11_234 rfl rfl 235 rfl ?_
          refine g_alen w d11_235 6 rfl (1 : Int32) rfl 236 rfl ?_
          refine g_iconst w d11_236 (2 : Int32) rfl 237 rfl ?_
          refine g_iadd w d11_237 238 rfl ?_
          refine g_int (x' := (3 : Int32)) (by decide) ?_
          refine g_iload w d11_238 rfl 240 rfl ?_
          refine g_static w (argsL := [(.int (3 : Int32)), (.int (2 : Int32))]) (rest := [(.int ct), (.ref ki)]) (rm12 l Z a0 hw n0 (3 : Int32) (2 : Int32) ([(t, O_SmallGroups (.ref me) (.ref ki) (.int (4 : Int32)) (.ref ba) (.ref am) (.int mo) (.int (0 : Int32)) .null .null (.int ct1) .null .null (.long ls)), (sa, .inr (.long, [(.long x0), (.long x1), (.long x2), (.long x3)])), (ba, .inr (.int, [(.int (0 : Int32)), (.int (1 : Int32)), (.int (2 : Int32)), (.int (3 : Int32))])), (me, .inr (.int, ((((ms.set (4 * c + 3) (.int (-1 : Int32))).set (4 * c) (.int z0)).set (4 * c + 1) (.int z1)).set (4 * c + 1 + 1) (.int z2)))), (ki, .inr (.byte, ks)), (am, .inr (.long, [(.long x0), (.long x1), (.long x2), (.long x3)])), (hd, .inr (.int, [(.int z0)]))])) d11_240 81 rfl 82 rfl 10 rfl 83 rfl ⟨by decide, by decide⟩ pd_0 rfl rfl rfl 2 rfl (by decide) (by decide) (by decide) (by decide) 243 rfl (fun T v L w h => ?_)
          obtain ⟨rfl, hL⟩ := h
          replace w := w.to hL
          refine g_int (x' := (1 : Int32)) (by decide) ?_
          refine g_i2b w d11_243 244 rfl ?_
          refine g_int (x' := (1 : Int32)) (by decide) ?_
          refine g_bastore w d11_244 4 rfl c hct (by rw [g2]; omega) (.int (1 : Int32)) (by decide) 245 rfl (fun T w => ?_)
          replace w := w.to (L' := [(t, O_SmallGroups (.ref me) (.ref ki) (.int (4 : Int32)) (.ref ba) (.ref am) (.int mo) (.int (0 : Int32)) .null .null (.int ct1) .null .null (.long ls)), (sa, .inr (.long, [(.long x0), (.long x1), (.long x2), (.long x3)])), (ba, .inr (.int, [(.int (0 : Int32)), (.int (1 : Int32)), (.int (2 : Int32)), (.int (3 : Int32))])), (me, .inr (.int, ((((ms.set (4 * c + 3) (.int (-1 : Int32))).set (4 * c) (.int z0)).set (4 * c + 1) (.int z1)).set (4 * c + 1 + 1) (.int z2)))), (ki, .inr (.byte, (ks.set c (.int (1 : Int32))))), (am, .inr (.long, [(.long x0), (.long x1), (.long x2), (.long x3)])), (hd, .inr (.int, [(.int z0)]))]) rfl
          refine g_iconst w d11_245 (1 : Int32) rfl 246 rfl ?_
          exact g_iretn w (by simp) d11_246 (by decide) (by decide) ⟨1, ct1, c + 1, _, _, rfl, by rw [hct1]; exact own_inc hct (by omega), own_G3 hG (by omega) ⟨by omega, by omega⟩ ⟨by omega, by omega⟩ ⟨by omega, by omega⟩ (by decide) (by decide), rfl, Or.inl ⟨rfl, rfl, hlt⟩⟩
        · -- pc 210 (on: (0 : Int64) < y2)
          have s2 := (own_ltL (show (0 : Int64).toInt = 0 from rfl) (rfl : y2.toInt = y2.toInt)).mp hc207
          refine g_iconst w d11_210 (1 : Int32) rfl 211 rfl ?_
          refine g_goto w d11_211 215 (by decide) (by decide) ?_
          refine g_iadd w d11_215 216 rfl ?_
          refine g_int (x' := (2 : Int32)) (by decide) ?_
          refine g_iadd w d11_216 217 rfl ?_
          refine g_int (x' := (3 : Int32)) (by decide) ?_
          refine g_istore w d11_217 219 rfl rfl #[.val (.ref t), .val (.ref hd), .val (.int z1), .val (.int z2), .val (.int ((ap + (1 : Int32)) + (1 : Int32))), .val (.int (3 : Int32)), .val (.ref hd), .val (.int (1 : Int32)), .val (.int (1 : Int32)), .val (.int z0)] rfl ?_
          exfalso; omega
  · -- pc 11 (on: ct = mo)
    refine g_iconst w d11_11 (0 : Int32) rfl 12 rfl ?_
    exact g_iretn w (by simp) d11_12 (by decide) (by decide) ⟨0, ct, c, ms, ks, rfl, hct, hG, rfl, Or.inr ⟨rfl, rfl, (own_eqN hct hmo).mp hc8⟩⟩
set_option maxRecDepth 65536 in
set_option maxHeartbeats 40000000 in
theorem rm11_2 (l : Launch) (Z : State) (a0 : Array Value) (hw : ∀ d ∈ tables_1, d.before a0 Z = true) (n0 : Nat) (t sa ba me ki am hd : Addr) (x0 x1 x2 x3 : Int64) (mo ct : Int32) (ls : Int64) (ms ks : List Value) (c M : Nat) (z0 z1 z2 z3 : Int32) (p0 p1 p2 p3 : Nat) (y0 y1 y2 y3 : Int64) (hmo : mo.toInt = (M : Int)) (hM : M ≤ 7) (hct : ct.toInt = (c : Int)) (hcM : c ≤ M) (hG : own_G c ms ks) (hz0 : z0.toInt = (p0 : Int)) (hp0 : p0 < 4) (hb0 : [Value.int (0 : Int32), Value.int (1 : Int32), Value.int (2 : Int32), Value.int (3 : Int32)][p0]? = some (Value.int z0)) (hy0 : [Value.long x0, Value.long x1, Value.long x2, Value.long x3][p0]? = some (Value.long y0)) (hn0 : y0.toInt ≠ 0) (hz1 : z1.toInt = (p1 : Int)) (hp1 : p1 < 4) (hb1 : [Value.int (0 : Int32), Value.int (1 : Int32), Value.int (2 : Int32), Value.int (3 : Int32)][p1]? = some (Value.int z1)) (hy1 : [Value.long x0, Value.long x1, Value.long x2, Value.long x3][p1]? = some (Value.long y1)) (hn1 : y1.toInt ≠ 0) (hz2 : z2.toInt = (p2 : Int)) (hp2 : p2 < 4) (hb2 : [Value.int (0 : Int32), Value.int (1 : Int32), Value.int (2 : Int32), Value.int (3 : Int32)][p2]? = some (Value.int z2)) (hy2 : [Value.long x0, Value.long x1, Value.long x2, Value.long x3][p2]? = some (Value.long y2)) (hn2 : y2.toInt ≠ 0) (hz3 : z3.toInt = (p3 : Int)) (hp3 : p3 < 4) (hb3 : [Value.int (0 : Int32), Value.int (1 : Int32), Value.int (2 : Int32), Value.int (3 : Int32)][p3]? = some (Value.int z3)) (hy3 : [Value.long x0, Value.long x1, Value.long x2, Value.long x3][p3]? = some (Value.long y3)) (hn3 : y3.toInt ≠ 0) (hsum : y0.toInt + y1.toInt + y2.toInt + y3.toInt = 0) :
    Con l (⟨"com/example/cangdan/cangdan/fewest/SmallGroups", "add", "([III)Z"⟩ : MethodName) prog_29_method_16_code 10 (some .boolean) ({ frames := 1, cells := 0, slots := 0, locals := 15 } : Room) Z n0 #[(.ref t), (.ref hd), (.int z2), (.int z3)] ([(t, O_SmallGroups (.ref me) (.ref ki) (.int (4 : Int32)) (.ref ba) (.ref am) (.int mo) (.int (0 : Int32)) .null .null (.int ct) .null .null (.long ls)), (sa, .inr (.long, [(.long x0), (.long x1), (.long x2), (.long x3)])), (ba, .inr (.int, [(.int (0 : Int32)), (.int (1 : Int32)), (.int (2 : Int32)), (.int (3 : Int32))])), (me, .inr (.int, ms)), (ki, .inr (.byte, ks)), (am, .inr (.long, [(.long x0), (.long x1), (.long x2), (.long x3)])), (hd, .inr (.int, [(.int z0), (.int z1)]))]) (fun v L' => ∃ (rr ct' : Int32) (c' : Nat) (ms' ks' : List Value), v = some (.int rr) ∧ ct'.toInt = (c' : Int) ∧ own_G c' ms' ks' ∧ L' = [(t, O_SmallGroups (.ref me) (.ref ki) (.int (4 : Int32)) (.ref ba) (.ref am) (.int mo) (.int (0 : Int32)) .null .null (.int ct') .null .null (.long ls)), (sa, .inr (.long, [(.long x0), (.long x1), (.long x2), (.long x3)])), (ba, .inr (.int, [(.int (0 : Int32)), (.int (1 : Int32)), (.int (2 : Int32)), (.int (3 : Int32))])), (me, .inr (.int, ms')), (ki, .inr (.byte, ks')), (am, .inr (.long, [(.long x0), (.long x1), (.long x2), (.long x3)])), (hd, .inr (.int, [(.int z0), (.int z1)]))] ∧ ((rr = 1 ∧ c' = c + 1 ∧ c < M) ∨ (rr = 0 ∧ c' = c ∧ c = M))) := by
  refine Con.of (ws := tables_1) (a0 := a0) pn_11 hw ?_
  intro p e s m below meth cde T kb w
  refine g_entry #[.val (.ref t), .val (.ref hd), .val (.int z2), .val (.int z3), .unset, .unset, .unset, .unset, .unset, .unset] (by first | (simp [entryFrame, mkF, argsToLocals, Value.category]; done) | rfl) ?_
  obtain ⟨g1, g2, -, -⟩ := id hG
  refine g_aloadN w d11_0 rfl rfl 1 rfl ?_
  refine g_getf w d11_1 0 rfl 9 rfl 39 rfl Via.refl 4 rfl (fun T w => ?_)
  refine g_aloadN w d11_4 rfl rfl 5 rfl ?_
  refine g_getf w d11_5 0 rfl 5 rfl 30 rfl Via.refl 8 rfl (fun T w => ?_)
  refine g_icmp_ne w d11_8 13 (by decide) (by decide) 11 rfl (fun hc8 => ?_) (fun hc8 => ?_)
  · -- pc 13 (taken: not ct = mo)
    refine g_aloadN w d11_13 rfl rfl 14 rfl ?_
    refine g_getf w d11_14 0 rfl 9 rfl 39 rfl Via.refl 17 rfl (fun T w => ?_)
    refine g_aloadN w d11_17 rfl rfl 18 rfl ?_
    refine g_getf w d11_18 0 rfl 1 rfl 22 rfl Via.refl 21 rfl (fun T w => ?_)
    refine g_alen w d11_21 4 rfl (16 : Int32) (by rw [g2]; rfl) 22 rfl ?_
    refine g_icmp_ne w d11_22 61 (by decide) (by decide) 25 rfl (fun hc22 => ?_) (fun h => absurd h (fun q => by have := (own_eqN hct (show (16 : Int32).toInt = ((16 : Nat) : Int) from rfl)).mp q; omega))
    refine g_iconst w d11_61 (4 : Int32) rfl 62 rfl ?_
    refine g_aloadN w d11_62 rfl rfl 63 rfl ?_
    refine g_getf w d11_63 0 rfl 9 rfl 39 rfl Via.refl 66 rfl (fun T w => ?_)
    refine g_imul w d11_66 67 rfl ?_
    obtain ⟨ap, hap⟩ : ∃ own_z, own_z = (((4 : Int32) * ct) : Int32) := ⟨_, rfl⟩
    refine g_istore w d11_67 69 rfl hap.symm #[.val (.ref t), .val (.ref hd), .val (.int z2), .val (.int z3), .val (.int ap), .unset, .unset, .unset, .unset, .unset] rfl ?_
    have hap' : ap.toInt = ((4 * c : Nat) : Int) := by rw [hap]; exact own_mul4 hct (by omega)
    have hlt : c < M := by have := mt (own_eqN hct hmo).mpr hc8; omega
    refine g_aloadN w d11_69 rfl rfl 70 rfl ?_
    refine g_getf w d11_70 0 rfl 0 rfl 19 rfl Via.refl 73 rfl (fun T w => ?_)
    refine g_iload w d11_73 rfl 75 rfl ?_
    refine g_iconst w d11_75 (3 : Int32) rfl 76 rfl ?_
    refine g_iadd w d11_76 77 rfl ?_
    refine g_iconst w d11_77 (-1 : Int32) rfl 78 rfl ?_
    refine g_iastore w d11_78 3 rfl (4 * c + 3) (own_add3 hap' (by omega)) (by simp only [List.length_set, g1]; omega) (.int (-1 : Int32)) rfl 79 rfl (fun T w => ?_)
    replace w := w.to (L' := [(t, O_SmallGroups (.ref me) (.ref ki) (.int (4 : Int32)) (.ref ba) (.ref am) (.int mo) (.int (0 : Int32)) .null .null (.int ct) .null .null (.long ls)), (sa, .inr (.long, [(.long x0), (.long x1), (.long x2), (.long x3)])), (ba, .inr (.int, [(.int (0 : Int32)), (.int (1 : Int32)), (.int (2 : Int32)), (.int (3 : Int32))])), (me, .inr (.int, (ms.set (4 * c + 3) (.int (-1 : Int32))))), (ki, .inr (.byte, ks)), (am, .inr (.long, [(.long x0), (.long x1), (.long x2), (.long x3)])), (hd, .inr (.int, [(.int z0), (.int z1)]))]) rfl
    refine g_iconst w d11_79 (0 : Int32) rfl 80 rfl ?_
    refine g_istore w d11_80 82 rfl rfl #[.val (.ref t), .val (.ref hd), .val (.int z2), .val (.int z3), .val (.int ap), .val (.int (0 : Int32)), .unset, .unset, .unset, .unset] rfl ?_
    refine g_aloadN w d11_82 rfl rfl 83 rfl ?_
    refine g_astore w d11_83 85 rfl rfl #[.val (.ref t), .val (.ref hd), .val (.int z2), .val (.int z3), .val (.int ap), .val (.int (0 : Int32)), .val (.ref hd), .unset, .unset, .unset] rfl ?_
    refine g_aload w d11_85 rfl rfl 87 rfl ?_
    refine g_alen w d11_87 6 rfl (2 : Int32) rfl 88 rfl ?_
    refine g_istore w d11_88 90 rfl rfl #[.val (.ref t), .val (.ref hd), .val (.int z2), .val (.int z3), .val (.int ap), .val (.int (0 : Int32)), .val (.ref hd), .val (.int (2 : Int32)), .unset, .unset] rfl ?_
    refine g_iconst w d11_90 (0 : Int32) rfl 91 rfl ?_
    refine g_istore w d11_91 93 rfl rfl #[.val (.ref t), .val (.ref hd), .val (.int z2), .val (.int z3), .val (.int ap), .val (.int (0 : Int32)), .val (.ref hd), .val (.int (2 : Int32)), .val (.int (0 : Int32)), .unset] rfl ?_
    refine g_iload w d11_93 rfl 95 rfl ?_
    refine g_iload w d11_95 rfl 97 rfl ?_
    refine g_icmp_ge w d11_97 152 (by decide) (by decide) 100 rfl (fun h => absurd (by decide) h) (fun hc97 => ?_)
    refine g_aload w d11_100 rfl rfl 102 rfl ?_
    refine g_iload w d11_102 rfl 104 rfl ?_
    refine g_iaload w d11_104 6 rfl 0 (by decide) rfl 105 rfl ?_
    refine g_istore w d11_105 107 rfl rfl #[.val (.ref t), .val (.ref hd), .val (.int z2), .val (.int z3), .val (.int ap), .val (.int (0 : Int32)), .val (.ref hd), .val (.int (2 : Int32)), .val (.int (0 : Int32)), .val (.int z0)] rfl ?_
    refine g_aloadN w d11_107 rfl rfl 108 rfl ?_
    refine g_getf w d11_108 0 rfl 0 rfl 19 rfl Via.refl 111 rfl (fun T w => ?_)
    refine g_iload w d11_111 rfl 113 rfl ?_
    refine g_iinc w d11_113 116 rfl rfl rfl #[.val (.ref t), .val (.ref hd), .val (.int z2), .val (.int z3), .val (.int (ap + (1 : Int32))), .val (.int (0 : Int32)), .val (.ref hd), .val (.int (2 : Int32)), .val (.int (0 : Int32)), .val (.int z0)] rfl ?_
    refine g_aloadN w d11_116 rfl rfl 117 rfl ?_
    refine g_getf w d11_117 0 rfl 3 rfl 26 rfl Via.refl 120 rfl (fun T w => ?_)
    refine g_iload w d11_120 rfl 122 rfl ?_
    refine g_iaload w d11_122 2 rfl p0 hz0 hb0 123 rfl ?_
    refine g_iastore w d11_123 3 rfl (4 * c) hap' (by simp only [List.length_set, g1]; omega) (.int z0) rfl 124 rfl (fun T w => ?_)
    replace w := w.to (L' := [(t, O_SmallGroups (.ref me) (.ref ki) (.int (4 : Int32)) (.ref ba) (.ref am) (.int mo) (.int (0 : Int32)) .null .null (.int ct) .null .null (.long ls)), (sa, .inr (.long, [(.long x0), (.long x1), (.long x2), (.long x3)])), (ba, .inr (.int, [(.int (0 : Int32)), (.int (1 : Int32)), (.int (2 : Int32)), (.int (3 : Int32))])), (me, .inr (.int, ((ms.set (4 * c + 3) (.int (-1 : Int32))).set (4 * c) (.int z0)))), (ki, .inr (.byte, ks)), (am, .inr (.long, [(.long x0), (.long x1), (.long x2), (.long x3)])), (hd, .inr (.int, [(.int z0), (.int z1)]))]) rfl
    refine g_iload w d11_124 rfl 126 rfl ?_
    refine g_aloadN w d11_126 rfl rfl 127 rfl ?_
    refine g_getf w d11_127 0 rfl 4 rfl 28 rfl Via.refl 130 rfl (fun T w => ?_)
    refine g_iload w d11_130 rfl 132 rfl ?_
    refine g_laload w d11_132 5 rfl p0 hz0 hy0 133 rfl ?_
    refine g_lconst w d11_133 (0 : Int64) rfl 134 rfl ?_
    refine g_lcmp w d11_134 135 rfl ?_
    refine g_lif_le w d11_135 142 (by decide) (by decide) 138 rfl (fun hc135 => ?_) (fun hc135 => ?_)
    · -- pc 142 (taken: not (0 : Int64) < y0)
      have s0 := mt (own_ltL (show (0 : Int64).toInt = 0 from rfl) (rfl : y0.toInt = y0.toInt)).mpr hc135
      refine g_iconst w d11_142 (0 : Int32) rfl 143 rfl ?_
      refine g_iadd w d11_143 144 rfl ?_
      refine g_int (x' := (0 : Int32)) (by decide) ?_
      refine g_istore w d11_144 146 rfl rfl #[.val (.ref t), .val (.ref hd), .val (.int z2), .val (.int z3), .val (.int (ap + (1 : Int32))), .val (.int (0 : Int32)), .val (.ref hd), .val (.int (2 : Int32)), .val (.int (0 : Int32)), .val (.int z0)] rfl ?_
      refine g_iinc w d11_146 149 rfl rfl (by decide) #[.val (.ref t), .val (.ref hd), .val (.int z2), .val (.int z3), .val (.int (ap + (1 : Int32))), .val (.int (0 : Int32)), .val (.ref hd), .val (.int (2 : Int32)), .val (.int (1 : Int32)), .val (.int z0)] rfl ?_
      refine g_goto w d11_149 93 (by decide) (by decide) ?_
      refine g_iload w d11_93 rfl 95 rfl ?_
      refine g_iload w d11_95 rfl 97 rfl ?_
      refine g_icmp_ge w d11_97 152 (by decide) (by decide) 100 rfl (fun h => absurd (by decide) h) (fun hc97 => ?_)
      refine g_aload w d11_100 rfl rfl 102 rfl ?_
      refine g_iload w d11_102 rfl 104 rfl ?_
      refine g_iaload w d11_104 6 rfl 1 (by decide) rfl 105 rfl ?_
      refine g_istore w d11_105 107 rfl rfl #[.val (.ref t), .val (.ref hd), .val (.int z2), .val (.int z3), .val (.int (ap + (1 : Int32))), .val (.int (0 : Int32)), .val (.ref hd), .val (.int (2 : Int32)), .val (.int (1 : Int32)), .val (.int z1)] rfl ?_
      refine g_aloadN w d11_107 rfl rfl 108 rfl ?_
      refine g_getf w d11_108 0 rfl 0 rfl 19 rfl Via.refl 111 rfl (fun T w => ?_)
      refine g_iload w d11_111 rfl 113 rfl ?_
      refine g_iinc w d11_113 116 rfl rfl rfl #[.val (.ref t), .val (.ref hd), .val (.int z2), .val (.int z3), .val (.int ((ap + (1 : Int32)) + (1 : Int32))), .val (.int (0 : Int32)), .val (.ref hd), .val (.int (2 : Int32)), .val (.int (1 : Int32)), .val (.int z1)] rfl ?_
      refine g_aloadN w d11_116 rfl rfl 117 rfl ?_
      refine g_getf w d11_117 0 rfl 3 rfl 26 rfl Via.refl 120 rfl (fun T w => ?_)
      refine g_iload w d11_120 rfl 122 rfl ?_
      refine g_iaload w d11_122 2 rfl p1 hz1 hb1 123 rfl ?_
      refine g_iastore w d11_123 3 rfl (4 * c + 1) (own_inc hap' (by omega)) (by simp only [List.length_set, g1]; omega) (.int z1) rfl 124 rfl (fun T w => ?_)
      replace w := w.to (L' := [(t, O_SmallGroups (.ref me) (.ref ki) (.int (4 : Int32)) (.ref ba) (.ref am) (.int mo) (.int (0 : Int32)) .null .null (.int ct) .null .null (.long ls)), (sa, .inr (.long, [(.long x0), (.long x1), (.long x2), (.long x3)])), (ba, .inr (.int, [(.int (0 : Int32)), (.int (1 : Int32)), (.int (2 : Int32)), (.int (3 : Int32))])), (me, .inr (.int, (((ms.set (4 * c + 3) (.int (-1 : Int32))).set (4 * c) (.int z0)).set (4 * c + 1) (.int z1)))), (ki, .inr (.byte, ks)), (am, .inr (.long, [(.long x0), (.long x1), (.long x2), (.long x3)])), (hd, .inr (.int, [(.int z0), (.int z1)]))]) rfl
      refine g_iload w d11_124 rfl 126 rfl ?_
      refine g_aloadN w d11_126 rfl rfl 127 rfl ?_
      refine g_getf w d11_127 0 rfl 4 rfl 28 rfl Via.refl 130 rfl (fun T w => ?_)
      refine g_iload w d11_130 rfl 132 rfl ?_
      refine g_laload w d11_132 5 rfl p1 hz1 hy1 133 rfl ?_
      refine g_lconst w d11_133 (0 : Int64) rfl 134 rfl ?_
      refine g_lcmp w d11_134 135 rfl ?_
      refine g_lif_le w d11_135 142 (by decide) (by decide) 138 rfl (fun hc135 => ?_) (fun hc135 => ?_)
      · -- pc 142 (taken: not (0 : Int64) < y1)
        have s1 := mt (own_ltL (show (0 : Int64).toInt = 0 from rfl) (rfl : y1.toInt = y1.toInt)).mpr hc135
        refine g_iconst w d11_142 (0 : Int32) rfl 143 rfl ?_
        refine g_iadd w d11_143 144 rfl ?_
        refine g_int (x' := (0 : Int32)) (by decide) ?_
        refine g_istore w d11_144 146 rfl rfl #[.val (.ref t), .val (.ref hd), .val (.int z2), .val (.int z3), .val (.int ((ap + (1 : Int32)) + (1 : Int32))), .val (.int (0 : Int32)), .val (.ref hd), .val (.int (2 : Int32)), .val (.int (1 : Int32)), .val (.int z1)] rfl ?_
        refine g_iinc w d11_146 149 rfl rfl (by decide) #[.val (.ref t), .val (.ref hd), .val (.int z2), .val (.int z3), .val (.int ((ap + (1 : Int32)) + (1 : Int32))), .val (.int (0 : Int32)), .val (.ref hd), .val (.int (2 : Int32)), .val (.int (2 : Int32)), .val (.int z1)] rfl ?_
        refine g_goto w d11_149 93 (by decide) (by decide) ?_
        refine g_iload w d11_93 rfl 95 rfl ?_
        refine g_iload w d11_95 rfl 97 rfl ?_
        refine g_icmp_ge w d11_97 152 (by decide) (by decide) 100 rfl (fun hc97 => ?_) (fun h => absurd h (by decide))
        refine g_aloadN w d11_152 rfl rfl 153 rfl ?_
        refine g_getf w d11_153 0 rfl 0 rfl 19 rfl Via.refl 156 rfl (fun T w => ?_)
        refine g_iload w d11_156 rfl 158 rfl ?_
        refine g_iinc w d11_158 161 rfl rfl rfl #[.val (.ref t), .val (.ref hd), .val (.int z2), .val (.int z3), .val (.int (((ap + (1 : Int32)) + (1 : Int32)) + (1 : Int32))), .val (.int (0 : Int32)), .val (.ref hd), .val (.int (2 : Int32)), .val (.int (2 : Int32)), .val (.int z1)] rfl ?_
        refine g_aloadN w d11_161 rfl rfl 162 rfl ?_
        refine g_getf w d11_162 0 rfl 3 rfl 26 rfl Via.refl 165 rfl (fun T w => ?_)
        refine g_iloadN w d11_165 rfl 166 rfl ?_
        refine g_iaload w d11_166 2 rfl p2 hz2 hb2 167 rfl ?_
        refine g_iastore w d11_167 3 rfl (4 * c + 1 + 1) (own_inc (own_inc hap' (by omega)) (by omega)) (by simp only [List.length_set, g1]; omega) (.int z2) rfl 168 rfl (fun T w => ?_)
        replace w := w.to (L' := [(t, O_SmallGroups (.ref me) (.ref ki) (.int (4 : Int32)) (.ref ba) (.ref am) (.int mo) (.int (0 : Int32)) .null .null (.int ct) .null .null (.long ls)), (sa, .inr (.long, [(.long x0), (.long x1), (.long x2), (.long x3)])), (ba, .inr (.int, [(.int (0 : Int32)), (.int (1 : Int32)), (.int (2 : Int32)), (.int (3 : Int32))])), (me, .inr (.int, ((((ms.set (4 * c + 3) (.int (-1 : Int32))).set (4 * c) (.int z0)).set (4 * c + 1) (.int z1)).set (4 * c + 1 + 1) (.int z2)))), (ki, .inr (.byte, ks)), (am, .inr (.long, [(.long x0), (.long x1), (.long x2), (.long x3)])), (hd, .inr (.int, [(.int z0), (.int z1)]))]) rfl
        refine g_aloadN w d11_168 rfl rfl 169 rfl ?_
        refine g_getf w d11_169 0 rfl 0 rfl 19 rfl Via.refl 172 rfl (fun T w => ?_)
        refine g_iload w d11_172 rfl 174 rfl ?_
        refine g_aloadN w d11_174 rfl rfl 175 rfl ?_
        refine g_getf w d11_175 0 rfl 3 rfl 26 rfl Via.refl 178 rfl (fun T w => ?_)
        refine g_iloadN w d11_178 rfl 179 rfl ?_
        refine g_iaload w d11_179 2 rfl p3 hz3 hb3 180 rfl ?_
        refine g_iastore w d11_180 3 rfl (4 * c + 1 + 1 + 1) (own_inc (own_inc (own_inc hap' (by omega)) (by omega)) (by omega)) (by simp only [List.length_set, g1]; omega) (.int z3) rfl 181 rfl (fun T w => ?_)
        replace w := w.to (L' := [(t, O_SmallGroups (.ref me) (.ref ki) (.int (4 : Int32)) (.ref ba) (.ref am) (.int mo) (.int (0 : Int32)) .null .null (.int ct) .null .null (.long ls)), (sa, .inr (.long, [(.long x0), (.long x1), (.long x2), (.long x3)])), (ba, .inr (.int, [(.int (0 : Int32)), (.int (1 : Int32)), (.int (2 : Int32)), (.int (3 : Int32))])), (me, .inr (.int, (((((ms.set (4 * c + 3) (.int (-1 : Int32))).set (4 * c) (.int z0)).set (4 * c + 1) (.int z1)).set (4 * c + 1 + 1) (.int z2)).set (4 * c + 1 + 1 + 1) (.int z3)))), (ki, .inr (.byte, ks)), (am, .inr (.long, [(.long x0), (.long x1), (.long x2), (.long x3)])), (hd, .inr (.int, [(.int z0), (.int z1)]))]) rfl
        refine g_iload w d11_181 rfl 183 rfl ?_
        refine g_aloadN w d11_183 rfl rfl 184 rfl ?_
        refine g_getf w d11_184 0 rfl 4 rfl 28 rfl Via.refl 187 rfl (fun T w => ?_)
        refine g_iloadN w d11_187 rfl 188 rfl ?_
        refine g_laload w d11_188 5 rfl p2 hz2 hy2 189 rfl ?_
        refine g_lconst w d11_189 (0 : Int64) rfl 190 rfl ?_
        refine g_lcmp w d11_190 191 rfl ?_
        refine g_lif_le w d11_191 198 (by decide) (by decide) 194 rfl (fun hc191 => ?_) (fun hc191 => ?_)
        · -- pc 198 (taken: not (0 : Int64) < y2)
          have s2 := mt (own_ltL (show (0 : Int64).toInt = 0 from rfl) (rfl : y2.toInt = y2.toInt)).mpr hc191
          refine g_iconst w d11_198 (0 : Int32) rfl 199 rfl ?_
          refine g_aloadN w d11_199 rfl rfl 200 rfl ?_
          refine g_getf w d11_200 0 rfl 4 rfl 28 rfl Via.refl 203 rfl (fun T w => ?_)
          refine g_iloadN w d11_203 rfl 204 rfl ?_
          refine g_laload w d11_204 5 rfl p3 hz3 hy3 205 rfl ?_
          refine g_lconst w d11_205 (0 : Int64) rfl 206 rfl ?_
          refine g_lcmp w d11_206 207 rfl ?_
          refine g_lif_le w d11_207 214 (by decide) (by decide) 210 rfl (fun hc207 => ?_) (fun hc207 => ?_)
          · -- pc 214 (taken: not (0 : Int64) < y3)
            have s3 := mt (own_ltL (show (0 : Int64).toInt = 0 from rfl) (rfl : y3.toInt = y3.toInt)).mpr hc207
            refine g_iconst w d11_214 (0 : Int32) rfl 215 rfl ?_
            refine g_iadd w d11_215 216 rfl ?_
            refine g_int (x' := (0 : Int32)) (by decide) ?_
            refine g_iadd w d11_216 217 rfl ?_
            refine g_int (x' := (0 : Int32)) (by decide) ?_
            refine g_istore w d11_217 219 rfl rfl #[.val (.ref t), .val (.ref hd), .val (.int z2), .val (.int z3), .val (.int (((ap + (1 : Int32)) + (1 : Int32)) + (1 : Int32))), .val (.int (0 : Int32)), .val (.ref hd), .val (.int (2 : Int32)), .val (.int (2 : Int32)), .val (.int z1)] rfl ?_
            exfalso; omega
          · -- pc 210 (on: (0 : Int64) < y3)
            have s3 := (own_ltL (show (0 : Int64).toInt = 0 from rfl) (rfl : y3.toInt = y3.toInt)).mp hc207
            refine g_iconst w d11_210 (1 : Int32) rfl 211 rfl ?_
            refine g_goto w d11_211 215 (by decide) (by decide) ?_
            refine g_iadd w d11_215 216 rfl ?_
            refine g_int (x' := (1 : Int32)) (by decide) ?_
            refine g_iadd w d11_216 217 rfl ?_
            refine g_int (x' := (1 : Int32)) (by decide) ?_
            refine g_istore w d11_217 219 rfl rfl #[.val (.ref t), .val (.ref hd), .val (.int z2), .val (.int z3), .val (.int (((ap + (1 : Int32)) + (1 : Int32)) + (1 : Int32))), .val (.int (1 : Int32)), .val (.ref hd), .val (.int (2 : Int32)), .val (.int (2 : Int32)), .val (.int z1)] rfl ?_
            refine g_aloadN w d11_219 rfl rfl 220 rfl ?_
            refine g_getf w d11_220 0 rfl 1 rfl 22 rfl Via.refl 223 rfl (fun T w => ?_)
            refine g_aloadN w d11_223 rfl rfl 224 rfl ?_
            refine g_dup w d11_224 rfl 225 rfl ?_
            refine g_getf w d11_225 0 rfl 9 rfl 39 rfl Via.refl 228 rfl (fun T w => ?_)
            refine g_dup_x1 w d11_228 rfl rfl 229 rfl ?_
            refine g_iconst w d11_229 (1 : Int32) rfl 230 rfl ?_
            refine g_iadd w d11_230 231 rfl ?_
            obtain ⟨ct1, hct1⟩ : ∃ own_z, own_z = ((ct + (1 : Int32)) : Int32) := ⟨_, rfl⟩
            refine g_int hct1.symm ?_
            refine g_putf w d11_231 0 rfl 9 rfl 39 rfl Via.refl 40 (Or.inl rfl) 9 rfl (ty := .int) (by decide) rfl rfl 234 rfl (fun T w => ?_)
            replace w := w.to (L' := [(t, O_SmallGroups (.ref me) (.ref ki) (.int (4 : Int32)) (.ref ba) (.ref am) (.int mo) (.int (0 : Int32)) .null .null (.int ct1) .null .null (.long ls)), (sa, .inr (.long, [(.long x0), (.long x1), (.long x2), (.long x3)])), (ba, .inr (.int, [(.int (0 : Int32)), (.int (1 : Int32)), (.int (2 : Int32)), (.int (3 : Int32))])), (me, .inr (.int, (((((ms.set (4 * c + 3) (.int (-1 : Int32))).set (4 * c) (.int z0)).set (4 * c + 1) (.int z1)).set (4 * c + 1 + 1) (.int z2)).set (4 * c + 1 + 1 + 1) (.int z3)))), (ki, .inr (.byte, ks)), (am, .inr (.long, [(.long x0), (.long x1), (.long x2), (.long x3)])), (hd, .inr (.int, [(.int z0), (.int z1)]))]) rfl
            refine g_aloadN w d11_234 rfl rfl 235 rfl ?_
            refine g_alen w d11_235 6 rfl (2 : Int32) rfl 236 rfl ?_
            refine g_iconst w d11_236 (2 : Int32) rfl 237 rfl ?_
            refine g_iadd w d11_237 238 rfl ?_
            refine g_int (x' := (4 : Int32)) (by decide) ?_
            refine g_iload w d11_238 rfl 240 rfl ?_
            refine g_static w (argsL := [(.int (4 : Int32)), (.int (1 : Int32))]) (rest := [(.int ct), (.ref ki)]) (rm12 l Z a0 hw n0 (4 : Int32) (1 : Int32) ([(t, O_SmallGroups (.ref me) (.ref ki) (.int (4 : Int32)) (.ref ba) (.ref am) (.int mo) (.int (0 : Int32)) .null .null (.int ct1) .null .null (.long ls)), (sa, .inr (.long, [(.long x0), (.long x1), (.long x2), (.long x3)])), (ba, .inr (.int, [(.int (0 : Int32)), (.int (1 : Int32)), (.int (2 : Int32)), (.int (3 : Int32))])), (me, .inr (.int, (((((ms.set (4 * c + 3) (.int (-1 : Int32))).set (4 * c) (.int z0)).set (4 * c + 1) (.int z1)).set (4 * c + 1 + 1) (.int z2)).set (4 * c + 1 + 1 + 1) (.int z3)))), (ki, .inr (.byte, ks)), (am, .inr (.long, [(.long x0), (.long x1), (.long x2), (.long x3)])), (hd, .inr (.int, [(.int z0), (.int z1)]))])) d11_240 81 rfl 82 rfl 10 rfl 83 rfl ⟨by decide, by decide⟩ pd_0 rfl rfl rfl 2 rfl (by decide) (by decide) (by decide) (by decide) 243 rfl (fun T v L w h => ?_)
            obtain ⟨rfl, hL⟩ := h
            replace w := w.to hL
            refine g_int (x' := (2 : Int32)) (by decide) ?_
            refine g_i2b w d11_243 244 rfl ?_
            refine g_int (x' := (2 : Int32)) (by decide) ?_
            refine g_bastore w d11_244 4 rfl c hct (by rw [g2]; omega) (.int (2 : Int32)) (by decide) 245 rfl (fun T w => ?_)
            replace w := w.to (L' := [(t, O_SmallGroups (.ref me) (.ref ki) (.int (4 : Int32)) (.ref ba) (.ref am) (.int mo) (.int (0 : Int32)) .null .null (.int ct1) .null .null (.long ls)), (sa, .inr (.long, [(.long x0), (.long x1), (.long x2), (.long x3)])), (ba, .inr (.int, [(.int (0 : Int32)), (.int (1 : Int32)), (.int (2 : Int32)), (.int (3 : Int32))])), (me, .inr (.int, (((((ms.set (4 * c + 3) (.int (-1 : Int32))).set (4 * c) (.int z0)).set (4 * c + 1) (.int z1)).set (4 * c + 1 + 1) (.int z2)).set (4 * c + 1 + 1 + 1) (.int z3)))), (ki, .inr (.byte, (ks.set c (.int (2 : Int32))))), (am, .inr (.long, [(.long x0), (.long x1), (.long x2), (.long x3)])), (hd, .inr (.int, [(.int z0), (.int z1)]))]) rfl
            refine g_iconst w d11_245 (1 : Int32) rfl 246 rfl ?_
            exact g_iretn w (by simp) d11_246 (by decide) (by decide) ⟨1, ct1, c + 1, _, _, rfl, by rw [hct1]; exact own_inc hct (by omega), own_G4 hG (by omega) ⟨by omega, by omega⟩ ⟨by omega, by omega⟩ ⟨by omega, by omega⟩ ⟨by omega, by omega⟩ (by decide) (by decide), rfl, Or.inl ⟨rfl, rfl, hlt⟩⟩
        · -- pc 194 (on: (0 : Int64) < y2)
          have s2 := (own_ltL (show (0 : Int64).toInt = 0 from rfl) (rfl : y2.toInt = y2.toInt)).mp hc191
          refine g_iconst w d11_194 (1 : Int32) rfl 195 rfl ?_
          refine g_goto w d11_195 199 (by decide) (by decide) ?_
          refine g_aloadN w d11_199 rfl rfl 200 rfl ?_
          refine g_getf w d11_200 0 rfl 4 rfl 28 rfl Via.refl 203 rfl (fun T w => ?_)
          refine g_iloadN w d11_203 rfl 204 rfl ?_
          refine g_laload w d11_204 5 rfl p3 hz3 hy3 205 rfl ?_
          refine g_lconst w d11_205 (0 : Int64) rfl 206 rfl ?_
          refine g_lcmp w d11_206 207 rfl ?_
          refine g_lif_le w d11_207 214 (by decide) (by decide) 210 rfl (fun hc207 => ?_) (fun hc207 => ?_)
          · -- pc 214 (taken: not (0 : Int64) < y3)
            have s3 := mt (own_ltL (show (0 : Int64).toInt = 0 from rfl) (rfl : y3.toInt = y3.toInt)).mpr hc207
            refine g_iconst w d11_214 (0 : Int32) rfl 215 rfl ?_
            refine g_iadd w d11_215 216 rfl ?_
            refine g_int (x' := (1 : Int32)) (by decide) ?_
            refine g_iadd w d11_216 217 rfl ?_
            refine g_int (x' := (1 : Int32)) (by decide) ?_
            refine g_istore w d11_217 219 rfl rfl #[.val (.ref t), .val (.ref hd), .val (.int z2), .val (.int z3), .val (.int (((ap + (1 : Int32)) + (1 : Int32)) + (1 : Int32))), .val (.int (1 : Int32)), .val (.ref hd), .val (.int (2 : Int32)), .val (.int (2 : Int32)), .val (.int z1)] rfl ?_
            refine g_aloadN w d11_219 rfl rfl 220 rfl ?_
            refine g_getf w d11_220 0 rfl 1 rfl 22 rfl Via.refl 223 rfl (fun T w => ?_)
            refine g_aloadN w d11_223 rfl rfl 224 rfl ?_
            refine g_dup w d11_224 rfl 225 rfl ?_
            refine g_getf w d11_225 0 rfl 9 rfl 39 rfl Via.refl 228 rfl (fun T w => ?_)
            refine g_dup_x1 w d11_228 rfl rfl 229 rfl ?_
            refine g_iconst w d11_229 (1 : Int32) rfl 230 rfl ?_
            refine g_iadd w d11_230 231 rfl ?_
            obtain ⟨ct1, hct1⟩ : ∃ own_z, own_z = ((ct + (1 : Int32)) : Int32) := ⟨_, rfl⟩
            refine g_int hct1.symm ?_
            refine g_putf w d11_231 0 rfl 9 rfl 39 rfl Via.refl 40 (Or.inl rfl) 9 rfl (ty := .int) (by decide) rfl rfl 234 rfl (fun T w => ?_)
            replace w := w.to (L' := [(t, O_SmallGroups (.ref me) (.ref ki) (.int (4 : Int32)) (.ref ba) (.ref am) (.int mo) (.int (0 : Int32)) .null .null (.int ct1) .null .null (.long ls)), (sa, .inr (.long, [(.long x0), (.long x1), (.long x2), (.long x3)])), (ba, .inr (.int, [(.int (0 : Int32)), (.int (1 : Int32)), (.int (2 : Int32)), (.int (3 : Int32))])), (me, .inr (.int, (((((ms.set (4 * c + 3) (.int (-1 : Int32))).set (4 * c) (.int z0)).set (4 * c + 1) (.int z1)).set (4 * c + 1 + 1) (.int z2)).set (4 * c + 1 + 1 + 1) (.int z3)))), (ki, .inr (.byte, ks)), (am, .inr (.long, [(.long x0), (.long x1), (.long x2), (.long x3)])), (hd, .inr (.int, [(.int z0), (.int z1)]))]) rfl
            refine g_aloadN w d11_234 rfl rfl 235 rfl ?_
            refine g_alen w d11_235 6 rfl (2 : Int32) rfl 236 rfl ?_
            refine g_iconst w d11_236 (2 : Int32) rfl 237 rfl ?_
            refine g_iadd w d11_237 238 rfl ?_
            refine g_int (x' := (4 : Int32)) (by decide) ?_
            refine g_iload w d11_238 rfl 240 rfl ?_
            refine g_static w (argsL := [(.int (4 : Int32)), (.int (1 : Int32))]) (rest := [(.int ct), (.ref ki)]) (rm12 l Z a0 hw n0 (4 : Int32) (1 : Int32) ([(t, O_SmallGroups (.ref me) (.ref ki) (.int (4 : Int32)) (.ref ba) (.ref am) (.int mo) (.int (0 : Int32)) .null .null (.int ct1) .null .null (.long ls)), (sa, .inr (.long, [(.long x0), (.long x1), (.long x2), (.long x3)])), (ba, .inr (.int, [(.int (0 : Int32)), (.int (1 : Int32)), (.int (2 : Int32)), (.int (3 : Int32))])), (me, .inr (.int, (((((ms.set (4 * c + 3) (.int (-1 : Int32))).set (4 * c) (.int z0)).set (4 * c + 1) (.int z1)).set (4 * c + 1 + 1) (.int z2)).set (4 * c + 1 + 1 + 1) (.int z3)))), (ki, .inr (.byte, ks)), (am, .inr (.long, [(.long x0), (.long x1), (.long x2), (.long x3)])), (hd, .inr (.int, [(.int z0), (.int z1)]))])) d11_240 81 rfl 82 rfl 10 rfl 83 rfl ⟨by decide, by decide⟩ pd_0 rfl rfl rfl 2 rfl (by decide) (by decide) (by decide) (by decide) 243 rfl (fun T v L w h => ?_)
            obtain ⟨rfl, hL⟩ := h
            replace w := w.to hL
            refine g_int (x' := (2 : Int32)) (by decide) ?_
            refine g_i2b w d11_243 244 rfl ?_
            refine g_int (x' := (2 : Int32)) (by decide) ?_
            refine g_bastore w d11_244 4 rfl c hct (by rw [g2]; omega) (.int (2 : Int32)) (by decide) 245 rfl (fun T w => ?_)
            replace w := w.to (L' := [(t, O_SmallGroups (.ref me) (.ref ki) (.int (4 : Int32)) (.ref ba) (.ref am) (.int mo) (.int (0 : Int32)) .null .null (.int ct1) .null .null (.long ls)), (sa, .inr (.long, [(.long x0), (.long x1), (.long x2), (.long x3)])), (ba, .inr (.int, [(.int (0 : Int32)), (.int (1 : Int32)), (.int (2 : Int32)), (.int (3 : Int32))])), (me, .inr (.int, (((((ms.set (4 * c + 3) (.int (-1 : Int32))).set (4 * c) (.int z0)).set (4 * c + 1) (.int z1)).set (4 * c + 1 + 1) (.int z2)).set (4 * c + 1 + 1 + 1) (.int z3)))), (ki, .inr (.byte, (ks.set c (.int (2 : Int32))))), (am, .inr (.long, [(.long x0), (.long x1), (.long x2), (.long x3)])), (hd, .inr (.int, [(.int z0), (.int z1)]))]) rfl
            refine g_iconst w d11_245 (1 : Int32) rfl 246 rfl ?_
            exact g_iretn w (by simp) d11_246 (by decide) (by decide) ⟨1, ct1, c + 1, _, _, rfl, by rw [hct1]; exact own_inc hct (by omega), own_G4 hG (by omega) ⟨by omega, by omega⟩ ⟨by omega, by omega⟩ ⟨by omega, by omega⟩ ⟨by omega, by omega⟩ (by decide) (by decide), rfl, Or.inl ⟨rfl, rfl, hlt⟩⟩
          · -- pc 210 (on: (0 : Int64) < y3)
            have s3 := (own_ltL (show (0 : Int64).toInt = 0 from rfl) (rfl : y3.toInt = y3.toInt)).mp hc207
            refine g_iconst w d11_210 (1 : Int32) rfl 211 rfl ?_
            refine g_goto w d11_211 215 (by decide) (by decide) ?_
            refine g_iadd w d11_215 216 rfl ?_
            refine g_int (x' := (2 : Int32)) (by decide) ?_
            refine g_iadd w d11_216 217 rfl ?_
            refine g_int (x' := (2 : Int32)) (by decide) ?_
            refine g_istore w d11_217 219 rfl rfl #[.val (.ref t), .val (.ref hd), .val (.int z2), .val (.int z3), .val (.int (((ap + (1 : Int32)) + (1 : Int32)) + (1 : Int32))), .val (.int (2 : Int32)), .val (.ref hd), .val (.int (2 : Int32)), .val (.int (2 : Int32)), .val (.int z1)] rfl ?_
            refine g_aloadN w d11_219 rfl rfl 220 rfl ?_
            refine g_getf w d11_220 0 rfl 1 rfl 22 rfl Via.refl 223 rfl (fun T w => ?_)
            refine g_aloadN w d11_223 rfl rfl 224 rfl ?_
            refine g_dup w d11_224 rfl 225 rfl ?_
            refine g_getf w d11_225 0 rfl 9 rfl 39 rfl Via.refl 228 rfl (fun T w => ?_)
            refine g_dup_x1 w d11_228 rfl rfl 229 rfl ?_
            refine g_iconst w d11_229 (1 : Int32) rfl 230 rfl ?_
            refine g_iadd w d11_230 231 rfl ?_
            obtain ⟨ct1, hct1⟩ : ∃ own_z, own_z = ((ct + (1 : Int32)) : Int32) := ⟨_, rfl⟩
            refine g_int hct1.symm ?_
            refine g_putf w d11_231 0 rfl 9 rfl 39 rfl Via.refl 40 (Or.inl rfl) 9 rfl (ty := .int) (by decide) rfl rfl 234 rfl (fun T w => ?_)
            replace w := w.to (L' := [(t, O_SmallGroups (.ref me) (.ref ki) (.int (4 : Int32)) (.ref ba) (.ref am) (.int mo) (.int (0 : Int32)) .null .null (.int ct1) .null .null (.long ls)), (sa, .inr (.long, [(.long x0), (.long x1), (.long x2), (.long x3)])), (ba, .inr (.int, [(.int (0 : Int32)), (.int (1 : Int32)), (.int (2 : Int32)), (.int (3 : Int32))])), (me, .inr (.int, (((((ms.set (4 * c + 3) (.int (-1 : Int32))).set (4 * c) (.int z0)).set (4 * c + 1) (.int z1)).set (4 * c + 1 + 1) (.int z2)).set (4 * c + 1 + 1 + 1) (.int z3)))), (ki, .inr (.byte, ks)), (am, .inr (.long, [(.long x0), (.long x1), (.long x2), (.long x3)])), (hd, .inr (.int, [(.int z0), (.int z1)]))]) rfl
            refine g_aloadN w d11_234 rfl rfl 235 rfl ?_
            refine g_alen w d11_235 6 rfl (2 : Int32) rfl 236 rfl ?_
            refine g_iconst w d11_236 (2 : Int32) rfl 237 rfl ?_
            refine g_iadd w d11_237 238 rfl ?_
            refine g_int (x' := (4 : Int32)) (by decide) ?_
            refine g_iload w d11_238 rfl 240 rfl ?_
            refine g_static w (argsL := [(.int (4 : Int32)), (.int (2 : Int32))]) (rest := [(.int ct), (.ref ki)]) (rm12 l Z a0 hw n0 (4 : Int32) (2 : Int32) ([(t, O_SmallGroups (.ref me) (.ref ki) (.int (4 : Int32)) (.ref ba) (.ref am) (.int mo) (.int (0 : Int32)) .null .null (.int ct1) .null .null (.long ls)), (sa, .inr (.long, [(.long x0), (.long x1), (.long x2), (.long x3)])), (ba, .inr (.int, [(.int (0 : Int32)), (.int (1 : Int32)), (.int (2 : Int32)), (.int (3 : Int32))])), (me, .inr (.int, (((((ms.set (4 * c + 3) (.int (-1 : Int32))).set (4 * c) (.int z0)).set (4 * c + 1) (.int z1)).set (4 * c + 1 + 1) (.int z2)).set (4 * c + 1 + 1 + 1) (.int z3)))), (ki, .inr (.byte, ks)), (am, .inr (.long, [(.long x0), (.long x1), (.long x2), (.long x3)])), (hd, .inr (.int, [(.int z0), (.int z1)]))])) d11_240 81 rfl 82 rfl 10 rfl 83 rfl ⟨by decide, by decide⟩ pd_0 rfl rfl rfl 2 rfl (by decide) (by decide) (by decide) (by decide) 243 rfl (fun T v L w h => ?_)
            obtain ⟨rfl, hL⟩ := h
            replace w := w.to hL
            refine g_int (x' := (3 : Int32)) (by decide) ?_
            refine g_i2b w d11_243 244 rfl ?_
            refine g_int (x' := (3 : Int32)) (by decide) ?_
            refine g_bastore w d11_244 4 rfl c hct (by rw [g2]; omega) (.int (3 : Int32)) (by decide) 245 rfl (fun T w => ?_)
            replace w := w.to (L' := [(t, O_SmallGroups (.ref me) (.ref ki) (.int (4 : Int32)) (.ref ba) (.ref am) (.int mo) (.int (0 : Int32)) .null .null (.int ct1) .null .null (.long ls)), (sa, .inr (.long, [(.long x0), (.long x1), (.long x2), (.long x3)])), (ba, .inr (.int, [(.int (0 : Int32)), (.int (1 : Int32)), (.int (2 : Int32)), (.int (3 : Int32))])), (me, .inr (.int, (((((ms.set (4 * c + 3) (.int (-1 : Int32))).set (4 * c) (.int z0)).set (4 * c + 1) (.int z1)).set (4 * c + 1 + 1) (.int z2)).set (4 * c + 1 + 1 + 1) (.int z3)))), (ki, .inr (.byte, (ks.set c (.int (3 : Int32))))), (am, .inr (.long, [(.long x0), (.long x1), (.long x2), (.long x3)])), (hd, .inr (.int, [(.int z0), (.int z1)]))]) rfl
            refine g_iconst w d11_245 (1 : Int32) rfl 246 rfl ?_
            exact g_iretn w (by simp) d11_246 (by decide) (by decide) ⟨1, ct1, c + 1, _, _, rfl, by rw [hct1]; exact own_inc hct (by omega), own_G4 hG (by omega) ⟨by omega, by omega⟩ ⟨by omega, by omega⟩ ⟨by omega, by omega⟩ ⟨by omega, by omega⟩ (by decide) (by decide), rfl, Or.inl ⟨rfl, rfl, hlt⟩⟩
      · -- pc 138 (on: (0 : Int64) < y1)
        have s1 := (own_ltL (show (0 : Int64).toInt = 0 from rfl) (rfl : y1.toInt = y1.toInt)).mp hc135
        refine g_iconst w d11_138 (1 : Int32) rfl 139 rfl ?_
        refine g_goto w d11_139 143 (by decide) (by decide) ?_
        refine g_iadd w d11_143 144 rfl ?_
        refine g_int (x' := (1 : Int32)) (by decide) ?_
        refine g_istore w d11_144 146 rfl rfl #[.val (.ref t), .val (.ref hd), .val (.int z2), .val (.int z3), .val (.int ((ap + (1 : Int32)) + (1 : Int32))), .val (.int (1 : Int32)), .val (.ref hd), .val (.int (2 : Int32)), .val (.int (1 : Int32)), .val (.int z1)] rfl ?_
        refine g_iinc w d11_146 149 rfl rfl (by decide) #[.val (.ref t), .val (.ref hd), .val (.int z2), .val (.int z3), .val (.int ((ap + (1 : Int32)) + (1 : Int32))), .val (.int (1 : Int32)), .val (.ref hd), .val (.int (2 : Int32)), .val (.int (2 : Int32)), .val (.int z1)] rfl ?_
        refine g_goto w d11_149 93 (by decide) (by decide) ?_
        refine g_iload w d11_93 rfl 95 rfl ?_
        refine g_iload w d11_95 rfl 97 rfl ?_
        refine g_icmp_ge w d11_97 152 (by decide) (by decide) 100 rfl (fun hc97 => ?_) (fun h => absurd h (by decide))
        refine g_aloadN w d11_152 rfl rfl 153 rfl ?_
        refine g_getf w d11_153 0 rfl 0 rfl 19 rfl Via.refl 156 rfl (fun T w => ?_)
        refine g_iload w d11_156 rfl 158 rfl ?_
        refine g_iinc w d11_158 161 rfl rfl rfl #[.val (.ref t), .val (.ref hd), .val (.int z2), .val (.int z3), .val (.int (((ap + (1 : Int32)) + (1 : Int32)) + (1 : Int32))), .val (.int (1 : Int32)), .val (.ref hd), .val (.int (2 : Int32)), .val (.int (2 : Int32)), .val (.int z1)] rfl ?_
        refine g_aloadN w d11_161 rfl rfl 162 rfl ?_
        refine g_getf w d11_162 0 rfl 3 rfl 26 rfl Via.refl 165 rfl (fun T w => ?_)
        refine g_iloadN w d11_165 rfl 166 rfl ?_
        refine g_iaload w d11_166 2 rfl p2 hz2 hb2 167 rfl ?_
        refine g_iastore w d11_167 3 rfl (4 * c + 1 + 1) (own_inc (own_inc hap' (by omega)) (by omega)) (by simp only [List.length_set, g1]; omega) (.int z2) rfl 168 rfl (fun T w => ?_)
        replace w := w.to (L' := [(t, O_SmallGroups (.ref me) (.ref ki) (.int (4 : Int32)) (.ref ba) (.ref am) (.int mo) (.int (0 : Int32)) .null .null (.int ct) .null .null (.long ls)), (sa, .inr (.long, [(.long x0), (.long x1), (.long x2), (.long x3)])), (ba, .inr (.int, [(.int (0 : Int32)), (.int (1 : Int32)), (.int (2 : Int32)), (.int (3 : Int32))])), (me, .inr (.int, ((((ms.set (4 * c + 3) (.int (-1 : Int32))).set (4 * c) (.int z0)).set (4 * c + 1) (.int z1)).set (4 * c + 1 + 1) (.int z2)))), (ki, .inr (.byte, ks)), (am, .inr (.long, [(.long x0), (.long x1), (.long x2), (.long x3)])), (hd, .inr (.int, [(.int z0), (.int z1)]))]) rfl
        refine g_aloadN w d11_168 rfl rfl 169 rfl ?_
        refine g_getf w d11_169 0 rfl 0 rfl 19 rfl Via.refl 172 rfl (fun T w => ?_)
        refine g_iload w d11_172 rfl 174 rfl ?_
        refine g_aloadN w d11_174 rfl rfl 175 rfl ?_
        refine g_getf w d11_175 0 rfl 3 rfl 26 rfl Via.refl 178 rfl (fun T w => ?_)
        refine g_iloadN w d11_178 rfl 179 rfl ?_
        refine g_iaload w d11_179 2 rfl p3 hz3 hb3 180 rfl ?_
        refine g_iastore w d11_180 3 rfl (4 * c + 1 + 1 + 1) (own_inc (own_inc (own_inc hap' (by omega)) (by omega)) (by omega)) (by simp only [List.length_set, g1]; omega) (.int z3) rfl 181 rfl (fun T w => ?_)
        replace w := w.to (L' := [(t, O_SmallGroups (.ref me) (.ref ki) (.int (4 : Int32)) (.ref ba) (.ref am) (.int mo) (.int (0 : Int32)) .null .null (.int ct) .null .null (.long ls)), (sa, .inr (.long, [(.long x0), (.long x1), (.long x2), (.long x3)])), (ba, .inr (.int, [(.int (0 : Int32)), (.int (1 : Int32)), (.int (2 : Int32)), (.int (3 : Int32))])), (me, .inr (.int, (((((ms.set (4 * c + 3) (.int (-1 : Int32))).set (4 * c) (.int z0)).set (4 * c + 1) (.int z1)).set (4 * c + 1 + 1) (.int z2)).set (4 * c + 1 + 1 + 1) (.int z3)))), (ki, .inr (.byte, ks)), (am, .inr (.long, [(.long x0), (.long x1), (.long x2), (.long x3)])), (hd, .inr (.int, [(.int z0), (.int z1)]))]) rfl
        refine g_iload w d11_181 rfl 183 rfl ?_
        refine g_aloadN w d11_183 rfl rfl 184 rfl ?_
        refine g_getf w d11_184 0 rfl 4 rfl 28 rfl Via.refl 187 rfl (fun T w => ?_)
        refine g_iloadN w d11_187 rfl 188 rfl ?_
        refine g_laload w d11_188 5 rfl p2 hz2 hy2 189 rfl ?_
        refine g_lconst w d11_189 (0 : Int64) rfl 190 rfl ?_
        refine g_lcmp w d11_190 191 rfl ?_
        refine g_lif_le w d11_191 198 (by decide) (by decide) 194 rfl (fun hc191 => ?_) (fun hc191 => ?_)
        · -- pc 198 (taken: not (0 : Int64) < y2)
          have s2 := mt (own_ltL (show (0 : Int64).toInt = 0 from rfl) (rfl : y2.toInt = y2.toInt)).mpr hc191
          refine g_iconst w d11_198 (0 : Int32) rfl 199 rfl ?_
          refine g_aloadN w d11_199 rfl rfl 200 rfl ?_
          refine g_getf w d11_200 0 rfl 4 rfl 28 rfl Via.refl 203 rfl (fun T w => ?_)
          refine g_iloadN w d11_203 rfl 204 rfl ?_
          refine g_laload w d11_204 5 rfl p3 hz3 hy3 205 rfl ?_
          refine g_lconst w d11_205 (0 : Int64) rfl 206 rfl ?_
          refine g_lcmp w d11_206 207 rfl ?_
          refine g_lif_le w d11_207 214 (by decide) (by decide) 210 rfl (fun hc207 => ?_) (fun hc207 => ?_)
          · -- pc 214 (taken: not (0 : Int64) < y3)
            have s3 := mt (own_ltL (show (0 : Int64).toInt = 0 from rfl) (rfl : y3.toInt = y3.toInt)).mpr hc207
            refine g_iconst w d11_214 (0 : Int32) rfl 215 rfl ?_
            refine g_iadd w d11_215 216 rfl ?_
            refine g_int (x' := (0 : Int32)) (by decide) ?_
            refine g_iadd w d11_216 217 rfl ?_
            refine g_int (x' := (1 : Int32)) (by decide) ?_
            refine g_istore w d11_217 219 rfl rfl #[.val (.ref t), .val (.ref hd), .val (.int z2), .val (.int z3), .val (.int (((ap + (1 : Int32)) + (1 : Int32)) + (1 : Int32))), .val (.int (1 : Int32)), .val (.ref hd), .val (.int (2 : Int32)), .val (.int (2 : Int32)), .val (.int z1)] rfl ?_
            refine g_aloadN w d11_219 rfl rfl 220 rfl ?_
            refine g_getf w d11_220 0 rfl 1 rfl 22 rfl Via.refl 223 rfl (fun T w => ?_)
            refine g_aloadN w d11_223 rfl rfl 224 rfl ?_
            refine g_dup w d11_224 rfl 225 rfl ?_
            refine g_getf w d11_225 0 rfl 9 rfl 39 rfl Via.refl 228 rfl (fun T w => ?_)
            refine g_dup_x1 w d11_228 rfl rfl 229 rfl ?_
            refine g_iconst w d11_229 (1 : Int32) rfl 230 rfl ?_
            refine g_iadd w d11_230 231 rfl ?_
            obtain ⟨ct1, hct1⟩ : ∃ own_z, own_z = ((ct + (1 : Int32)) : Int32) := ⟨_, rfl⟩
            refine g_int hct1.symm ?_
            refine g_putf w d11_231 0 rfl 9 rfl 39 rfl Via.refl 40 (Or.inl rfl) 9 rfl (ty := .int) (by decide) rfl rfl 234 rfl (fun T w => ?_)
            replace w := w.to (L' := [(t, O_SmallGroups (.ref me) (.ref ki) (.int (4 : Int32)) (.ref ba) (.ref am) (.int mo) (.int (0 : Int32)) .null .null (.int ct1) .null .null (.long ls)), (sa, .inr (.long, [(.long x0), (.long x1), (.long x2), (.long x3)])), (ba, .inr (.int, [(.int (0 : Int32)), (.int (1 : Int32)), (.int (2 : Int32)), (.int (3 : Int32))])), (me, .inr (.int, (((((ms.set (4 * c + 3) (.int (-1 : Int32))).set (4 * c) (.int z0)).set (4 * c + 1) (.int z1)).set (4 * c + 1 + 1) (.int z2)).set (4 * c + 1 + 1 + 1) (.int z3)))), (ki, .inr (.byte, ks)), (am, .inr (.long, [(.long x0), (.long x1), (.long x2), (.long x3)])), (hd, .inr (.int, [(.int z0), (.int z1)]))]) rfl
            refine g_aloadN w d11_234 rfl rfl 235 rfl ?_
            refine g_alen w d11_235 6 rfl (2 : Int32) rfl 236 rfl ?_
            refine g_iconst w d11_236 (2 : Int32) rfl 237 rfl ?_
            refine g_iadd w d11_237 238 rfl ?_
            refine g_int (x' := (4 : Int32)) (by decide) ?_
            refine g_iload w d11_238 rfl 240 rfl ?_
            refine g_static w (argsL := [(.int (4 : Int32)), (.int (1 : Int32))]) (rest := [(.int ct), (.ref ki)]) (rm12 l Z a0 hw n0 (4 : Int32) (1 : Int32) ([(t, O_SmallGroups (.ref me) (.ref ki) (.int (4 : Int32)) (.ref ba) (.ref am) (.int mo) (.int (0 : Int32)) .null .null (.int ct1) .null .null (.long ls)), (sa, .inr (.long, [(.long x0), (.long x1), (.long x2), (.long x3)])), (ba, .inr (.int, [(.int (0 : Int32)), (.int (1 : Int32)), (.int (2 : Int32)), (.int (3 : Int32))])), (me, .inr (.int, (((((ms.set (4 * c + 3) (.int (-1 : Int32))).set (4 * c) (.int z0)).set (4 * c + 1) (.int z1)).set (4 * c + 1 + 1) (.int z2)).set (4 * c + 1 + 1 + 1) (.int z3)))), (ki, .inr (.byte, ks)), (am, .inr (.long, [(.long x0), (.long x1), (.long x2), (.long x3)])), (hd, .inr (.int, [(.int z0), (.int z1)]))])) d11_240 81 rfl 82 rfl 10 rfl 83 rfl ⟨by decide, by decide⟩ pd_0 rfl rfl rfl 2 rfl (by decide) (by decide) (by decide) (by decide) 243 rfl (fun T v L w h => ?_)
            obtain ⟨rfl, hL⟩ := h
            replace w := w.to hL
            refine g_int (x' := (2 : Int32)) (by decide) ?_
            refine g_i2b w d11_243 244 rfl ?_
            refine g_int (x' := (2 : Int32)) (by decide) ?_
            refine g_bastore w d11_244 4 rfl c hct (by rw [g2]; omega) (.int (2 : Int32)) (by decide) 245 rfl (fun T w => ?_)
            replace w := w.to (L' := [(t, O_SmallGroups (.ref me) (.ref ki) (.int (4 : Int32)) (.ref ba) (.ref am) (.int mo) (.int (0 : Int32)) .null .null (.int ct1) .null .null (.long ls)), (sa, .inr (.long, [(.long x0), (.long x1), (.long x2), (.long x3)])), (ba, .inr (.int, [(.int (0 : Int32)), (.int (1 : Int32)), (.int (2 : Int32)), (.int (3 : Int32))])), (me, .inr (.int, (((((ms.set (4 * c + 3) (.int (-1 : Int32))).set (4 * c) (.int z0)).set (4 * c + 1) (.int z1)).set (4 * c + 1 + 1) (.int z2)).set (4 * c + 1 + 1 + 1) (.int z3)))), (ki, .inr (.byte, (ks.set c (.int (2 : Int32))))), (am, .inr (.long, [(.long x0), (.long x1), (.long x2), (.long x3)])), (hd, .inr (.int, [(.int z0), (.int z1)]))]) rfl
            refine g_iconst w d11_245 (1 : Int32) rfl 246 rfl ?_
            exact g_iretn w (by simp) d11_246 (by decide) (by decide) ⟨1, ct1, c + 1, _, _, rfl, by rw [hct1]; exact own_inc hct (by omega), own_G4 hG (by omega) ⟨by omega, by omega⟩ ⟨by omega, by omega⟩ ⟨by omega, by omega⟩ ⟨by omega, by omega⟩ (by decide) (by decide), rfl, Or.inl ⟨rfl, rfl, hlt⟩⟩
          · -- pc 210 (on: (0 : Int64) < y3)
            have s3 := (own_ltL (show (0 : Int64).toInt = 0 from rfl) (rfl : y3.toInt = y3.toInt)).mp hc207
            refine g_iconst w d11_210 (1 : Int32) rfl 211 rfl ?_
            refine g_goto w d11_211 215 (by decide) (by decide) ?_
            refine g_iadd w d11_215 216 rfl ?_
            refine g_int (x' := (1 : Int32)) (by decide) ?_
            refine g_iadd w d11_216 217 rfl ?_
            refine g_int (x' := (2 : Int32)) (by decide) ?_
            refine g_istore w d11_217 219 rfl rfl #[.val (.ref t), .val (.ref hd), .val (.int z2), .val (.int z3), .val (.int (((ap + (1 : Int32)) + (1 : Int32)) + (1 : Int32))), .val (.int (2 : Int32)), .val (.ref hd), .val (.int (2 : Int32)), .val (.int (2 : Int32)), .val (.int z1)] rfl ?_
            refine g_aloadN w d11_219 rfl rfl 220 rfl ?_
            refine g_getf w d11_220 0 rfl 1 rfl 22 rfl Via.refl 223 rfl (fun T w => ?_)
            refine g_aloadN w d11_223 rfl rfl 224 rfl ?_
            refine g_dup w d11_224 rfl 225 rfl ?_
            refine g_getf w d11_225 0 rfl 9 rfl 39 rfl Via.refl 228 rfl (fun T w => ?_)
            refine g_dup_x1 w d11_228 rfl rfl 229 rfl ?_
            refine g_iconst w d11_229 (1 : Int32) rfl 230 rfl ?_
            refine g_iadd w d11_230 231 rfl ?_
            obtain ⟨ct1, hct1⟩ : ∃ own_z, own_z = ((ct + (1 : Int32)) : Int32) := ⟨_, rfl⟩
            refine g_int hct1.symm ?_
            refine g_putf w d11_231 0 rfl 9 rfl 39 rfl Via.refl 40 (Or.inl rfl) 9 rfl (ty := .int) (by decide) rfl rfl 234 rfl (fun T w => ?_)
            replace w := w.to (L' := [(t, O_SmallGroups (.ref me) (.ref ki) (.int (4 : Int32)) (.ref ba) (.ref am) (.int mo) (.int (0 : Int32)) .null .null (.int ct1) .null .null (.long ls)), (sa, .inr (.long, [(.long x0), (.long x1), (.long x2), (.long x3)])), (ba, .inr (.int, [(.int (0 : Int32)), (.int (1 : Int32)), (.int (2 : Int32)), (.int (3 : Int32))])), (me, .inr (.int, (((((ms.set (4 * c + 3) (.int (-1 : Int32))).set (4 * c) (.int z0)).set (4 * c + 1) (.int z1)).set (4 * c + 1 + 1) (.int z2)).set (4 * c + 1 + 1 + 1) (.int z3)))), (ki, .inr (.byte, ks)), (am, .inr (.long, [(.long x0), (.long x1), (.long x2), (.long x3)])), (hd, .inr (.int, [(.int z0), (.int z1)]))]) rfl
            refine g_aloadN w d11_234 rfl rfl 235 rfl ?_
            refine g_alen w d11_235 6 rfl (2 : Int32) rfl 236 rfl ?_
            refine g_iconst w d11_236 (2 : Int32) rfl 237 rfl ?_
            refine g_iadd w d11_237 238 rfl ?_
            refine g_int (x' := (4 : Int32)) (by decide) ?_
            refine g_iload w d11_238 rfl 240 rfl ?_
            refine g_static w (argsL := [(.int (4 : Int32)), (.int (2 : Int32))]) (rest := [(.int ct), (.ref ki)]) (rm12 l Z a0 hw n0 (4 : Int32) (2 : Int32) ([(t, O_SmallGroups (.ref me) (.ref ki) (.int (4 : Int32)) (.ref ba) (.ref am) (.int mo) (.int (0 : Int32)) .null .null (.int ct1) .null .null (.long ls)), (sa, .inr (.long, [(.long x0), (.long x1), (.long x2), (.long x3)])), (ba, .inr (.int, [(.int (0 : Int32)), (.int (1 : Int32)), (.int (2 : Int32)), (.int (3 : Int32))])), (me, .inr (.int, (((((ms.set (4 * c + 3) (.int (-1 : Int32))).set (4 * c) (.int z0)).set (4 * c + 1) (.int z1)).set (4 * c + 1 + 1) (.int z2)).set (4 * c + 1 + 1 + 1) (.int z3)))), (ki, .inr (.byte, ks)), (am, .inr (.long, [(.long x0), (.long x1), (.long x2), (.long x3)])), (hd, .inr (.int, [(.int z0), (.int z1)]))])) d11_240 81 rfl 82 rfl 10 rfl 83 rfl ⟨by decide, by decide⟩ pd_0 rfl rfl rfl 2 rfl (by decide) (by decide) (by decide) (by decide) 243 rfl (fun T v L w h => ?_)
            obtain ⟨rfl, hL⟩ := h
            replace w := w.to hL
            refine g_int (x' := (3 : Int32)) (by decide) ?_
            refine g_i2b w d11_243 244 rfl ?_
            refine g_int (x' := (3 : Int32)) (by decide) ?_
            refine g_bastore w d11_244 4 rfl c hct (by rw [g2]; omega) (.int (3 : Int32)) (by decide) 245 rfl (fun T w => ?_)
            replace w := w.to (L' := [(t, O_SmallGroups (.ref me) (.ref ki) (.int (4 : Int32)) (.ref ba) (.ref am) (.int mo) (.int (0 : Int32)) .null .null (.int ct1) .null .null (.long ls)), (sa, .inr (.long, [(.long x0), (.long x1), (.long x2), (.long x3)])), (ba, .inr (.int, [(.int (0 : Int32)), (.int (1 : Int32)), (.int (2 : Int32)), (.int (3 : Int32))])), (me, .inr (.int, (((((ms.set (4 * c + 3) (.int (-1 : Int32))).set (4 * c) (.int z0)).set (4 * c + 1) (.int z1)).set (4 * c + 1 + 1) (.int z2)).set (4 * c + 1 + 1 + 1) (.int z3)))), (ki, .inr (.byte, (ks.set c (.int (3 : Int32))))), (am, .inr (.long, [(.long x0), (.long x1), (.long x2), (.long x3)])), (hd, .inr (.int, [(.int z0), (.int z1)]))]) rfl
            refine g_iconst w d11_245 (1 : Int32) rfl 246 rfl ?_
            exact g_iretn w (by simp) d11_246 (by decide) (by decide) ⟨1, ct1, c + 1, _, _, rfl, by rw [hct1]; exact own_inc hct (by omega), own_G4 hG (by omega) ⟨by omega, by omega⟩ ⟨by omega, by omega⟩ ⟨by omega, by omega⟩ ⟨by omega, by omega⟩ (by decide) (by decide), rfl, Or.inl ⟨rfl, rfl, hlt⟩⟩
        · -- pc 194 (on: (0 : Int64) < y2)
          have s2 := (own_ltL (show (0 : Int64).toInt = 0 from rfl) (rfl : y2.toInt = y2.toInt)).mp hc191
          refine g_iconst w d11_194 (1 : Int32) rfl 195 rfl ?_
          refine g_goto w d11_195 199 (by decide) (by decide) ?_
          refine g_aloadN w d11_199 rfl rfl 200 rfl ?_
          refine g_getf w d11_200 0 rfl 4 rfl 28 rfl Via.refl 203 rfl (fun T w => ?_)
          refine g_iloadN w d11_203 rfl 204 rfl ?_
          refine g_laload w d11_204 5 rfl p3 hz3 hy3 205 rfl ?_
          refine g_lconst w d11_205 (0 : Int64) rfl 206 rfl ?_
          refine g_lcmp w d11_206 207 rfl ?_
          refine g_lif_le w d11_207 214 (by decide) (by decide) 210 rfl (fun hc207 => ?_) (fun hc207 => ?_)
          · -- pc 214 (taken: not (0 : Int64) < y3)
            have s3 := mt (own_ltL (show (0 : Int64).toInt = 0 from rfl) (rfl : y3.toInt = y3.toInt)).mpr hc207
            refine g_iconst w d11_214 (0 : Int32) rfl 215 rfl ?_
            refine g_iadd w d11_215 216 rfl ?_
            refine g_int (x' := (1 : Int32)) (by decide) ?_
            refine g_iadd w d11_216 217 rfl ?_
            refine g_int (x' := (2 : Int32)) (by decide) ?_
            refine g_istore w d11_217 219 rfl rfl #[.val (.ref t), .val (.ref hd), .val (.int z2), .val (.int z3), .val (.int (((ap + (1 : Int32)) + (1 : Int32)) + (1 : Int32))), .val (.int (2 : Int32)), .val (.ref hd), .val (.int (2 : Int32)), .val (.int (2 : Int32)), .val (.int z1)] rfl ?_
            refine g_aloadN w d11_219 rfl rfl 220 rfl ?_
            refine g_getf w d11_220 0 rfl 1 rfl 22 rfl Via.refl 223 rfl (fun T w => ?_)
            refine g_aloadN w d11_223 rfl rfl 224 rfl ?_
            refine g_dup w d11_224 rfl 225 rfl ?_
            refine g_getf w d11_225 0 rfl 9 rfl 39 rfl Via.refl 228 rfl (fun T w => ?_)
            refine g_dup_x1 w d11_228 rfl rfl 229 rfl ?_
            refine g_iconst w d11_229 (1 : Int32) rfl 230 rfl ?_
            refine g_iadd w d11_230 231 rfl ?_
            obtain ⟨ct1, hct1⟩ : ∃ own_z, own_z = ((ct + (1 : Int32)) : Int32) := ⟨_, rfl⟩
            refine g_int hct1.symm ?_
            refine g_putf w d11_231 0 rfl 9 rfl 39 rfl Via.refl 40 (Or.inl rfl) 9 rfl (ty := .int) (by decide) rfl rfl 234 rfl (fun T w => ?_)
            replace w := w.to (L' := [(t, O_SmallGroups (.ref me) (.ref ki) (.int (4 : Int32)) (.ref ba) (.ref am) (.int mo) (.int (0 : Int32)) .null .null (.int ct1) .null .null (.long ls)), (sa, .inr (.long, [(.long x0), (.long x1), (.long x2), (.long x3)])), (ba, .inr (.int, [(.int (0 : Int32)), (.int (1 : Int32)), (.int (2 : Int32)), (.int (3 : Int32))])), (me, .inr (.int, (((((ms.set (4 * c + 3) (.int (-1 : Int32))).set (4 * c) (.int z0)).set (4 * c + 1) (.int z1)).set (4 * c + 1 + 1) (.int z2)).set (4 * c + 1 + 1 + 1) (.int z3)))), (ki, .inr (.byte, ks)), (am, .inr (.long, [(.long x0), (.long x1), (.long x2), (.long x3)])), (hd, .inr (.int, [(.int z0), (.int z1)]))]) rfl
            refine g_aloadN w d11_234 rfl rfl 235 rfl ?_
            refine g_alen w d11_235 6 rfl (2 : Int32) rfl 236 rfl ?_
            refine g_iconst w d11_236 (2 : Int32) rfl 237 rfl ?_
            refine g_iadd w d11_237 238 rfl ?_
            refine g_int (x' := (4 : Int32)) (by decide) ?_
            refine g_iload w d11_238 rfl 240 rfl ?_
            refine g_static w (argsL := [(.int (4 : Int32)), (.int (2 : Int32))]) (rest := [(.int ct), (.ref ki)]) (rm12 l Z a0 hw n0 (4 : Int32) (2 : Int32) ([(t, O_SmallGroups (.ref me) (.ref ki) (.int (4 : Int32)) (.ref ba) (.ref am) (.int mo) (.int (0 : Int32)) .null .null (.int ct1) .null .null (.long ls)), (sa, .inr (.long, [(.long x0), (.long x1), (.long x2), (.long x3)])), (ba, .inr (.int, [(.int (0 : Int32)), (.int (1 : Int32)), (.int (2 : Int32)), (.int (3 : Int32))])), (me, .inr (.int, (((((ms.set (4 * c + 3) (.int (-1 : Int32))).set (4 * c) (.int z0)).set (4 * c + 1) (.int z1)).set (4 * c + 1 + 1) (.int z2)).set (4 * c + 1 + 1 + 1) (.int z3)))), (ki, .inr (.byte, ks)), (am, .inr (.long, [(.long x0), (.long x1), (.long x2), (.long x3)])), (hd, .inr (.int, [(.int z0), (.int z1)]))])) d11_240 81 rfl 82 rfl 10 rfl 83 rfl ⟨by decide, by decide⟩ pd_0 rfl rfl rfl 2 rfl (by decide) (by decide) (by decide) (by decide) 243 rfl (fun T v L w h => ?_)
            obtain ⟨rfl, hL⟩ := h
            replace w := w.to hL
            refine g_int (x' := (3 : Int32)) (by decide) ?_
            refine g_i2b w d11_243 244 rfl ?_
            refine g_int (x' := (3 : Int32)) (by decide) ?_
            refine g_bastore w d11_244 4 rfl c hct (by rw [g2]; omega) (.int (3 : Int32)) (by decide) 245 rfl (fun T w => ?_)
            replace w := w.to (L' := [(t, O_SmallGroups (.ref me) (.ref ki) (.int (4 : Int32)) (.ref ba) (.ref am) (.int mo) (.int (0 : Int32)) .null .null (.int ct1) .null .null (.long ls)), (sa, .inr (.long, [(.long x0), (.long x1), (.long x2), (.long x3)])), (ba, .inr (.int, [(.int (0 : Int32)), (.int (1 : Int32)), (.int (2 : Int32)), (.int (3 : Int32))])), (me, .inr (.int, (((((ms.set (4 * c + 3) (.int (-1 : Int32))).set (4 * c) (.int z0)).set (4 * c + 1) (.int z1)).set (4 * c + 1 + 1) (.int z2)).set (4 * c + 1 + 1 + 1) (.int z3)))), (ki, .inr (.byte, (ks.set c (.int (3 : Int32))))), (am, .inr (.long, [(.long x0), (.long x1), (.long x2), (.long x3)])), (hd, .inr (.int, [(.int z0), (.int z1)]))]) rfl
            refine g_iconst w d11_245 (1 : Int32) rfl 246 rfl ?_
            exact g_iretn w (by simp) d11_246 (by decide) (by decide) ⟨1, ct1, c + 1, _, _, rfl, by rw [hct1]; exact own_inc hct (by omega), own_G4 hG (by omega) ⟨by omega, by omega⟩ ⟨by omega, by omega⟩ ⟨by omega, by omega⟩ ⟨by omega, by omega⟩ (by decide) (by decide), rfl, Or.inl ⟨rfl, rfl, hlt⟩⟩
          · -- pc 210 (on: (0 : Int64) < y3)
            have s3 := (own_ltL (show (0 : Int64).toInt = 0 from rfl) (rfl : y3.toInt = y3.toInt)).mp hc207
            refine g_iconst w d11_210 (1 : Int32) rfl 211 rfl ?_
            refine g_goto w d11_211 215 (by decide) (by decide) ?_
            refine g_iadd w d11_215 216 rfl ?_
            refine g_int (x' := (2 : Int32)) (by decide) ?_
            refine g_iadd w d11_216 217 rfl ?_
            refine g_int (x' := (3 : Int32)) (by decide) ?_
            refine g_istore w d11_217 219 rfl rfl #[.val (.ref t), .val (.ref hd), .val (.int z2), .val (.int z3), .val (.int (((ap + (1 : Int32)) + (1 : Int32)) + (1 : Int32))), .val (.int (3 : Int32)), .val (.ref hd), .val (.int (2 : Int32)), .val (.int (2 : Int32)), .val (.int z1)] rfl ?_
            refine g_aloadN w d11_219 rfl rfl 220 rfl ?_
            refine g_getf w d11_220 0 rfl 1 rfl 22 rfl Via.refl 223 rfl (fun T w => ?_)
            refine g_aloadN w d11_223 rfl rfl 224 rfl ?_
            refine g_dup w d11_224 rfl 225 rfl ?_
            refine g_getf w d11_225 0 rfl 9 rfl 39 rfl Via.refl 228 rfl (fun T w => ?_)
            refine g_dup_x1 w d11_228 rfl rfl 229 rfl ?_
            refine g_iconst w d11_229 (1 : Int32) rfl 230 rfl ?_
            refine g_iadd w d11_230 231 rfl ?_
            obtain ⟨ct1, hct1⟩ : ∃ own_z, own_z = ((ct + (1 : Int32)) : Int32) := ⟨_, rfl⟩
            refine g_int hct1.symm ?_
            refine g_putf w d11_231 0 rfl 9 rfl 39 rfl Via.refl 40 (Or.inl rfl) 9 rfl (ty := .int) (by decide) rfl rfl 234 rfl (fun T w => ?_)
            replace w := w.to (L' := [(t, O_SmallGroups (.ref me) (.ref ki) (.int (4 : Int32)) (.ref ba) (.ref am) (.int mo) (.int (0 : Int32)) .null .null (.int ct1) .null .null (.long ls)), (sa, .inr (.long, [(.long x0), (.long x1), (.long x2), (.long x3)])), (ba, .inr (.int, [(.int (0 : Int32)), (.int (1 : Int32)), (.int (2 : Int32)), (.int (3 : Int32))])), (me, .inr (.int, (((((ms.set (4 * c + 3) (.int (-1 : Int32))).set (4 * c) (.int z0)).set (4 * c + 1) (.int z1)).set (4 * c + 1 + 1) (.int z2)).set (4 * c + 1 + 1 + 1) (.int z3)))), (ki, .inr (.byte, ks)), (am, .inr (.long, [(.long x0), (.long x1), (.long x2), (.long x3)])), (hd, .inr (.int, [(.int z0), (.int z1)]))]) rfl
            refine g_aloadN w d11_234 rfl rfl 235 rfl ?_
            refine g_alen w d11_235 6 rfl (2 : Int32) rfl 236 rfl ?_
            refine g_iconst w d11_236 (2 : Int32) rfl 237 rfl ?_
            refine g_iadd w d11_237 238 rfl ?_
            refine g_int (x' := (4 : Int32)) (by decide) ?_
            refine g_iload w d11_238 rfl 240 rfl ?_
            refine g_static w (argsL := [(.int (4 : Int32)), (.int (3 : Int32))]) (rest := [(.int ct), (.ref ki)]) (rm12 l Z a0 hw n0 (4 : Int32) (3 : Int32) ([(t, O_SmallGroups (.ref me) (.ref ki) (.int (4 : Int32)) (.ref ba) (.ref am) (.int mo) (.int (0 : Int32)) .null .null (.int ct1) .null .null (.long ls)), (sa, .inr (.long, [(.long x0), (.long x1), (.long x2), (.long x3)])), (ba, .inr (.int, [(.int (0 : Int32)), (.int (1 : Int32)), (.int (2 : Int32)), (.int (3 : Int32))])), (me, .inr (.int, (((((ms.set (4 * c + 3) (.int (-1 : Int32))).set (4 * c) (.int z0)).set (4 * c + 1) (.int z1)).set (4 * c + 1 + 1) (.int z2)).set (4 * c + 1 + 1 + 1) (.int z3)))), (ki, .inr (.byte, ks)), (am, .inr (.long, [(.long x0), (.long x1), (.long x2), (.long x3)])), (hd, .inr (.int, [(.int z0), (.int z1)]))])) d11_240 81 rfl 82 rfl 10 rfl 83 rfl ⟨by decide, by decide⟩ pd_0 rfl rfl rfl 2 rfl (by decide) (by decide) (by decide) (by decide) 243 rfl (fun T v L w h => ?_)
            obtain ⟨rfl, hL⟩ := h
            replace w := w.to hL
            refine g_int (x' := (4 : Int32)) (by decide) ?_
            refine g_i2b w d11_243 244 rfl ?_
            refine g_int (x' := (4 : Int32)) (by decide) ?_
            refine g_bastore w d11_244 4 rfl c hct (by rw [g2]; omega) (.int (4 : Int32)) (by decide) 245 rfl (fun T w => ?_)
            replace w := w.to (L' := [(t, O_SmallGroups (.ref me) (.ref ki) (.int (4 : Int32)) (.ref ba) (.ref am) (.int mo) (.int (0 : Int32)) .null .null (.int ct1) .null .null (.long ls)), (sa, .inr (.long, [(.long x0), (.long x1), (.long x2), (.long x3)])), (ba, .inr (.int, [(.int (0 : Int32)), (.int (1 : Int32)), (.int (2 : Int32)), (.int (3 : Int32))])), (me, .inr (.int, (((((ms.set (4 * c + 3) (.int (-1 : Int32))).set (4 * c) (.int z0)).set (4 * c + 1) (.int z1)).set (4 * c + 1 + 1) (.int z2)).set (4 * c + 1 + 1 + 1) (.int z3)))), (ki, .inr (.byte, (ks.set c (.int (4 : Int32))))), (am, .inr (.long, [(.long x0), (.long x1), (.long x2), (.long x3)])), (hd, .inr (.int, [(.int z0), (.int z1)]))]) rfl
            refine g_iconst w d11_245 (1 : Int32) rfl 246 rfl ?_
            exact g_iretn w (by simp) d11_246 (by decide) (by decide) ⟨1, ct1, c + 1, _, _, rfl, by rw [hct1]; exact own_inc hct (by omega), own_G4 hG (by omega) ⟨by omega, by omega⟩ ⟨by omega, by omega⟩ ⟨by omega, by omega⟩ ⟨by omega, by omega⟩ (by decide) (by decide), rfl, Or.inl ⟨rfl, rfl, hlt⟩⟩
    · -- pc 138 (on: (0 : Int64) < y0)
      have s0 := (own_ltL (show (0 : Int64).toInt = 0 from rfl) (rfl : y0.toInt = y0.toInt)).mp hc135
      refine g_iconst w d11_138 (1 : Int32) rfl 139 rfl ?_
      refine g_goto w d11_139 143 (by decide) (by decide) ?_
      refine g_iadd w d11_143 144 rfl ?_
      refine g_int (x' := (1 : Int32)) (by decide) ?_
      refine g_istore w d11_144 146 rfl rfl #[.val (.ref t), .val (.ref hd), .val (.int z2), .val (.int z3), .val (.int (ap + (1 : Int32))), .val (.int (1 : Int32)), .val (.ref hd), .val (.int (2 : Int32)), .val (.int (0 : Int32)), .val (.int z0)] rfl ?_
      refine g_iinc w d11_146 149 rfl rfl (by decide) #[.val (.ref t), .val (.ref hd), .val (.int z2), .val (.int z3), .val (.int (ap + (1 : Int32))), .val (.int (1 : Int32)), .val (.ref hd), .val (.int (2 : Int32)), .val (.int (1 : Int32)), .val (.int z0)] rfl ?_
      refine g_goto w d11_149 93 (by decide) (by decide) ?_
      refine g_iload w d11_93 rfl 95 rfl ?_
      refine g_iload w d11_95 rfl 97 rfl ?_
      refine g_icmp_ge w d11_97 152 (by decide) (by decide) 100 rfl (fun h => absurd (by decide) h) (fun hc97 => ?_)
      refine g_aload w d11_100 rfl rfl 102 rfl ?_
      refine g_iload w d11_102 rfl 104 rfl ?_
      refine g_iaload w d11_104 6 rfl 1 (by decide) rfl 105 rfl ?_
      refine g_istore w d11_105 107 rfl rfl #[.val (.ref t), .val (.ref hd), .val (.int z2), .val (.int z3), .val (.int (ap + (1 : Int32))), .val (.int (1 : Int32)), .val (.ref hd), .val (.int (2 : Int32)), .val (.int (1 : Int32)), .val (.int z1)] rfl ?_
      refine g_aloadN w d11_107 rfl rfl 108 rfl ?_
      refine g_getf w d11_108 0 rfl 0 rfl 19 rfl Via.refl 111 rfl (fun T w => ?_)
      refine g_iload w d11_111 rfl 113 rfl ?_
      refine g_iinc w d11_113 116 rfl rfl rfl #[.val (.ref t), .val (.ref hd), .val (.int z2), .val (.int z3), .val (.int ((ap + (1 : Int32)) + (1 : Int32))), .val (.int (1 : Int32)), .val (.ref hd), .val (.int (2 : Int32)), .val (.int (1 : Int32)), .val (.int z1)] rfl ?_
      refine g_aloadN w d11_116 rfl rfl 117 rfl ?_
      refine g_getf w d11_117 0 rfl 3 rfl 26 rfl Via.refl 120 rfl (fun T w => ?_)
      refine g_iload w d11_120 rfl 122 rfl ?_
      refine g_iaload w d11_122 2 rfl p1 hz1 hb1 123 rfl ?_
      refine g_iastore w d11_123 3 rfl (4 * c + 1) (own_inc hap' (by omega)) (by simp only [List.length_set, g1]; omega) (.int z1) rfl 124 rfl (fun T w => ?_)
      replace w := w.to (L' := [(t, O_SmallGroups (.ref me) (.ref ki) (.int (4 : Int32)) (.ref ba) (.ref am) (.int mo) (.int (0 : Int32)) .null .null (.int ct) .null .null (.long ls)), (sa, .inr (.long, [(.long x0), (.long x1), (.long x2), (.long x3)])), (ba, .inr (.int, [(.int (0 : Int32)), (.int (1 : Int32)), (.int (2 : Int32)), (.int (3 : Int32))])), (me, .inr (.int, (((ms.set (4 * c + 3) (.int (-1 : Int32))).set (4 * c) (.int z0)).set (4 * c + 1) (.int z1)))), (ki, .inr (.byte, ks)), (am, .inr (.long, [(.long x0), (.long x1), (.long x2), (.long x3)])), (hd, .inr (.int, [(.int z0), (.int z1)]))]) rfl
      refine g_iload w d11_124 rfl 126 rfl ?_
      refine g_aloadN w d11_126 rfl rfl 127 rfl ?_
      refine g_getf w d11_127 0 rfl 4 rfl 28 rfl Via.refl 130 rfl (fun T w => ?_)
      refine g_iload w d11_130 rfl 132 rfl ?_
      refine g_laload w d11_132 5 rfl p1 hz1 hy1 133 rfl ?_
      refine g_lconst w d11_133 (0 : Int64) rfl 134 rfl ?_
      refine g_lcmp w d11_134 135 rfl ?_
      refine g_lif_le w d11_135 142 (by decide) (by decide) 138 rfl (fun hc135 => ?_) (fun hc135 => ?_)
      · -- pc 142 (taken: not (0 : Int64) < y1)
        have s1 := mt (own_ltL (show (0 : Int64).toInt = 0 from rfl) (rfl : y1.toInt = y1.toInt)).mpr hc135
        refine g_iconst w d11_142 (0 : Int32) rfl 143 rfl ?_
        refine g_iadd w d11_143 144 rfl ?_
        refine g_int (x' := (1 : Int32)) (by decide) ?_
        refine g_istore w d11_144 146 rfl rfl #[.val (.ref t), .val (.ref hd), .val (.int z2), .val (.int z3), .val (.int ((ap + (1 : Int32)) + (1 : Int32))), .val (.int (1 : Int32)), .val (.ref hd), .val (.int (2 : Int32)), .val (.int (1 : Int32)), .val (.int z1)] rfl ?_
        refine g_iinc w d11_146 149 rfl rfl (by decide) #[.val (.ref t), .val (.ref hd), .val (.int z2), .val (.int z3), .val (.int ((ap + (1 : Int32)) + (1 : Int32))), .val (.int (1 : Int32)), .val (.ref hd), .val (.int (2 : Int32)), .val (.int (2 : Int32)), .val (.int z1)] rfl ?_
        refine g_goto w d11_149 93 (by decide) (by decide) ?_
        refine g_iload w d11_93 rfl 95 rfl ?_
        refine g_iload w d11_95 rfl 97 rfl ?_
        refine g_icmp_ge w d11_97 152 (by decide) (by decide) 100 rfl (fun hc97 => ?_) (fun h => absurd h (by decide))
        refine g_aloadN w d11_152 rfl rfl 153 rfl ?_
        refine g_getf w d11_153 0 rfl 0 rfl 19 rfl Via.refl 156 rfl (fun T w => ?_)
        refine g_iload w d11_156 rfl 158 rfl ?_
        refine g_iinc w d11_158 161 rfl rfl rfl #[.val (.ref t), .val (.ref hd), .val (.int z2), .val (.int z3), .val (.int (((ap + (1 : Int32)) + (1 : Int32)) + (1 : Int32))), .val (.int (1 : Int32)), .val (.ref hd), .val (.int (2 : Int32)), .val (.int (2 : Int32)), .val (.int z1)] rfl ?_
        refine g_aloadN w d11_161 rfl rfl 162 rfl ?_
        refine g_getf w d11_162 0 rfl 3 rfl 26 rfl Via.refl 165 rfl (fun T w => ?_)
        refine g_iloadN w d11_165 rfl 166 rfl ?_
        refine g_iaload w d11_166 2 rfl p2 hz2 hb2 167 rfl ?_
        refine g_iastore w d11_167 3 rfl (4 * c + 1 + 1) (own_inc (own_inc hap' (by omega)) (by omega)) (by simp only [List.length_set, g1]; omega) (.int z2) rfl 168 rfl (fun T w => ?_)
        replace w := w.to (L' := [(t, O_SmallGroups (.ref me) (.ref ki) (.int (4 : Int32)) (.ref ba) (.ref am) (.int mo) (.int (0 : Int32)) .null .null (.int ct) .null .null (.long ls)), (sa, .inr (.long, [(.long x0), (.long x1), (.long x2), (.long x3)])), (ba, .inr (.int, [(.int (0 : Int32)), (.int (1 : Int32)), (.int (2 : Int32)), (.int (3 : Int32))])), (me, .inr (.int, ((((ms.set (4 * c + 3) (.int (-1 : Int32))).set (4 * c) (.int z0)).set (4 * c + 1) (.int z1)).set (4 * c + 1 + 1) (.int z2)))), (ki, .inr (.byte, ks)), (am, .inr (.long, [(.long x0), (.long x1), (.long x2), (.long x3)])), (hd, .inr (.int, [(.int z0), (.int z1)]))]) rfl
        refine g_aloadN w d11_168 rfl rfl 169 rfl ?_
        refine g_getf w d11_169 0 rfl 0 rfl 19 rfl Via.refl 172 rfl (fun T w => ?_)
        refine g_iload w d11_172 rfl 174 rfl ?_
        refine g_aloadN w d11_174 rfl rfl 175 rfl ?_
        refine g_getf w d11_175 0 rfl 3 rfl 26 rfl Via.refl 178 rfl (fun T w => ?_)
        refine g_iloadN w d11_178 rfl 179 rfl ?_
        refine g_iaload w d11_179 2 rfl p3 hz3 hb3 180 rfl ?_
        refine g_iastore w d11_180 3 rfl (4 * c + 1 + 1 + 1) (own_inc (own_inc (own_inc hap' (by omega)) (by omega)) (by omega)) (by simp only [List.length_set, g1]; omega) (.int z3) rfl 181 rfl (fun T w => ?_)
        replace w := w.to (L' := [(t, O_SmallGroups (.ref me) (.ref ki) (.int (4 : Int32)) (.ref ba) (.ref am) (.int mo) (.int (0 : Int32)) .null .null (.int ct) .null .null (.long ls)), (sa, .inr (.long, [(.long x0), (.long x1), (.long x2), (.long x3)])), (ba, .inr (.int, [(.int (0 : Int32)), (.int (1 : Int32)), (.int (2 : Int32)), (.int (3 : Int32))])), (me, .inr (.int, (((((ms.set (4 * c + 3) (.int (-1 : Int32))).set (4 * c) (.int z0)).set (4 * c + 1) (.int z1)).set (4 * c + 1 + 1) (.int z2)).set (4 * c + 1 + 1 + 1) (.int z3)))), (ki, .inr (.byte, ks)), (am, .inr (.long, [(.long x0), (.long x1), (.long x2), (.long x3)])), (hd, .inr (.int, [(.int z0), (.int z1)]))]) rfl
        refine g_iload w d11_181 rfl 183 rfl ?_
        refine g_aloadN w d11_183 rfl rfl 184 rfl ?_
        refine g_getf w d11_184 0 rfl 4 rfl 28 rfl Via.refl 187 rfl (fun T w => ?_)
        refine g_iloadN w d11_187 rfl 188 rfl ?_
        refine g_laload w d11_188 5 rfl p2 hz2 hy2 189 rfl ?_
        refine g_lconst w d11_189 (0 : Int64) rfl 190 rfl ?_
        refine g_lcmp w d11_190 191 rfl ?_
        refine g_lif_le w d11_191 198 (by decide) (by decide) 194 rfl (fun hc191 => ?_) (fun hc191 => ?_)
        · -- pc 198 (taken: not (0 : Int64) < y2)
          have s2 := mt (own_ltL (show (0 : Int64).toInt = 0 from rfl) (rfl : y2.toInt = y2.toInt)).mpr hc191
          refine g_iconst w d11_198 (0 : Int32) rfl 199 rfl ?_
          refine g_aloadN w d11_199 rfl rfl 200 rfl ?_
          refine g_getf w d11_200 0 rfl 4 rfl 28 rfl Via.refl 203 rfl (fun T w => ?_)
          refine g_iloadN w d11_203 rfl 204 rfl ?_
          refine g_laload w d11_204 5 rfl p3 hz3 hy3 205 rfl ?_
          refine g_lconst w d11_205 (0 : Int64) rfl 206 rfl ?_
          refine g_lcmp w d11_206 207 rfl ?_
          refine g_lif_le w d11_207 214 (by decide) (by decide) 210 rfl (fun hc207 => ?_) (fun hc207 => ?_)
          · -- pc 214 (taken: not (0 : Int64) < y3)
            have s3 := mt (own_ltL (show (0 : Int64).toInt = 0 from rfl) (rfl : y3.toInt = y3.toInt)).mpr hc207
            refine g_iconst w d11_214 (0 : Int32) rfl 215 rfl ?_
            refine g_iadd w d11_215 216 rfl ?_
            refine g_int (x' := (0 : Int32)) (by decide) ?_
            refine g_iadd w d11_216 217 rfl ?_
            refine g_int (x' := (1 : Int32)) (by decide) ?_
            refine g_istore w d11_217 219 rfl rfl #[.val (.ref t), .val (.ref hd), .val (.int z2), .val (.int z3), .val (.int (((ap + (1 : Int32)) + (1 : Int32)) + (1 : Int32))), .val (.int (1 : Int32)), .val (.ref hd), .val (.int (2 : Int32)), .val (.int (2 : Int32)), .val (.int z1)] rfl ?_
            refine g_aloadN w d11_219 rfl rfl 220 rfl ?_
            refine g_getf w d11_220 0 rfl 1 rfl 22 rfl Via.refl 223 rfl (fun T w => ?_)
            refine g_aloadN w d11_223 rfl rfl 224 rfl ?_
            refine g_dup w d11_224 rfl 225 rfl ?_
            refine g_getf w d11_225 0 rfl 9 rfl 39 rfl Via.refl 228 rfl (fun T w => ?_)
            refine g_dup_x1 w d11_228 rfl rfl 229 rfl ?_
            refine g_iconst w d11_229 (1 : Int32) rfl 230 rfl ?_
            refine g_iadd w d11_230 231 rfl ?_
            obtain ⟨ct1, hct1⟩ : ∃ own_z, own_z = ((ct + (1 : Int32)) : Int32) := ⟨_, rfl⟩
            refine g_int hct1.symm ?_
            refine g_putf w d11_231 0 rfl 9 rfl 39 rfl Via.refl 40 (Or.inl rfl) 9 rfl (ty := .int) (by decide) rfl rfl 234 rfl (fun T w => ?_)
            replace w := w.to (L' := [(t, O_SmallGroups (.ref me) (.ref ki) (.int (4 : Int32)) (.ref ba) (.ref am) (.int mo) (.int (0 : Int32)) .null .null (.int ct1) .null .null (.long ls)), (sa, .inr (.long, [(.long x0), (.long x1), (.long x2), (.long x3)])), (ba, .inr (.int, [(.int (0 : Int32)), (.int (1 : Int32)), (.int (2 : Int32)), (.int (3 : Int32))])), (me, .inr (.int, (((((ms.set (4 * c + 3) (.int (-1 : Int32))).set (4 * c) (.int z0)).set (4 * c + 1) (.int z1)).set (4 * c + 1 + 1) (.int z2)).set (4 * c + 1 + 1 + 1) (.int z3)))), (ki, .inr (.byte, ks)), (am, .inr (.long, [(.long x0), (.long x1), (.long x2), (.long x3)])), (hd, .inr (.int, [(.int z0), (.int z1)]))]) rfl
            refine g_aloadN w d11_234 rfl rfl 235 rfl ?_
            refine g_alen w d11_235 6 rfl (2 : Int32) rfl 236 rfl ?_
            refine g_iconst w d11_236 (2 : Int32) rfl 237 rfl ?_
            refine g_iadd w d11_237 238 rfl ?_
            refine g_int (x' := (4 : Int32)) (by decide) ?_
            refine g_iload w d11_238 rfl 240 rfl ?_
            refine g_static w (argsL := [(.int (4 : Int32)), (.int (1 : Int32))]) (rest := [(.int ct), (.ref ki)]) (rm12 l Z a0 hw n0 (4 : Int32) (1 : Int32) ([(t, O_SmallGroups (.ref me) (.ref ki) (.int (4 : Int32)) (.ref ba) (.ref am) (.int mo) (.int (0 : Int32)) .null .null (.int ct1) .null .null (.long ls)), (sa, .inr (.long, [(.long x0), (.long x1), (.long x2), (.long x3)])), (ba, .inr (.int, [(.int (0 : Int32)), (.int (1 : Int32)), (.int (2 : Int32)), (.int (3 : Int32))])), (me, .inr (.int, (((((ms.set (4 * c + 3) (.int (-1 : Int32))).set (4 * c) (.int z0)).set (4 * c + 1) (.int z1)).set (4 * c + 1 + 1) (.int z2)).set (4 * c + 1 + 1 + 1) (.int z3)))), (ki, .inr (.byte, ks)), (am, .inr (.long, [(.long x0), (.long x1), (.long x2), (.long x3)])), (hd, .inr (.int, [(.int z0), (.int z1)]))])) d11_240 81 rfl 82 rfl 10 rfl 83 rfl ⟨by decide, by decide⟩ pd_0 rfl rfl rfl 2 rfl (by decide) (by decide) (by decide) (by decide) 243 rfl (fun T v L w h => ?_)
            obtain ⟨rfl, hL⟩ := h
            replace w := w.to hL
            refine g_int (x' := (2 : Int32)) (by decide) ?_
            refine g_i2b w d11_243 244 rfl ?_
            refine g_int (x' := (2 : Int32)) (by decide) ?_
            refine g_bastore w d11_244 4 rfl c hct (by rw [g2]; omega) (.int (2 : Int32)) (by decide) 245 rfl (fun T w => ?_)
            replace w := w.to (L' := [(t, O_SmallGroups (.ref me) (.ref ki) (.int (4 : Int32)) (.ref ba) (.ref am) (.int mo) (.int (0 : Int32)) .null .null (.int ct1) .null .null (.long ls)), (sa, .inr (.long, [(.long x0), (.long x1), (.long x2), (.long x3)])), (ba, .inr (.int, [(.int (0 : Int32)), (.int (1 : Int32)), (.int (2 : Int32)), (.int (3 : Int32))])), (me, .inr (.int, (((((ms.set (4 * c + 3) (.int (-1 : Int32))).set (4 * c) (.int z0)).set (4 * c + 1) (.int z1)).set (4 * c + 1 + 1) (.int z2)).set (4 * c + 1 + 1 + 1) (.int z3)))), (ki, .inr (.byte, (ks.set c (.int (2 : Int32))))), (am, .inr (.long, [(.long x0), (.long x1), (.long x2), (.long x3)])), (hd, .inr (.int, [(.int z0), (.int z1)]))]) rfl
            refine g_iconst w d11_245 (1 : Int32) rfl 246 rfl ?_
            exact g_iretn w (by simp) d11_246 (by decide) (by decide) ⟨1, ct1, c + 1, _, _, rfl, by rw [hct1]; exact own_inc hct (by omega), own_G4 hG (by omega) ⟨by omega, by omega⟩ ⟨by omega, by omega⟩ ⟨by omega, by omega⟩ ⟨by omega, by omega⟩ (by decide) (by decide), rfl, Or.inl ⟨rfl, rfl, hlt⟩⟩
          · -- pc 210 (on: (0 : Int64) < y3)
            have s3 := (own_ltL (show (0 : Int64).toInt = 0 from rfl) (rfl : y3.toInt = y3.toInt)).mp hc207
            refine g_iconst w d11_210 (1 : Int32) rfl 211 rfl ?_
            refine g_goto w d11_211 215 (by decide) (by decide) ?_
            refine g_iadd w d11_215 216 rfl ?_
            refine g_int (x' := (1 : Int32)) (by decide) ?_
            refine g_iadd w d11_216 217 rfl ?_
            refine g_int (x' := (2 : Int32)) (by decide) ?_
            refine g_istore w d11_217 219 rfl rfl #[.val (.ref t), .val (.ref hd), .val (.int z2), .val (.int z3), .val (.int (((ap + (1 : Int32)) + (1 : Int32)) + (1 : Int32))), .val (.int (2 : Int32)), .val (.ref hd), .val (.int (2 : Int32)), .val (.int (2 : Int32)), .val (.int z1)] rfl ?_
            refine g_aloadN w d11_219 rfl rfl 220 rfl ?_
            refine g_getf w d11_220 0 rfl 1 rfl 22 rfl Via.refl 223 rfl (fun T w => ?_)
            refine g_aloadN w d11_223 rfl rfl 224 rfl ?_
            refine g_dup w d11_224 rfl 225 rfl ?_
            refine g_getf w d11_225 0 rfl 9 rfl 39 rfl Via.refl 228 rfl (fun T w => ?_)
            refine g_dup_x1 w d11_228 rfl rfl 229 rfl ?_
            refine g_iconst w d11_229 (1 : Int32) rfl 230 rfl ?_
            refine g_iadd w d11_230 231 rfl ?_
            obtain ⟨ct1, hct1⟩ : ∃ own_z, own_z = ((ct + (1 : Int32)) : Int32) := ⟨_, rfl⟩
            refine g_int hct1.symm ?_
            refine g_putf w d11_231 0 rfl 9 rfl 39 rfl Via.refl 40 (Or.inl rfl) 9 rfl (ty := .int) (by decide) rfl rfl 234 rfl (fun T w => ?_)
            replace w := w.to (L' := [(t, O_SmallGroups (.ref me) (.ref ki) (.int (4 : Int32)) (.ref ba) (.ref am) (.int mo) (.int (0 : Int32)) .null .null (.int ct1) .null .null (.long ls)), (sa, .inr (.long, [(.long x0), (.long x1), (.long x2), (.long x3)])), (ba, .inr (.int, [(.int (0 : Int32)), (.int (1 : Int32)), (.int (2 : Int32)), (.int (3 : Int32))])), (me, .inr (.int, (((((ms.set (4 * c + 3) (.int (-1 : Int32))).set (4 * c) (.int z0)).set (4 * c + 1) (.int z1)).set (4 * c + 1 + 1) (.int z2)).set (4 * c + 1 + 1 + 1) (.int z3)))), (ki, .inr (.byte, ks)), (am, .inr (.long, [(.long x0), (.long x1), (.long x2), (.long x3)])), (hd, .inr (.int, [(.int z0), (.int z1)]))]) rfl
            refine g_aloadN w d11_234 rfl rfl 235 rfl ?_
            refine g_alen w d11_235 6 rfl (2 : Int32) rfl 236 rfl ?_
            refine g_iconst w d11_236 (2 : Int32) rfl 237 rfl ?_
            refine g_iadd w d11_237 238 rfl ?_
            refine g_int (x' := (4 : Int32)) (by decide) ?_
            refine g_iload w d11_238 rfl 240 rfl ?_
            refine g_static w (argsL := [(.int (4 : Int32)), (.int (2 : Int32))]) (rest := [(.int ct), (.ref ki)]) (rm12 l Z a0 hw n0 (4 : Int32) (2 : Int32) ([(t, O_SmallGroups (.ref me) (.ref ki) (.int (4 : Int32)) (.ref ba) (.ref am) (.int mo) (.int (0 : Int32)) .null .null (.int ct1) .null .null (.long ls)), (sa, .inr (.long, [(.long x0), (.long x1), (.long x2), (.long x3)])), (ba, .inr (.int, [(.int (0 : Int32)), (.int (1 : Int32)), (.int (2 : Int32)), (.int (3 : Int32))])), (me, .inr (.int, (((((ms.set (4 * c + 3) (.int (-1 : Int32))).set (4 * c) (.int z0)).set (4 * c + 1) (.int z1)).set (4 * c + 1 + 1) (.int z2)).set (4 * c + 1 + 1 + 1) (.int z3)))), (ki, .inr (.byte, ks)), (am, .inr (.long, [(.long x0), (.long x1), (.long x2), (.long x3)])), (hd, .inr (.int, [(.int z0), (.int z1)]))])) d11_240 81 rfl 82 rfl 10 rfl 83 rfl ⟨by decide, by decide⟩ pd_0 rfl rfl rfl 2 rfl (by decide) (by decide) (by decide) (by decide) 243 rfl (fun T v L w h => ?_)
            obtain ⟨rfl, hL⟩ := h
            replace w := w.to hL
            refine g_int (x' := (3 : Int32)) (by decide) ?_
            refine g_i2b w d11_243 244 rfl ?_
            refine g_int (x' := (3 : Int32)) (by decide) ?_
            refine g_bastore w d11_244 4 rfl c hct (by rw [g2]; omega) (.int (3 : Int32)) (by decide) 245 rfl (fun T w => ?_)
            replace w := w.to (L' := [(t, O_SmallGroups (.ref me) (.ref ki) (.int (4 : Int32)) (.ref ba) (.ref am) (.int mo) (.int (0 : Int32)) .null .null (.int ct1) .null .null (.long ls)), (sa, .inr (.long, [(.long x0), (.long x1), (.long x2), (.long x3)])), (ba, .inr (.int, [(.int (0 : Int32)), (.int (1 : Int32)), (.int (2 : Int32)), (.int (3 : Int32))])), (me, .inr (.int, (((((ms.set (4 * c + 3) (.int (-1 : Int32))).set (4 * c) (.int z0)).set (4 * c + 1) (.int z1)).set (4 * c + 1 + 1) (.int z2)).set (4 * c + 1 + 1 + 1) (.int z3)))), (ki, .inr (.byte, (ks.set c (.int (3 : Int32))))), (am, .inr (.long, [(.long x0), (.long x1), (.long x2), (.long x3)])), (hd, .inr (.int, [(.int z0), (.int z1)]))]) rfl
            refine g_iconst w d11_245 (1 : Int32) rfl 246 rfl ?_
            exact g_iretn w (by simp) d11_246 (by decide) (by decide) ⟨1, ct1, c + 1, _, _, rfl, by rw [hct1]; exact own_inc hct (by omega), own_G4 hG (by omega) ⟨by omega, by omega⟩ ⟨by omega, by omega⟩ ⟨by omega, by omega⟩ ⟨by omega, by omega⟩ (by decide) (by decide), rfl, Or.inl ⟨rfl, rfl, hlt⟩⟩
        · -- pc 194 (on: (0 : Int64) < y2)
          have s2 := (own_ltL (show (0 : Int64).toInt = 0 from rfl) (rfl : y2.toInt = y2.toInt)).mp hc191
          refine g_iconst w d11_194 (1 : Int32) rfl 195 rfl ?_
          refine g_goto w d11_195 199 (by decide) (by decide) ?_
          refine g_aloadN w d11_199 rfl rfl 200 rfl ?_
          refine g_getf w d11_200 0 rfl 4 rfl 28 rfl Via.refl 203 rfl (fun T w => ?_)
          refine g_iloadN w d11_203 rfl 204 rfl ?_
          refine g_laload w d11_204 5 rfl p3 hz3 hy3 205 rfl ?_
          refine g_lconst w d11_205 (0 : Int64) rfl 206 rfl ?_
          refine g_lcmp w d11_206 207 rfl ?_
          refine g_lif_le w d11_207 214 (by decide) (by decide) 210 rfl (fun hc207 => ?_) (fun hc207 => ?_)
          · -- pc 214 (taken: not (0 : Int64) < y3)
            have s3 := mt (own_ltL (show (0 : Int64).toInt = 0 from rfl) (rfl : y3.toInt = y3.toInt)).mpr hc207
            refine g_iconst w d11_214 (0 : Int32) rfl 215 rfl ?_
            refine g_iadd w d11_215 216 rfl ?_
            refine g_int (x' := (1 : Int32)) (by decide) ?_
            refine g_iadd w d11_216 217 rfl ?_
            refine g_int (x' := (2 : Int32)) (by decide) ?_
            refine g_istore w d11_217 219 rfl rfl #[.val (.ref t), .val (.ref hd), .val (.int z2), .val (.int z3), .val (.int (((ap + (1 : Int32)) + (1 : Int32)) + (1 : Int32))), .val (.int (2 : Int32)), .val (.ref hd), .val (.int (2 : Int32)), .val (.int (2 : Int32)), .val (.int z1)] rfl ?_
            refine g_aloadN w d11_219 rfl rfl 220 rfl ?_
            refine g_getf w d11_220 0 rfl 1 rfl 22 rfl Via.refl 223 rfl (fun T w => ?_)
            refine g_aloadN w d11_223 rfl rfl 224 rfl ?_
            refine g_dup w d11_224 rfl 225 rfl ?_
            refine g_getf w d11_225 0 rfl 9 rfl 39 rfl Via.refl 228 rfl (fun T w => ?_)
            refine g_dup_x1 w d11_228 rfl rfl 229 rfl ?_
            refine g_iconst w d11_229 (1 : Int32) rfl 230 rfl ?_
            refine g_iadd w d11_230 231 rfl ?_
            obtain ⟨ct1, hct1⟩ : ∃ own_z, own_z = ((ct + (1 : Int32)) : Int32) := ⟨_, rfl⟩
            refine g_int hct1.symm ?_
            refine g_putf w d11_231 0 rfl 9 rfl 39 rfl Via.refl 40 (Or.inl rfl) 9 rfl (ty := .int) (by decide) rfl rfl 234 rfl (fun T w => ?_)
            replace w := w.to (L' := [(t, O_SmallGroups (.ref me) (.ref ki) (.int (4 : Int32)) (.ref ba) (.ref am) (.int mo) (.int (0 : Int32)) .null .null (.int ct1) .null .null (.long ls)), (sa, .inr (.long, [(.long x0), (.long x1), (.long x2), (.long x3)])), (ba, .inr (.int, [(.int (0 : Int32)), (.int (1 : Int32)), (.int (2 : Int32)), (.int (3 : Int32))])), (me, .inr (.int, (((((ms.set (4 * c + 3) (.int (-1 : Int32))).set (4 * c) (.int z0)).set (4 * c + 1) (.int z1)).set (4 * c + 1 + 1) (.int z2)).set (4 * c + 1 + 1 + 1) (.int z3)))), (ki, .inr (.byte, ks)), (am, .inr (.long, [(.long x0), (.long x1), (.long x2), (.long x3)])), (hd, .inr (.int, [(.int z0), (.int z1)]))]) rfl
            refine g_aloadN w d11_234 rfl rfl 235 rfl ?_
            refine g_alen w d11_235 6 rfl (2 : Int32) rfl 236 rfl ?_
            refine g_iconst w d11_236 (2 : Int32) rfl 237 rfl ?_
            refine g_iadd w d11_237 238 rfl ?_
            refine g_int (x' := (4 : Int32)) (by decide) ?_
            refine g_iload w d11_238 rfl 240 rfl ?_
            refine g_static w (argsL := [(.int (4 : Int32)), (.int (2 : Int32))]) (rest := [(.int ct), (.ref ki)]) (rm12 l Z a0 hw n0 (4 : Int32) (2 : Int32) ([(t, O_SmallGroups (.ref me) (.ref ki) (.int (4 : Int32)) (.ref ba) (.ref am) (.int mo) (.int (0 : Int32)) .null .null (.int ct1) .null .null (.long ls)), (sa, .inr (.long, [(.long x0), (.long x1), (.long x2), (.long x3)])), (ba, .inr (.int, [(.int (0 : Int32)), (.int (1 : Int32)), (.int (2 : Int32)), (.int (3 : Int32))])), (me, .inr (.int, (((((ms.set (4 * c + 3) (.int (-1 : Int32))).set (4 * c) (.int z0)).set (4 * c + 1) (.int z1)).set (4 * c + 1 + 1) (.int z2)).set (4 * c + 1 + 1 + 1) (.int z3)))), (ki, .inr (.byte, ks)), (am, .inr (.long, [(.long x0), (.long x1), (.long x2), (.long x3)])), (hd, .inr (.int, [(.int z0), (.int z1)]))])) d11_240 81 rfl 82 rfl 10 rfl 83 rfl ⟨by decide, by decide⟩ pd_0 rfl rfl rfl 2 rfl (by decide) (by decide) (by decide) (by decide) 243 rfl (fun T v L w h => ?_)
            obtain ⟨rfl, hL⟩ := h
            replace w := w.to hL
            refine g_int (x' := (3 : Int32)) (by decide) ?_
            refine g_i2b w d11_243 244 rfl ?_
            refine g_int (x' := (3 : Int32)) (by decide) ?_
            refine g_bastore w d11_244 4 rfl c hct (by rw [g2]; omega) (.int (3 : Int32)) (by decide) 245 rfl (fun T w => ?_)
            replace w := w.to (L' := [(t, O_SmallGroups (.ref me) (.ref ki) (.int (4 : Int32)) (.ref ba) (.ref am) (.int mo) (.int (0 : Int32)) .null .null (.int ct1) .null .null (.long ls)), (sa, .inr (.long, [(.long x0), (.long x1), (.long x2), (.long x3)])), (ba, .inr (.int, [(.int (0 : Int32)), (.int (1 : Int32)), (.int (2 : Int32)), (.int (3 : Int32))])), (me, .inr (.int, (((((ms.set (4 * c + 3) (.int (-1 : Int32))).set (4 * c) (.int z0)).set (4 * c + 1) (.int z1)).set (4 * c + 1 + 1) (.int z2)).set (4 * c + 1 + 1 + 1) (.int z3)))), (ki, .inr (.byte, (ks.set c (.int (3 : Int32))))), (am, .inr (.long, [(.long x0), (.long x1), (.long x2), (.long x3)])), (hd, .inr (.int, [(.int z0), (.int z1)]))]) rfl
            refine g_iconst w d11_245 (1 : Int32) rfl 246 rfl ?_
            exact g_iretn w (by simp) d11_246 (by decide) (by decide) ⟨1, ct1, c + 1, _, _, rfl, by rw [hct1]; exact own_inc hct (by omega), own_G4 hG (by omega) ⟨by omega, by omega⟩ ⟨by omega, by omega⟩ ⟨by omega, by omega⟩ ⟨by omega, by omega⟩ (by decide) (by decide), rfl, Or.inl ⟨rfl, rfl, hlt⟩⟩
          · -- pc 210 (on: (0 : Int64) < y3)
            have s3 := (own_ltL (show (0 : Int64).toInt = 0 from rfl) (rfl : y3.toInt = y3.toInt)).mp hc207
            refine g_iconst w d11_210 (1 : Int32) rfl 211 rfl ?_
            refine g_goto w d11_211 215 (by decide) (by decide) ?_
            refine g_iadd w d11_215 216 rfl ?_
            refine g_int (x' := (2 : Int32)) (by decide) ?_
            refine g_iadd w d11_216 217 rfl ?_
            refine g_int (x' := (3 : Int32)) (by decide) ?_
            refine g_istore w d11_217 219 rfl rfl #[.val (.ref t), .val (.ref hd), .val (.int z2), .val (.int z3), .val (.int (((ap + (1 : Int32)) + (1 : Int32)) + (1 : Int32))), .val (.int (3 : Int32)), .val (.ref hd), .val (.int (2 : Int32)), .val (.int (2 : Int32)), .val (.int z1)] rfl ?_
            refine g_aloadN w d11_219 rfl rfl 220 rfl ?_
            refine g_getf w d11_220 0 rfl 1 rfl 22 rfl Via.refl 223 rfl (fun T w => ?_)
            refine g_aloadN w d11_223 rfl rfl 224 rfl ?_
            refine g_dup w d11_224 rfl 225 rfl ?_
            refine g_getf w d11_225 0 rfl 9 rfl 39 rfl Via.refl 228 rfl (fun T w => ?_)
            refine g_dup_x1 w d11_228 rfl rfl 229 rfl ?_
            refine g_iconst w d11_229 (1 : Int32) rfl 230 rfl ?_
            refine g_iadd w d11_230 231 rfl ?_
            obtain ⟨ct1, hct1⟩ : ∃ own_z, own_z = ((ct + (1 : Int32)) : Int32) := ⟨_, rfl⟩
            refine g_int hct1.symm ?_
            refine g_putf w d11_231 0 rfl 9 rfl 39 rfl Via.refl 40 (Or.inl rfl) 9 rfl (ty := .int) (by decide) rfl rfl 234 rfl (fun T w => ?_)
            replace w := w.to (L' := [(t, O_SmallGroups (.ref me) (.ref ki) (.int (4 : Int32)) (.ref ba) (.ref am) (.int mo) (.int (0 : Int32)) .null .null (.int ct1) .null .null (.long ls)), (sa, .inr (.long, [(.long x0), (.long x1), (.long x2), (.long x3)])), (ba, .inr (.int, [(.int (0 : Int32)), (.int (1 : Int32)), (.int (2 : Int32)), (.int (3 : Int32))])), (me, .inr (.int, (((((ms.set (4 * c + 3) (.int (-1 : Int32))).set (4 * c) (.int z0)).set (4 * c + 1) (.int z1)).set (4 * c + 1 + 1) (.int z2)).set (4 * c + 1 + 1 + 1) (.int z3)))), (ki, .inr (.byte, ks)), (am, .inr (.long, [(.long x0), (.long x1), (.long x2), (.long x3)])), (hd, .inr (.int, [(.int z0), (.int z1)]))]) rfl
            refine g_aloadN w d11_234 rfl rfl 235 rfl ?_
            refine g_alen w d11_235 6 rfl (2 : Int32) rfl 236 rfl ?_
            refine g_iconst w d11_236 (2 : Int32) rfl 237 rfl ?_
            refine g_iadd w d11_237 238 rfl ?_
            refine g_int (x' := (4 : Int32)) (by decide) ?_
            refine g_iload w d11_238 rfl 240 rfl ?_
            refine g_static w (argsL := [(.int (4 : Int32)), (.int (3 : Int32))]) (rest := [(.int ct), (.ref ki)]) (rm12 l Z a0 hw n0 (4 : Int32) (3 : Int32) ([(t, O_SmallGroups (.ref me) (.ref ki) (.int (4 : Int32)) (.ref ba) (.ref am) (.int mo) (.int (0 : Int32)) .null .null (.int ct1) .null .null (.long ls)), (sa, .inr (.long, [(.long x0), (.long x1), (.long x2), (.long x3)])), (ba, .inr (.int, [(.int (0 : Int32)), (.int (1 : Int32)), (.int (2 : Int32)), (.int (3 : Int32))])), (me, .inr (.int, (((((ms.set (4 * c + 3) (.int (-1 : Int32))).set (4 * c) (.int z0)).set (4 * c + 1) (.int z1)).set (4 * c + 1 + 1) (.int z2)).set (4 * c + 1 + 1 + 1) (.int z3)))), (ki, .inr (.byte, ks)), (am, .inr (.long, [(.long x0), (.long x1), (.long x2), (.long x3)])), (hd, .inr (.int, [(.int z0), (.int z1)]))])) d11_240 81 rfl 82 rfl 10 rfl 83 rfl ⟨by decide, by decide⟩ pd_0 rfl rfl rfl 2 rfl (by decide) (by decide) (by decide) (by decide) 243 rfl (fun T v L w h => ?_)
            obtain ⟨rfl, hL⟩ := h
            replace w := w.to hL
            refine g_int (x' := (4 : Int32)) (by decide) ?_
            refine g_i2b w d11_243 244 rfl ?_
            refine g_int (x' := (4 : Int32)) (by decide) ?_
            refine g_bastore w d11_244 4 rfl c hct (by rw [g2]; omega) (.int (4 : Int32)) (by decide) 245 rfl (fun T w => ?_)
            replace w := w.to (L' := [(t, O_SmallGroups (.ref me) (.ref ki) (.int (4 : Int32)) (.ref ba) (.ref am) (.int mo) (.int (0 : Int32)) .null .null (.int ct1) .null .null (.long ls)), (sa, .inr (.long, [(.long x0), (.long x1), (.long x2), (.long x3)])), (ba, .inr (.int, [(.int (0 : Int32)), (.int (1 : Int32)), (.int (2 : Int32)), (.int (3 : Int32))])), (me, .inr (.int, (((((ms.set (4 * c + 3) (.int (-1 : Int32))).set (4 * c) (.int z0)).set (4 * c + 1) (.int z1)).set (4 * c + 1 + 1) (.int z2)).set (4 * c + 1 + 1 + 1) (.int z3)))), (ki, .inr (.byte, (ks.set c (.int (4 : Int32))))), (am, .inr (.long, [(.long x0), (.long x1), (.long x2), (.long x3)])), (hd, .inr (.int, [(.int z0), (.int z1)]))]) rfl
            refine g_iconst w d11_245 (1 : Int32) rfl 246 rfl ?_
            exact g_iretn w (by simp) d11_246 (by decide) (by decide) ⟨1, ct1, c + 1, _, _, rfl, by rw [hct1]; exact own_inc hct (by omega), own_G4 hG (by omega) ⟨by omega, by omega⟩ ⟨by omega, by omega⟩ ⟨by omega, by omega⟩ ⟨by omega, by omega⟩ (by decide) (by decide), rfl, Or.inl ⟨rfl, rfl, hlt⟩⟩
      · -- pc 138 (on: (0 : Int64) < y1)
        have s1 := (own_ltL (show (0 : Int64).toInt = 0 from rfl) (rfl : y1.toInt = y1.toInt)).mp hc135
        refine g_iconst w d11_138 (1 : Int32) rfl 139 rfl ?_
        refine g_goto w d11_139 143 (by decide) (by decide) ?_
        refine g_iadd w d11_143 144 rfl ?_
        refine g_int (x' := (2 : Int32)) (by decide) ?_
        refine g_istore w d11_144 146 rfl rfl #[.val (.ref t), .val (.ref hd), .val (.int z2), .val (.int z3), .val (.int ((ap + (1 : Int32)) + (1 : Int32))), .val (.int (2 : Int32)), .val (.ref hd), .val (.int (2 : Int32)), .val (.int (1 : Int32)), .val (.int z1)] rfl ?_
        refine g_iinc w d11_146 149 rfl rfl (by decide) #[.val (.ref t), .val (.ref hd), .val (.int z2), .val (.int z3), .val (.int ((ap + (1 : Int32)) + (1 : Int32))), .val (.int (2 : Int32)), .val (.ref hd), .val (.int (2 : Int32)), .val (.int (2 : Int32)), .val (.int z1)] rfl ?_
        refine g_goto w d11_149 93 (by decide) (by decide) ?_
        refine g_iload w d11_93 rfl 95 rfl ?_
        refine g_iload w d11_95 rfl 97 rfl ?_
        refine g_icmp_ge w d11_97 152 (by decide) (by decide) 100 rfl (fun hc97 => ?_) (fun h => absurd h (by decide))
        refine g_aloadN w d11_152 rfl rfl 153 rfl ?_
        refine g_getf w d11_153 0 rfl 0 rfl 19 rfl Via.refl 156 rfl (fun T w => ?_)
        refine g_iload w d11_156 rfl 158 rfl ?_
        refine g_iinc w d11_158 161 rfl rfl rfl #[.val (.ref t), .val (.ref hd), .val (.int z2), .val (.int z3), .val (.int (((ap + (1 : Int32)) + (1 : Int32)) + (1 : Int32))), .val (.int (2 : Int32)), .val (.ref hd), .val (.int (2 : Int32)), .val (.int (2 : Int32)), .val (.int z1)] rfl ?_
        refine g_aloadN w d11_161 rfl rfl 162 rfl ?_
        refine g_getf w d11_162 0 rfl 3 rfl 26 rfl Via.refl 165 rfl (fun T w => ?_)
        refine g_iloadN w d11_165 rfl 166 rfl ?_
        refine g_iaload w d11_166 2 rfl p2 hz2 hb2 167 rfl ?_
        refine g_iastore w d11_167 3 rfl (4 * c + 1 + 1) (own_inc (own_inc hap' (by omega)) (by omega)) (by simp only [List.length_set, g1]; omega) (.int z2) rfl 168 rfl (fun T w => ?_)
        replace w := w.to (L' := [(t, O_SmallGroups (.ref me) (.ref ki) (.int (4 : Int32)) (.ref ba) (.ref am) (.int mo) (.int (0 : Int32)) .null .null (.int ct) .null .null (.long ls)), (sa, .inr (.long, [(.long x0), (.long x1), (.long x2), (.long x3)])), (ba, .inr (.int, [(.int (0 : Int32)), (.int (1 : Int32)), (.int (2 : Int32)), (.int (3 : Int32))])), (me, .inr (.int, ((((ms.set (4 * c + 3) (.int (-1 : Int32))).set (4 * c) (.int z0)).set (4 * c + 1) (.int z1)).set (4 * c + 1 + 1) (.int z2)))), (ki, .inr (.byte, ks)), (am, .inr (.long, [(.long x0), (.long x1), (.long x2), (.long x3)])), (hd, .inr (.int, [(.int z0), (.int z1)]))]) rfl
        refine g_aloadN w d11_168 rfl rfl 169 rfl ?_
        refine g_getf w d11_169 0 rfl 0 rfl 19 rfl Via.refl 172 rfl (fun T w => ?_)
        refine g_iload w d11_172 rfl 174 rfl ?_
        refine g_aloadN w d11_174 rfl rfl 175 rfl ?_
        refine g_getf w d11_175 0 rfl 3 rfl 26 rfl Via.refl 178 rfl (fun T w => ?_)
        refine g_iloadN w d11_178 rfl 179 rfl ?_
        refine g_iaload w d11_179 2 rfl p3 hz3 hb3 180 rfl ?_
        refine g_iastore w d11_180 3 rfl (4 * c + 1 + 1 + 1) (own_inc (own_inc (own_inc hap' (by omega)) (by omega)) (by omega)) (by simp only [List.length_set, g1]; omega) (.int z3) rfl 181 rfl (fun T w => ?_)
        replace w := w.to (L' := [(t, O_SmallGroups (.ref me) (.ref ki) (.int (4 : Int32)) (.ref ba) (.ref am) (.int mo) (.int (0 : Int32)) .null .null (.int ct) .null .null (.long ls)), (sa, .inr (.long, [(.long x0), (.long x1), (.long x2), (.long x3)])), (ba, .inr (.int, [(.int (0 : Int32)), (.int (1 : Int32)), (.int (2 : Int32)), (.int (3 : Int32))])), (me, .inr (.int, (((((ms.set (4 * c + 3) (.int (-1 : Int32))).set (4 * c) (.int z0)).set (4 * c + 1) (.int z1)).set (4 * c + 1 + 1) (.int z2)).set (4 * c + 1 + 1 + 1) (.int z3)))), (ki, .inr (.byte, ks)), (am, .inr (.long, [(.long x0), (.long x1), (.long x2), (.long x3)])), (hd, .inr (.int, [(.int z0), (.int z1)]))]) rfl
        refine g_iload w d11_181 rfl 183 rfl ?_
        refine g_aloadN w d11_183 rfl rfl 184 rfl ?_
        refine g_getf w d11_184 0 rfl 4 rfl 28 rfl Via.refl 187 rfl (fun T w => ?_)
        refine g_iloadN w d11_187 rfl 188 rfl ?_
        refine g_laload w d11_188 5 rfl p2 hz2 hy2 189 rfl ?_
        refine g_lconst w d11_189 (0 : Int64) rfl 190 rfl ?_
        refine g_lcmp w d11_190 191 rfl ?_
        refine g_lif_le w d11_191 198 (by decide) (by decide) 194 rfl (fun hc191 => ?_) (fun hc191 => ?_)
        · -- pc 198 (taken: not (0 : Int64) < y2)
          have s2 := mt (own_ltL (show (0 : Int64).toInt = 0 from rfl) (rfl : y2.toInt = y2.toInt)).mpr hc191
          refine g_iconst w d11_198 (0 : Int32) rfl 199 rfl ?_
          refine g_aloadN w d11_199 rfl rfl 200 rfl ?_
          refine g_getf w d11_200 0 rfl 4 rfl 28 rfl Via.refl 203 rfl (fun T w => ?_)
          refine g_iloadN w d11_203 rfl 204 rfl ?_
          refine g_laload w d11_204 5 rfl p3 hz3 hy3 205 rfl ?_
          refine g_lconst w d11_205 (0 : Int64) rfl 206 rfl ?_
          refine g_lcmp w d11_206 207 rfl ?_
          refine g_lif_le w d11_207 214 (by decide) (by decide) 210 rfl (fun hc207 => ?_) (fun hc207 => ?_)
          · -- pc 214 (taken: not (0 : Int64) < y3)
            have s3 := mt (own_ltL (show (0 : Int64).toInt = 0 from rfl) (rfl : y3.toInt = y3.toInt)).mpr hc207
            refine g_iconst w d11_214 (0 : Int32) rfl 215 rfl ?_
            refine g_iadd w d11_215 216 rfl ?_
            refine g_int (x' := (0 : Int32)) (by decide) ?_
            refine g_iadd w d11_216 217 rfl ?_
            refine g_int (x' := (2 : Int32)) (by decide) ?_
            refine g_istore w d11_217 219 rfl rfl #[.val (.ref t), .val (.ref hd), .val (.int z2), .val (.int z3), .val (.int (((ap + (1 : Int32)) + (1 : Int32)) + (1 : Int32))), .val (.int (2 : Int32)), .val (.ref hd), .val (.int (2 : Int32)), .val (.int (2 : Int32)), .val (.int z1)] rfl ?_
            refine g_aloadN w d11_219 rfl rfl 220 rfl ?_
            refine g_getf w d11_220 0 rfl 1 rfl 22 rfl Via.refl 223 rfl (fun T w => ?_)
            refine g_aloadN w d11_223 rfl rfl 224 rfl ?_
            refine g_dup w d11_224 rfl 225 rfl ?_
            refine g_getf w d11_225 0 rfl 9 rfl 39 rfl Via.refl 228 rfl (fun T w => ?_)
            refine g_dup_x1 w d11_228 rfl rfl 229 rfl ?_
            refine g_iconst w d11_229 (1 : Int32) rfl 230 rfl ?_
            refine g_iadd w d11_230 231 rfl ?_
            obtain ⟨ct1, hct1⟩ : ∃ own_z, own_z = ((ct + (1 : Int32)) : Int32) := ⟨_, rfl⟩
            refine g_int hct1.symm ?_
            refine g_putf w d11_231 0 rfl 9 rfl 39 rfl Via.refl 40 (Or.inl rfl) 9 rfl (ty := .int) (by decide) rfl rfl 234 rfl (fun T w => ?_)
            replace w := w.to (L' := [(t, O_SmallGroups (.ref me) (.ref ki) (.int (4 : Int32)) (.ref ba) (.ref am) (.int mo) (.int (0 : Int32)) .null .null (.int ct1) .null .null (.long ls)), (sa, .inr (.long, [(.long x0), (.long x1), (.long x2), (.long x3)])), (ba, .inr (.int, [(.int (0 : Int32)), (.int (1 : Int32)), (.int (2 : Int32)), (.int (3 : Int32))])), (me, .inr (.int, (((((ms.set (4 * c + 3) (.int (-1 : Int32))).set (4 * c) (.int z0)).set (4 * c + 1) (.int z1)).set (4 * c + 1 + 1) (.int z2)).set (4 * c + 1 + 1 + 1) (.int z3)))), (ki, .inr (.byte, ks)), (am, .inr (.long, [(.long x0), (.long x1), (.long x2), (.long x3)])), (hd, .inr (.int, [(.int z0), (.int z1)]))]) rfl
            refine g_aloadN w d11_234 rfl rfl 235 rfl ?_
            refine g_alen w d11_235 6 rfl (2 : Int32) rfl 236 rfl ?_
            refine g_iconst w d11_236 (2 : Int32) rfl 237 rfl ?_
            refine g_iadd w d11_237 238 rfl ?_
            refine g_int (x' := (4 : Int32)) (by decide) ?_
            refine g_iload w d11_238 rfl 240 rfl ?_
            refine g_static w (argsL := [(.int (4 : Int32)), (.int (2 : Int32))]) (rest := [(.int ct), (.ref ki)]) (rm12 l Z a0 hw n0 (4 : Int32) (2 : Int32) ([(t, O_SmallGroups (.ref me) (.ref ki) (.int (4 : Int32)) (.ref ba) (.ref am) (.int mo) (.int (0 : Int32)) .null .null (.int ct1) .null .null (.long ls)), (sa, .inr (.long, [(.long x0), (.long x1), (.long x2), (.long x3)])), (ba, .inr (.int, [(.int (0 : Int32)), (.int (1 : Int32)), (.int (2 : Int32)), (.int (3 : Int32))])), (me, .inr (.int, (((((ms.set (4 * c + 3) (.int (-1 : Int32))).set (4 * c) (.int z0)).set (4 * c + 1) (.int z1)).set (4 * c + 1 + 1) (.int z2)).set (4 * c + 1 + 1 + 1) (.int z3)))), (ki, .inr (.byte, ks)), (am, .inr (.long, [(.long x0), (.long x1), (.long x2), (.long x3)])), (hd, .inr (.int, [(.int z0), (.int z1)]))])) d11_240 81 rfl 82 rfl 10 rfl 83 rfl ⟨by decide, by decide⟩ pd_0 rfl rfl rfl 2 rfl (by decide) (by decide) (by decide) (by decide) 243 rfl (fun T v L w h => ?_)
            obtain ⟨rfl, hL⟩ := h
            replace w := w.to hL
            refine g_int (x' := (3 : Int32)) (by decide) ?_
            refine g_i2b w d11_243 244 rfl ?_
            refine g_int (x' := (3 : Int32)) (by decide) ?_
            refine g_bastore w d11_244 4 rfl c hct (by rw [g2]; omega) (.int (3 : Int32)) (by decide) 245 rfl (fun T w => ?_)
            replace w := w.to (L' := [(t, O_SmallGroups (.ref me) (.ref ki) (.int (4 : Int32)) (.ref ba) (.ref am) (.int mo) (.int (0 : Int32)) .null .null (.int ct1) .null .null (.long ls)), (sa, .inr (.long, [(.long x0), (.long x1), (.long x2), (.long x3)])), (ba, .inr (.int, [(.int (0 : Int32)), (.int (1 : Int32)), (.int (2 : Int32)), (.int (3 : Int32))])), (me, .inr (.int, (((((ms.set (4 * c + 3) (.int (-1 : Int32))).set (4 * c) (.int z0)).set (4 * c + 1) (.int z1)).set (4 * c + 1 + 1) (.int z2)).set (4 * c + 1 + 1 + 1) (.int z3)))), (ki, .inr (.byte, (ks.set c (.int (3 : Int32))))), (am, .inr (.long, [(.long x0), (.long x1), (.long x2), (.long x3)])), (hd, .inr (.int, [(.int z0), (.int z1)]))]) rfl
            refine g_iconst w d11_245 (1 : Int32) rfl 246 rfl ?_
            exact g_iretn w (by simp) d11_246 (by decide) (by decide) ⟨1, ct1, c + 1, _, _, rfl, by rw [hct1]; exact own_inc hct (by omega), own_G4 hG (by omega) ⟨by omega, by omega⟩ ⟨by omega, by omega⟩ ⟨by omega, by omega⟩ ⟨by omega, by omega⟩ (by decide) (by decide), rfl, Or.inl ⟨rfl, rfl, hlt⟩⟩
          · -- pc 210 (on: (0 : Int64) < y3)
            have s3 := (own_ltL (show (0 : Int64).toInt = 0 from rfl) (rfl : y3.toInt = y3.toInt)).mp hc207
            refine g_iconst w d11_210 (1 : Int32) rfl 211 rfl ?_
            refine g_goto w d11_211 215 (by decide) (by decide) ?_
            refine g_iadd w d11_215 216 rfl ?_
            refine g_int (x' := (1 : Int32)) (by decide) ?_
            refine g_iadd w d11_216 217 rfl ?_
            refine g_int (x' := (3 : Int32)) (by decide) ?_
            refine g_istore w d11_217 219 rfl rfl #[.val (.ref t), .val (.ref hd), .val (.int z2), .val (.int z3), .val (.int (((ap + (1 : Int32)) + (1 : Int32)) + (1 : Int32))), .val (.int (3 : Int32)), .val (.ref hd), .val (.int (2 : Int32)), .val (.int (2 : Int32)), .val (.int z1)] rfl ?_
            refine g_aloadN w d11_219 rfl rfl 220 rfl ?_
            refine g_getf w d11_220 0 rfl 1 rfl 22 rfl Via.refl 223 rfl (fun T w => ?_)
            refine g_aloadN w d11_223 rfl rfl 224 rfl ?_
            refine g_dup w d11_224 rfl 225 rfl ?_
            refine g_getf w d11_225 0 rfl 9 rfl 39 rfl Via.refl 228 rfl (fun T w => ?_)
            refine g_dup_x1 w d11_228 rfl rfl 229 rfl ?_
            refine g_iconst w d11_229 (1 : Int32) rfl 230 rfl ?_
            refine g_iadd w d11_230 231 rfl ?_
            obtain ⟨ct1, hct1⟩ : ∃ own_z, own_z = ((ct + (1 : Int32)) : Int32) := ⟨_, rfl⟩
            refine g_int hct1.symm ?_
            refine g_putf w d11_231 0 rfl 9 rfl 39 rfl Via.refl 40 (Or.inl rfl) 9 rfl (ty := .int) (by decide) rfl rfl 234 rfl (fun T w => ?_)
            replace w := w.to (L' := [(t, O_SmallGroups (.ref me) (.ref ki) (.int (4 : Int32)) (.ref ba) (.ref am) (.int mo) (.int (0 : Int32)) .null .null (.int ct1) .null .null (.long ls)), (sa, .inr (.long, [(.long x0), (.long x1), (.long x2), (.long x3)])), (ba, .inr (.int, [(.int (0 : Int32)), (.int (1 : Int32)), (.int (2 : Int32)), (.int (3 : Int32))])), (me, .inr (.int, (((((ms.set (4 * c + 3) (.int (-1 : Int32))).set (4 * c) (.int z0)).set (4 * c + 1) (.int z1)).set (4 * c + 1 + 1) (.int z2)).set (4 * c + 1 + 1 + 1) (.int z3)))), (ki, .inr (.byte, ks)), (am, .inr (.long, [(.long x0), (.long x1), (.long x2), (.long x3)])), (hd, .inr (.int, [(.int z0), (.int z1)]))]) rfl
            refine g_aloadN w d11_234 rfl rfl 235 rfl ?_
            refine g_alen w d11_235 6 rfl (2 : Int32) rfl 236 rfl ?_
            refine g_iconst w d11_236 (2 : Int32) rfl 237 rfl ?_
            refine g_iadd w d11_237 238 rfl ?_
            refine g_int (x' := (4 : Int32)) (by decide) ?_
            refine g_iload w d11_238 rfl 240 rfl ?_
            refine g_static w (argsL := [(.int (4 : Int32)), (.int (3 : Int32))]) (rest := [(.int ct), (.ref ki)]) (rm12 l Z a0 hw n0 (4 : Int32) (3 : Int32) ([(t, O_SmallGroups (.ref me) (.ref ki) (.int (4 : Int32)) (.ref ba) (.ref am) (.int mo) (.int (0 : Int32)) .null .null (.int ct1) .null .null (.long ls)), (sa, .inr (.long, [(.long x0), (.long x1), (.long x2), (.long x3)])), (ba, .inr (.int, [(.int (0 : Int32)), (.int (1 : Int32)), (.int (2 : Int32)), (.int (3 : Int32))])), (me, .inr (.int, (((((ms.set (4 * c + 3) (.int (-1 : Int32))).set (4 * c) (.int z0)).set (4 * c + 1) (.int z1)).set (4 * c + 1 + 1) (.int z2)).set (4 * c + 1 + 1 + 1) (.int z3)))), (ki, .inr (.byte, ks)), (am, .inr (.long, [(.long x0), (.long x1), (.long x2), (.long x3)])), (hd, .inr (.int, [(.int z0), (.int z1)]))])) d11_240 81 rfl 82 rfl 10 rfl 83 rfl ⟨by decide, by decide⟩ pd_0 rfl rfl rfl 2 rfl (by decide) (by decide) (by decide) (by decide) 243 rfl (fun T v L w h => ?_)
            obtain ⟨rfl, hL⟩ := h
            replace w := w.to hL
            refine g_int (x' := (4 : Int32)) (by decide) ?_
            refine g_i2b w d11_243 244 rfl ?_
            refine g_int (x' := (4 : Int32)) (by decide) ?_
            refine g_bastore w d11_244 4 rfl c hct (by rw [g2]; omega) (.int (4 : Int32)) (by decide) 245 rfl (fun T w => ?_)
            replace w := w.to (L' := [(t, O_SmallGroups (.ref me) (.ref ki) (.int (4 : Int32)) (.ref ba) (.ref am) (.int mo) (.int (0 : Int32)) .null .null (.int ct1) .null .null (.long ls)), (sa, .inr (.long, [(.long x0), (.long x1), (.long x2), (.long x3)])), (ba, .inr (.int, [(.int (0 : Int32)), (.int (1 : Int32)), (.int (2 : Int32)), (.int (3 : Int32))])), (me, .inr (.int, (((((ms.set (4 * c + 3) (.int (-1 : Int32))).set (4 * c) (.int z0)).set (4 * c + 1) (.int z1)).set (4 * c + 1 + 1) (.int z2)).set (4 * c + 1 + 1 + 1) (.int z3)))), (ki, .inr (.byte, (ks.set c (.int (4 : Int32))))), (am, .inr (.long, [(.long x0), (.long x1), (.long x2), (.long x3)])), (hd, .inr (.int, [(.int z0), (.int z1)]))]) rfl
            refine g_iconst w d11_245 (1 : Int32) rfl 246 rfl ?_
            exact g_iretn w (by simp) d11_246 (by decide) (by decide) ⟨1, ct1, c + 1, _, _, rfl, by rw [hct1]; exact own_inc hct (by omega), own_G4 hG (by omega) ⟨by omega, by omega⟩ ⟨by omega, by omega⟩ ⟨by omega, by omega⟩ ⟨by omega, by omega⟩ (by decide) (by decide), rfl, Or.inl ⟨rfl, rfl, hlt⟩⟩
        · -- pc 194 (on: (0 : Int64) < y2)
          have s2 := (own_ltL (show (0 : Int64).toInt = 0 from rfl) (rfl : y2.toInt = y2.toInt)).mp hc191
          refine g_iconst w d11_194 (1 : Int32) rfl 195 rfl ?_
          refine g_goto w d11_195 199 (by decide) (by decide) ?_
          refine g_aloadN w d11_199 rfl rfl 200 rfl ?_
          refine g_getf w d11_200 0 rfl 4 rfl 28 rfl Via.refl 203 rfl (fun T w => ?_)
          refine g_iloadN w d11_203 rfl 204 rfl ?_
          refine g_laload w d11_204 5 rfl p3 hz3 hy3 205 rfl ?_
          refine g_lconst w d11_205 (0 : Int64) rfl 206 rfl ?_
          refine g_lcmp w d11_206 207 rfl ?_
          refine g_lif_le w d11_207 214 (by decide) (by decide) 210 rfl (fun hc207 => ?_) (fun hc207 => ?_)
          · -- pc 214 (taken: not (0 : Int64) < y3)
            have s3 := mt (own_ltL (show (0 : Int64).toInt = 0 from rfl) (rfl : y3.toInt = y3.toInt)).mpr hc207
            refine g_iconst w d11_214 (0 : Int32) rfl 215 rfl ?_
            refine g_iadd w d11_215 216 rfl ?_
            refine g_int (x' := (1 : Int32)) (by decide) ?_
            refine g_iadd w d11_216 217 rfl ?_
            refine g_int (x' := (3 : Int32)) (by decide) ?_
            refine g_istore w d11_217 219 rfl rfl #[.val (.ref t), .val (.ref hd), .val (.int z2), .val (.int z3), .val (.int (((ap + (1 : Int32)) + (1 : Int32)) + (1 : Int32))), .val (.int (3 : Int32)), .val (.ref hd), .val (.int (2 : Int32)), .val (.int (2 : Int32)), .val (.int z1)] rfl ?_
            refine g_aloadN w d11_219 rfl rfl 220 rfl ?_
            refine g_getf w d11_220 0 rfl 1 rfl 22 rfl Via.refl 223 rfl (fun T w => ?_)
            refine g_aloadN w d11_223 rfl rfl 224 rfl ?_
            refine g_dup w d11_224 rfl 225 rfl ?_
            refine g_getf w d11_225 0 rfl 9 rfl 39 rfl Via.refl 228 rfl (fun T w => ?_)
            refine g_dup_x1 w d11_228 rfl rfl 229 rfl ?_
            refine g_iconst w d11_229 (1 : Int32) rfl 230 rfl ?_
            refine g_iadd w d11_230 231 rfl ?_
            obtain ⟨ct1, hct1⟩ : ∃ own_z, own_z = ((ct + (1 : Int32)) : Int32) := ⟨_, rfl⟩
            refine g_int hct1.symm ?_
            refine g_putf w d11_231 0 rfl 9 rfl 39 rfl Via.refl 40 (Or.inl rfl) 9 rfl (ty := .int) (by decide) rfl rfl 234 rfl (fun T w => ?_)
            replace w := w.to (L' := [(t, O_SmallGroups (.ref me) (.ref ki) (.int (4 : Int32)) (.ref ba) (.ref am) (.int mo) (.int (0 : Int32)) .null .null (.int ct1) .null .null (.long ls)), (sa, .inr (.long, [(.long x0), (.long x1), (.long x2), (.long x3)])), (ba, .inr (.int, [(.int (0 : Int32)), (.int (1 : Int32)), (.int (2 : Int32)), (.int (3 : Int32))])), (me, .inr (.int, (((((ms.set (4 * c + 3) (.int (-1 : Int32))).set (4 * c) (.int z0)).set (4 * c + 1) (.int z1)).set (4 * c + 1 + 1) (.int z2)).set (4 * c + 1 + 1 + 1) (.int z3)))), (ki, .inr (.byte, ks)), (am, .inr (.long, [(.long x0), (.long x1), (.long x2), (.long x3)])), (hd, .inr (.int, [(.int z0), (.int z1)]))]) rfl
            refine g_aloadN w d11_234 rfl rfl 235 rfl ?_
            refine g_alen w d11_235 6 rfl (2 : Int32) rfl 236 rfl ?_
            refine g_iconst w d11_236 (2 : Int32) rfl 237 rfl ?_
            refine g_iadd w d11_237 238 rfl ?_
            refine g_int (x' := (4 : Int32)) (by decide) ?_
            refine g_iload w d11_238 rfl 240 rfl ?_
            refine g_static w (argsL := [(.int (4 : Int32)), (.int (3 : Int32))]) (rest := [(.int ct), (.ref ki)]) (rm12 l Z a0 hw n0 (4 : Int32) (3 : Int32) ([(t, O_SmallGroups (.ref me) (.ref ki) (.int (4 : Int32)) (.ref ba) (.ref am) (.int mo) (.int (0 : Int32)) .null .null (.int ct1) .null .null (.long ls)), (sa, .inr (.long, [(.long x0), (.long x1), (.long x2), (.long x3)])), (ba, .inr (.int, [(.int (0 : Int32)), (.int (1 : Int32)), (.int (2 : Int32)), (.int (3 : Int32))])), (me, .inr (.int, (((((ms.set (4 * c + 3) (.int (-1 : Int32))).set (4 * c) (.int z0)).set (4 * c + 1) (.int z1)).set (4 * c + 1 + 1) (.int z2)).set (4 * c + 1 + 1 + 1) (.int z3)))), (ki, .inr (.byte, ks)), (am, .inr (.long, [(.long x0), (.long x1), (.long x2), (.long x3)])), (hd, .inr (.int, [(.int z0), (.int z1)]))])) d11_240 81 rfl 82 rfl 10 rfl 83 rfl ⟨by decide, by decide⟩ pd_0 rfl rfl rfl 2 rfl (by decide) (by decide) (by decide) (by decide) 243 rfl (fun T v L w h => ?_)
            obtain ⟨rfl, hL⟩ := h
            replace w := w.to hL
            refine g_int (x' := (4 : Int32)) (by decide) ?_
            refine g_i2b w d11_243 244 rfl ?_
            refine g_int (x' := (4 : Int32)) (by decide) ?_
            refine g_bastore w d11_244 4 rfl c hct (by rw [g2]; omega) (.int (4 : Int32)) (by decide) 245 rfl (fun T w => ?_)
            replace w := w.to (L' := [(t, O_SmallGroups (.ref me) (.ref ki) (.int (4 : Int32)) (.ref ba) (.ref am) (.int mo) (.int (0 : Int32)) .null .null (.int ct1) .null .null (.long ls)), (sa, .inr (.long, [(.long x0), (.long x1), (.long x2), (.long x3)])), (ba, .inr (.int, [(.int (0 : Int32)), (.int (1 : Int32)), (.int (2 : Int32)), (.int (3 : Int32))])), (me, .inr (.int, (((((ms.set (4 * c + 3) (.int (-1 : Int32))).set (4 * c) (.int z0)).set (4 * c + 1) (.int z1)).set (4 * c + 1 + 1) (.int z2)).set (4 * c + 1 + 1 + 1) (.int z3)))), (ki, .inr (.byte, (ks.set c (.int (4 : Int32))))), (am, .inr (.long, [(.long x0), (.long x1), (.long x2), (.long x3)])), (hd, .inr (.int, [(.int z0), (.int z1)]))]) rfl
            refine g_iconst w d11_245 (1 : Int32) rfl 246 rfl ?_
            exact g_iretn w (by simp) d11_246 (by decide) (by decide) ⟨1, ct1, c + 1, _, _, rfl, by rw [hct1]; exact own_inc hct (by omega), own_G4 hG (by omega) ⟨by omega, by omega⟩ ⟨by omega, by omega⟩ ⟨by omega, by omega⟩ ⟨by omega, by omega⟩ (by decide) (by decide), rfl, Or.inl ⟨rfl, rfl, hlt⟩⟩
          · -- pc 210 (on: (0 : Int64) < y3)
            have s3 := (own_ltL (show (0 : Int64).toInt = 0 from rfl) (rfl : y3.toInt = y3.toInt)).mp hc207
            refine g_iconst w d11_210 (1 : Int32) rfl 211 rfl ?_
            refine g_goto w d11_211 215 (by decide) (by decide) ?_
            refine g_iadd w d11_215 216 rfl ?_
            refine g_int (x' := (2 : Int32)) (by decide) ?_
            refine g_iadd w d11_216 217 rfl ?_
            refine g_int (x' := (4 : Int32)) (by decide) ?_
            refine g_istore w d11_217 219 rfl rfl #[.val (.ref t), .val (.ref hd), .val (.int z2), .val (.int z3), .val (.int (((ap + (1 : Int32)) + (1 : Int32)) + (1 : Int32))), .val (.int (4 : Int32)), .val (.ref hd), .val (.int (2 : Int32)), .val (.int (2 : Int32)), .val (.int z1)] rfl ?_
            exfalso; omega
  · -- pc 11 (on: ct = mo)
    refine g_iconst w d11_11 (0 : Int32) rfl 12 rfl ?_
    exact g_iretn w (by simp) d11_12 (by decide) (by decide) ⟨0, ct, c, ms, ks, rfl, hct, hG, rfl, Or.inr ⟨rfl, rfl, (own_eqN hct hmo).mp hc8⟩⟩
theorem d9_0 : decode prog_29_method_15_code 0 = .ok (.iconst 1, 1) := by decide +kernel
theorem d9_1 : decode prog_29_method_15_code 1 = .ok (.istore 5, 2) := by decide +kernel
theorem d9_3 : decode prog_29_method_15_code 3 = .ok (.iload_n 2, 1) := by decide +kernel
theorem d9_4 : decode prog_29_method_15_code 4 = .ok (.istore 6, 2) := by decide +kernel
theorem d9_6 : decode prog_29_method_15_code 6 = .ok (.aload_n 0, 1) := by decide +kernel
theorem d9_7 : decode prog_29_method_15_code 7 = .ok (.getfield 17, 3) := by decide +kernel
theorem d9_10 : decode prog_29_method_15_code 10 = .ok (.iconst 1, 1) := by decide +kernel
theorem d9_11 : decode prog_29_method_15_code 11 = .ok (.isub, 1) := by decide +kernel
theorem d9_12 : decode prog_29_method_15_code 12 = .ok (.istore 7, 2) := by decide +kernel
theorem d9_14 : decode prog_29_method_15_code 14 = .ok (.iload 5, 2) := by decide +kernel
theorem d9_16 : decode prog_29_method_15_code 16 = .ok (.ifCond .eq 275, 3) := by decide +kernel
theorem d9_19 : decode prog_29_method_15_code 19 = .ok (.iload 6, 2) := by decide +kernel
theorem d9_21 : decode prog_29_method_15_code 21 = .ok (.iload 7, 2) := by decide +kernel
theorem d9_23 : decode prog_29_method_15_code 23 = .ok (.if_icmp .ge 268, 3) := by decide +kernel
theorem d9_26 : decode prog_29_method_15_code 26 = .ok (.aload_n 0, 1) := by decide +kernel
theorem d9_27 : decode prog_29_method_15_code 27 = .ok (.dup, 1) := by decide +kernel
theorem d9_28 : decode prog_29_method_15_code 28 = .ok (.getfield 69, 3) := by decide +kernel
theorem d9_31 : decode prog_29_method_15_code 31 = .ok (.lconst 1, 1) := by decide +kernel
theorem d9_32 : decode prog_29_method_15_code 32 = .ok (.ladd, 1) := by decide +kernel
theorem d9_33 : decode prog_29_method_15_code 33 = .ok (.putfield 69, 3) := by decide +kernel
theorem d9_36 : decode prog_29_method_15_code 36 = .ok (.aload_n 0, 1) := by decide +kernel
theorem d9_37 : decode prog_29_method_15_code 37 = .ok (.getfield 24, 3) := by decide +kernel
theorem d9_40 : decode prog_29_method_15_code 40 = .ok (.iload 6, 2) := by decide +kernel
theorem d9_42 : decode prog_29_method_15_code 42 = .ok (.laload, 1) := by decide +kernel
theorem d9_43 : decode prog_29_method_15_code 43 = .ok (.aload_n 0, 1) := by decide +kernel
theorem d9_44 : decode prog_29_method_15_code 44 = .ok (.getfield 24, 3) := by decide +kernel
theorem d9_47 : decode prog_29_method_15_code 47 = .ok (.iload 7, 2) := by decide +kernel
theorem d9_49 : decode prog_29_method_15_code 49 = .ok (.laload, 1) := by decide +kernel
theorem d9_50 : decode prog_29_method_15_code 50 = .ok (.ladd, 1) := by decide +kernel
theorem d9_51 : decode prog_29_method_15_code 51 = .ok (.lstore 8, 2) := by decide +kernel
theorem d9_53 : decode prog_29_method_15_code 53 = .ok (.lload 8, 2) := by decide +kernel
theorem d9_55 : decode prog_29_method_15_code 55 = .ok (.lload_n 3, 1) := by decide +kernel
theorem d9_56 : decode prog_29_method_15_code 56 = .ok (.lcmp, 1) := by decide +kernel
theorem d9_57 : decode prog_29_method_15_code 57 = .ok (.ifCond .ge 9, 3) := by decide +kernel
theorem d9_60 : decode prog_29_method_15_code 60 = .ok (.iinc 6 1, 3) := by decide +kernel
theorem d9_63 : decode prog_29_method_15_code 63 = .ok (.goto 225, 3) := by decide +kernel
theorem d9_66 : decode prog_29_method_15_code 66 = .ok (.lload 8, 2) := by decide +kernel
theorem d9_68 : decode prog_29_method_15_code 68 = .ok (.lload_n 3, 1) := by decide +kernel
theorem d9_69 : decode prog_29_method_15_code 69 = .ok (.lcmp, 1) := by decide +kernel
theorem d9_70 : decode prog_29_method_15_code 70 = .ok (.ifCond .le 9, 3) := by decide +kernel
theorem d9_73 : decode prog_29_method_15_code 73 = .ok (.iinc 7 (-1), 3) := by decide +kernel
theorem d9_76 : decode prog_29_method_15_code 76 = .ok (.goto 212, 3) := by decide +kernel
theorem d9_79 : decode prog_29_method_15_code 79 = .ok (.aload_n 0, 1) := by decide +kernel
theorem d9_80 : decode prog_29_method_15_code 80 = .ok (.getfield 24, 3) := by decide +kernel
theorem d9_83 : decode prog_29_method_15_code 83 = .ok (.iload 6, 2) := by decide +kernel
theorem d9_85 : decode prog_29_method_15_code 85 = .ok (.laload, 1) := by decide +kernel
theorem d9_86 : decode prog_29_method_15_code 86 = .ok (.aload_n 0, 1) := by decide +kernel
theorem d9_87 : decode prog_29_method_15_code 87 = .ok (.getfield 24, 3) := by decide +kernel
theorem d9_90 : decode prog_29_method_15_code 90 = .ok (.iload 7, 2) := by decide +kernel
theorem d9_92 : decode prog_29_method_15_code 92 = .ok (.laload, 1) := by decide +kernel
theorem d9_93 : decode prog_29_method_15_code 93 = .ok (.lcmp, 1) := by decide +kernel
theorem d9_94 : decode prog_29_method_15_code 94 = .ok (.ifCond .ne 67, 3) := by decide +kernel
theorem d9_97 : decode prog_29_method_15_code 97 = .ok (.iload 6, 2) := by decide +kernel
theorem d9_99 : decode prog_29_method_15_code 99 = .ok (.istore 10, 2) := by decide +kernel
theorem d9_101 : decode prog_29_method_15_code 101 = .ok (.iload 5, 2) := by decide +kernel
theorem d9_103 : decode prog_29_method_15_code 103 = .ok (.ifCond .eq 51, 3) := by decide +kernel
theorem d9_106 : decode prog_29_method_15_code 106 = .ok (.iload 10, 2) := by decide +kernel
theorem d9_108 : decode prog_29_method_15_code 108 = .ok (.iload 7, 2) := by decide +kernel
theorem d9_110 : decode prog_29_method_15_code 110 = .ok (.if_icmp .ge 44, 3) := by decide +kernel
theorem d9_113 : decode prog_29_method_15_code 113 = .ok (.iload 10, 2) := by decide +kernel
theorem d9_115 : decode prog_29_method_15_code 115 = .ok (.iconst 1, 1) := by decide +kernel
theorem d9_116 : decode prog_29_method_15_code 116 = .ok (.iadd, 1) := by decide +kernel
theorem d9_117 : decode prog_29_method_15_code 117 = .ok (.istore 11, 2) := by decide +kernel
theorem d9_119 : decode prog_29_method_15_code 119 = .ok (.iload 5, 2) := by decide +kernel
theorem d9_121 : decode prog_29_method_15_code 121 = .ok (.ifCond .eq 27, 3) := by decide +kernel
theorem d9_124 : decode prog_29_method_15_code 124 = .ok (.iload 11, 2) := by decide +kernel
theorem d9_126 : decode prog_29_method_15_code 126 = .ok (.iload 7, 2) := by decide +kernel
theorem d9_128 : decode prog_29_method_15_code 128 = .ok (.if_icmp .gt 20, 3) := by decide +kernel
theorem d9_131 : decode prog_29_method_15_code 131 = .ok (.aload_n 0, 1) := by decide +kernel
theorem d9_132 : decode prog_29_method_15_code 132 = .ok (.aload_n 1, 1) := by decide +kernel
theorem d9_133 : decode prog_29_method_15_code 133 = .ok (.iload 10, 2) := by decide +kernel
theorem d9_135 : decode prog_29_method_15_code 135 = .ok (.iload 11, 2) := by decide +kernel
theorem d9_137 : decode prog_29_method_15_code 137 = .ok (.invokevirtual 99, 3) := by decide +kernel
theorem d9_140 : decode prog_29_method_15_code 140 = .ok (.istore 5, 2) := by decide +kernel
theorem d9_142 : decode prog_29_method_15_code 142 = .ok (.iinc 11 1, 3) := by decide +kernel
theorem d9_145 : decode prog_29_method_15_code 145 = .ok (.goto (-26), 3) := by decide +kernel
theorem d9_148 : decode prog_29_method_15_code 148 = .ok (.iinc 10 1, 3) := by decide +kernel
theorem d9_151 : decode prog_29_method_15_code 151 = .ok (.goto (-50), 3) := by decide +kernel
theorem d9_154 : decode prog_29_method_15_code 154 = .ok (.iload 7, 2) := by decide +kernel
theorem d9_156 : decode prog_29_method_15_code 156 = .ok (.istore 6, 2) := by decide +kernel
theorem d9_158 : decode prog_29_method_15_code 158 = .ok (.goto 130, 3) := by decide +kernel
theorem d9_161 : decode prog_29_method_15_code 161 = .ok (.iload 6, 2) := by decide +kernel
theorem d9_163 : decode prog_29_method_15_code 163 = .ok (.istore 10, 2) := by decide +kernel
theorem d9_165 : decode prog_29_method_15_code 165 = .ok (.aload_n 0, 1) := by decide +kernel
theorem d9_166 : decode prog_29_method_15_code 166 = .ok (.getfield 24, 3) := by decide +kernel
theorem d9_169 : decode prog_29_method_15_code 169 = .ok (.iload 10, 2) := by decide +kernel
theorem d9_171 : decode prog_29_method_15_code 171 = .ok (.iconst 1, 1) := by decide +kernel
theorem d9_172 : decode prog_29_method_15_code 172 = .ok (.iadd, 1) := by decide +kernel
theorem d9_173 : decode prog_29_method_15_code 173 = .ok (.laload, 1) := by decide +kernel
theorem d9_174 : decode prog_29_method_15_code 174 = .ok (.aload_n 0, 1) := by decide +kernel
theorem d9_175 : decode prog_29_method_15_code 175 = .ok (.getfield 24, 3) := by decide +kernel
theorem d9_178 : decode prog_29_method_15_code 178 = .ok (.iload 6, 2) := by decide +kernel
theorem d9_180 : decode prog_29_method_15_code 180 = .ok (.laload, 1) := by decide +kernel
theorem d9_181 : decode prog_29_method_15_code 181 = .ok (.lcmp, 1) := by decide +kernel
theorem d9_182 : decode prog_29_method_15_code 182 = .ok (.ifCond .ne 9, 3) := by decide +kernel
theorem d9_185 : decode prog_29_method_15_code 185 = .ok (.iinc 10 1, 3) := by decide +kernel
theorem d9_188 : decode prog_29_method_15_code 188 = .ok (.goto (-23), 3) := by decide +kernel
theorem d9_191 : decode prog_29_method_15_code 191 = .ok (.iload 7, 2) := by decide +kernel
theorem d9_193 : decode prog_29_method_15_code 193 = .ok (.istore 11, 2) := by decide +kernel
theorem d9_195 : decode prog_29_method_15_code 195 = .ok (.aload_n 0, 1) := by decide +kernel
theorem d9_196 : decode prog_29_method_15_code 196 = .ok (.getfield 24, 3) := by decide +kernel
theorem d9_199 : decode prog_29_method_15_code 199 = .ok (.iload 11, 2) := by decide +kernel
theorem d9_201 : decode prog_29_method_15_code 201 = .ok (.iconst 1, 1) := by decide +kernel
theorem d9_202 : decode prog_29_method_15_code 202 = .ok (.isub, 1) := by decide +kernel
theorem d9_203 : decode prog_29_method_15_code 203 = .ok (.laload, 1) := by decide +kernel
theorem d9_204 : decode prog_29_method_15_code 204 = .ok (.aload_n 0, 1) := by decide +kernel
theorem d9_205 : decode prog_29_method_15_code 205 = .ok (.getfield 24, 3) := by decide +kernel
theorem d9_208 : decode prog_29_method_15_code 208 = .ok (.iload 7, 2) := by decide +kernel
theorem d9_210 : decode prog_29_method_15_code 210 = .ok (.laload, 1) := by decide +kernel
theorem d9_211 : decode prog_29_method_15_code 211 = .ok (.lcmp, 1) := by decide +kernel
theorem d9_212 : decode prog_29_method_15_code 212 = .ok (.ifCond .ne 9, 3) := by decide +kernel
theorem d9_215 : decode prog_29_method_15_code 215 = .ok (.iinc 11 (-1), 3) := by decide +kernel
theorem d9_218 : decode prog_29_method_15_code 218 = .ok (.goto (-23), 3) := by decide +kernel
theorem d9_221 : decode prog_29_method_15_code 221 = .ok (.iload 6, 2) := by decide +kernel
theorem d9_223 : decode prog_29_method_15_code 223 = .ok (.istore 12, 2) := by decide +kernel
theorem d9_225 : decode prog_29_method_15_code 225 = .ok (.iload 5, 2) := by decide +kernel
theorem d9_227 : decode prog_29_method_15_code 227 = .ok (.ifCond .eq 49, 3) := by decide +kernel
theorem d9_230 : decode prog_29_method_15_code 230 = .ok (.iload 12, 2) := by decide +kernel
theorem d9_232 : decode prog_29_method_15_code 232 = .ok (.iload 10, 2) := by decide +kernel
theorem d9_234 : decode prog_29_method_15_code 234 = .ok (.if_icmp .gt 42, 3) := by decide +kernel
theorem d9_237 : decode prog_29_method_15_code 237 = .ok (.iload 11, 2) := by decide +kernel
theorem d9_239 : decode prog_29_method_15_code 239 = .ok (.istore 13, 2) := by decide +kernel
theorem d9_241 : decode prog_29_method_15_code 241 = .ok (.iload 5, 2) := by decide +kernel
theorem d9_243 : decode prog_29_method_15_code 243 = .ok (.ifCond .eq 27, 3) := by decide +kernel
theorem d9_246 : decode prog_29_method_15_code 246 = .ok (.iload 13, 2) := by decide +kernel
theorem d9_248 : decode prog_29_method_15_code 248 = .ok (.iload 7, 2) := by decide +kernel
theorem d9_250 : decode prog_29_method_15_code 250 = .ok (.if_icmp .gt 20, 3) := by decide +kernel
theorem d9_253 : decode prog_29_method_15_code 253 = .ok (.aload_n 0, 1) := by decide +kernel
theorem d9_254 : decode prog_29_method_15_code 254 = .ok (.aload_n 1, 1) := by decide +kernel
theorem d9_255 : decode prog_29_method_15_code 255 = .ok (.iload 12, 2) := by decide +kernel
theorem d9_257 : decode prog_29_method_15_code 257 = .ok (.iload 13, 2) := by decide +kernel
theorem d9_259 : decode prog_29_method_15_code 259 = .ok (.invokevirtual 99, 3) := by decide +kernel
theorem d9_262 : decode prog_29_method_15_code 262 = .ok (.istore 5, 2) := by decide +kernel
theorem d9_264 : decode prog_29_method_15_code 264 = .ok (.iinc 13 1, 3) := by decide +kernel
theorem d9_267 : decode prog_29_method_15_code 267 = .ok (.goto (-26), 3) := by decide +kernel
theorem d9_270 : decode prog_29_method_15_code 270 = .ok (.iinc 12 1, 3) := by decide +kernel
theorem d9_273 : decode prog_29_method_15_code 273 = .ok (.goto (-48), 3) := by decide +kernel
theorem d9_276 : decode prog_29_method_15_code 276 = .ok (.iload 10, 2) := by decide +kernel
theorem d9_278 : decode prog_29_method_15_code 278 = .ok (.iconst 1, 1) := by decide +kernel
theorem d9_279 : decode prog_29_method_15_code 279 = .ok (.iadd, 1) := by decide +kernel
theorem d9_280 : decode prog_29_method_15_code 280 = .ok (.istore 6, 2) := by decide +kernel
theorem d9_282 : decode prog_29_method_15_code 282 = .ok (.iload 11, 2) := by decide +kernel
theorem d9_284 : decode prog_29_method_15_code 284 = .ok (.iconst 1, 1) := by decide +kernel
theorem d9_285 : decode prog_29_method_15_code 285 = .ok (.isub, 1) := by decide +kernel
theorem d9_286 : decode prog_29_method_15_code 286 = .ok (.istore 7, 2) := by decide +kernel
theorem d9_288 : decode prog_29_method_15_code 288 = .ok (.goto (-274), 3) := by decide +kernel
theorem d9_291 : decode prog_29_method_15_code 291 = .ok (.iload 5, 2) := by decide +kernel
theorem d9_293 : decode prog_29_method_15_code 293 = .ok (.ireturn, 1) := by decide +kernel
theorem pn_9 : plainFor (⟨"com/example/cangdan/cangdan/fewest/SmallGroups", "pairs", "([IIJ)Z"⟩ : MethodName) = true := plainFor_of_name (by first | (simp [plainName, overriddenIn]; done) | decide +kernel)
set_option maxRecDepth 65536 in
set_option maxHeartbeats 40000000 in
theorem rm9_t (l : Launch) (Z : State) (a0 : Array Value) (hw : ∀ d ∈ tables_1, d.before a0 Z = true) (n0 : Nat) (t sa ba me ki am hd : Addr) (x0 x1 x2 x3 : Int64) (mo ct : Int32) (ls : Int64) (ms ks : List Value) (c M : Nat) (hv : List Value) (fr : Int32) (sm : Int64) (hfr : ¬ fr < 3) :
    Con l (⟨"com/example/cangdan/cangdan/fewest/SmallGroups", "pairs", "([IIJ)Z"⟩ : MethodName) prog_29_method_15_code 14 (some .boolean) ({ frames := 0, cells := 0, slots := 0, locals := 0 } : Room) Z n0 #[(.ref t), (.ref hd), (.int fr), (.long sm)] ([(t, O_SmallGroups (.ref me) (.ref ki) (.int (4 : Int32)) (.ref ba) (.ref am) (.int mo) (.int (0 : Int32)) .null .null (.int ct) .null .null (.long ls)), (sa, .inr (.long, [(.long x0), (.long x1), (.long x2), (.long x3)])), (ba, .inr (.int, [(.int (0 : Int32)), (.int (1 : Int32)), (.int (2 : Int32)), (.int (3 : Int32))])), (me, .inr (.int, ms)), (ki, .inr (.byte, ks)), (am, .inr (.long, [(.long x0), (.long x1), (.long x2), (.long x3)])), (hd, .inr (.int, hv))]) (fun v L' => v = some (.int 1) ∧ L' = [(t, O_SmallGroups (.ref me) (.ref ki) (.int (4 : Int32)) (.ref ba) (.ref am) (.int mo) (.int (0 : Int32)) .null .null (.int ct) .null .null (.long ls)), (sa, .inr (.long, [(.long x0), (.long x1), (.long x2), (.long x3)])), (ba, .inr (.int, [(.int (0 : Int32)), (.int (1 : Int32)), (.int (2 : Int32)), (.int (3 : Int32))])), (me, .inr (.int, ms)), (ki, .inr (.byte, ks)), (am, .inr (.long, [(.long x0), (.long x1), (.long x2), (.long x3)]))]) := by
  refine Con.of (ws := tables_1) (a0 := a0) pn_9 hw ?_
  intro p e s m below meth cde T kb w
  refine g_entry #[.val (.ref t), .val (.ref hd), .val (.int fr), .val (.long sm), .second, .unset, .unset, .unset, .unset, .unset, .unset, .unset, .unset, .unset] (by first | (simp [entryFrame, mkF, argsToLocals, Value.category]; done) | rfl) ?_
  refine g_iconst w d9_0 (1 : Int32) rfl 1 rfl ?_
  refine g_istore w d9_1 3 rfl rfl #[.val (.ref t), .val (.ref hd), .val (.int fr), .val (.long sm), .second, .val (.int (1 : Int32)), .unset, .unset, .unset, .unset, .unset, .unset, .unset, .unset] rfl ?_
  refine g_iloadN w d9_3 rfl 4 rfl ?_
  refine g_istore w d9_4 6 rfl rfl #[.val (.ref t), .val (.ref hd), .val (.int fr), .val (.long sm), .second, .val (.int (1 : Int32)), .val (.int fr), .unset, .unset, .unset, .unset, .unset, .unset, .unset] rfl ?_
  refine g_aloadN w d9_6 rfl rfl 7 rfl ?_
  refine g_getf w d9_7 0 rfl 2 rfl 24 rfl Via.refl 10 rfl (fun T w => ?_)
  refine g_iconst w d9_10 (1 : Int32) rfl 11 rfl ?_
  refine g_isub w d9_11 12 rfl ?_
  refine g_int (x' := (3 : Int32)) (by decide) ?_
  refine g_istore w d9_12 14 rfl rfl #[.val (.ref t), .val (.ref hd), .val (.int fr), .val (.long sm), .second, .val (.int (1 : Int32)), .val (.int fr), .val (.int (3 : Int32)), .unset, .unset, .unset, .unset, .unset, .unset] rfl ?_
  refine g_iload w d9_14 rfl 16 rfl ?_
  refine g_if_eq w d9_16 291 (by decide) (by decide) 19 rfl (fun h => absurd h (by decide)) (fun hc16 => ?_)
  refine g_iload w d9_19 rfl 21 rfl ?_
  refine g_iload w d9_21 rfl 23 rfl ?_
  refine g_icmp_ge w d9_23 291 (by decide) (by decide) 26 rfl (fun hc23 => ?_) (fun h => absurd h hfr)
  refine g_iload w d9_291 rfl 293 rfl ?_
  replace w := w.cut (L' := [(t, O_SmallGroups (.ref me) (.ref ki) (.int (4 : Int32)) (.ref ba) (.ref am) (.int mo) (.int (0 : Int32)) .null .null (.int ct) .null .null (.long ls)), (sa, .inr (.long, [(.long x0), (.long x1), (.long x2), (.long x3)])), (ba, .inr (.int, [(.int (0 : Int32)), (.int (1 : Int32)), (.int (2 : Int32)), (.int (3 : Int32))])), (me, .inr (.int, ms)), (ki, .inr (.byte, ks)), (am, .inr (.long, [(.long x0), (.long x1), (.long x2), (.long x3)]))]) (R' := [(hd, .inr (.int, hv))]) rfl
  exact g_iretn w (by simp) d9_293 (by decide) (by decide) ⟨rfl, rfl⟩
theorem pd_1 : parseMethodDescriptor "([III)Z" = some ⟨[(.array .int), .int, .int], some .boolean⟩ := by decide +kernel
set_option maxRecDepth 65536 in
set_option maxHeartbeats 40000000 in
theorem rm9_0 (l : Launch) (Z : State) (a0 : Array Value) (hw : ∀ d ∈ tables_1, d.before a0 Z = true) (n0 : Nat) (t sa ba me ki am hd : Addr) (x0 x1 x2 x3 : Int64) (mo ct : Int32) (ls : Int64) (ms ks : List Value) (c M : Nat) (sm : Int64) (hmo : mo.toInt = (M : Int)) (hM : M ≤ 7) (hct : ct.toInt = (c : Int)) (hcM : c ≤ M) (hG : own_G c ms ks) (hA : own_A x0 x1 x2 x3) (hsm : sm.toInt = -x0.toInt) :
    Con l (⟨"com/example/cangdan/cangdan/fewest/SmallGroups", "pairs", "([IIJ)Z"⟩ : MethodName) prog_29_method_15_code 14 (some .boolean) ({ frames := 2, cells := 0, slots := 0, locals := 36 } : Room) Z n0 #[(.ref t), (.ref hd), (.int (1 : Int32)), (.long sm)] ([(t, O_SmallGroups (.ref me) (.ref ki) (.int (4 : Int32)) (.ref ba) (.ref am) (.int mo) (.int (0 : Int32)) .null .null (.int ct) .null .null (.long ls)), (sa, .inr (.long, [(.long x0), (.long x1), (.long x2), (.long x3)])), (ba, .inr (.int, [(.int (0 : Int32)), (.int (1 : Int32)), (.int (2 : Int32)), (.int (3 : Int32))])), (me, .inr (.int, ms)), (ki, .inr (.byte, ks)), (am, .inr (.long, [(.long x0), (.long x1), (.long x2), (.long x3)])), (hd, .inr (.int, [(.int (0 : Int32))]))]) (fun v L' => ∃ (rr ct' : Int32) (c' : Nat) (ms' ks' : List Value) (ls' : Int64), v = some (.int rr) ∧ ct'.toInt = (c' : Int) ∧ own_G c' ms' ks' ∧ c ≤ c' ∧ c' ≤ M ∧ L' = [(t, O_SmallGroups (.ref me) (.ref ki) (.int (4 : Int32)) (.ref ba) (.ref am) (.int mo) (.int (0 : Int32)) .null .null (.int ct') .null .null (.long ls')), (sa, .inr (.long, [(.long x0), (.long x1), (.long x2), (.long x3)])), (ba, .inr (.int, [(.int (0 : Int32)), (.int (1 : Int32)), (.int (2 : Int32)), (.int (3 : Int32))])), (me, .inr (.int, ms')), (ki, .inr (.byte, ks')), (am, .inr (.long, [(.long x0), (.long x1), (.long x2), (.long x3)]))] ∧ ((rr = 1 ∧ c' = c + (own_zn (x0.toInt + x1.toInt + x2.toInt) + own_zn (x0.toInt + x1.toInt + x3.toInt) + own_zn (x0.toInt + x2.toInt + x3.toInt))) ∨ (rr = 0 ∧ M < c + (own_zn (x0.toInt + x1.toInt + x2.toInt) + own_zn (x0.toInt + x1.toInt + x3.toInt) + own_zn (x0.toInt + x2.toInt + x3.toInt))))) := by
  refine Con.of (ws := tables_1) (a0 := a0) pn_9 hw ?_
  intro p e s m below meth cde T kb w
  refine g_entry #[.val (.ref t), .val (.ref hd), .val (.int (1 : Int32)), .val (.long sm), .second, .unset, .unset, .unset, .unset, .unset, .unset, .unset, .unset, .unset] (by first | (simp [entryFrame, mkF, argsToLocals, Value.category]; done) | rfl) ?_
  obtain ⟨A0, A1, A2, A3, A4, N0, N1, N2, N3⟩ := id hA
  have e0 := own_zn_c (x0.toInt + x1.toInt + x2.toInt)
  have e1 := own_zn_c (x0.toInt + x1.toInt + x3.toInt)
  have e2 := own_zn_c (x0.toInt + x2.toInt + x3.toInt)
  refine g_iconst w d9_0 (1 : Int32) rfl 1 rfl ?_
  refine g_istore w d9_1 3 rfl rfl #[.val (.ref t), .val (.ref hd), .val (.int (1 : Int32)), .val (.long sm), .second, .val (.int (1 : Int32)), .unset, .unset, .unset, .unset, .unset, .unset, .unset, .unset] rfl ?_
  refine g_iloadN w d9_3 rfl 4 rfl ?_
  refine g_istore w d9_4 6 rfl rfl #[.val (.ref t), .val (.ref hd), .val (.int (1 : Int32)), .val (.long sm), .second, .val (.int (1 : Int32)), .val (.int (1 : Int32)), .unset, .unset, .unset, .unset, .unset, .unset, .unset] rfl ?_
  refine g_aloadN w d9_6 rfl rfl 7 rfl ?_
  refine g_getf w d9_7 0 rfl 2 rfl 24 rfl Via.refl 10 rfl (fun T w => ?_)
  refine g_iconst w d9_10 (1 : Int32) rfl 11 rfl ?_
  refine g_isub w d9_11 12 rfl ?_
  refine g_int (x' := (3 : Int32)) (by decide) ?_
  refine g_istore w d9_12 14 rfl rfl #[.val (.ref t), .val (.ref hd), .val (.int (1 : Int32)), .val (.long sm), .second, .val (.int (1 : Int32)), .val (.int (1 : Int32)), .val (.int (3 : Int32)), .unset, .unset, .unset, .unset, .unset, .unset] rfl ?_
  refine g_iload w d9_14 rfl 16 rfl ?_
  refine g_if_eq w d9_16 291 (by decide) (by decide) 19 rfl (fun h => absurd h (by decide)) (fun hc16 => ?_)
  refine g_iload w d9_19 rfl 21 rfl ?_
  refine g_iload w d9_21 rfl 23 rfl ?_
  refine g_icmp_ge w d9_23 291 (by decide) (by decide) 26 rfl (fun h => absurd (by decide) h) (fun hc23 => ?_)
  refine g_aloadN w d9_26 rfl rfl 27 rfl ?_
  refine g_dup w d9_27 rfl 28 rfl ?_
  refine g_getf w d9_28 0 rfl 12 rfl 57 rfl Via.refl 31 rfl (fun T w => ?_)
  refine g_lconst w d9_31 (1 : Int64) rfl 32 rfl ?_
  refine g_ladd w d9_32 33 rfl ?_
  obtain ⟨v1, hv1⟩ : ∃ own_z, own_z = ((ls + (1 : Int64)) : Int64) := ⟨_, rfl⟩
  refine g_long hv1.symm ?_
  refine g_putf w d9_33 0 rfl 12 rfl 57 rfl Via.refl 58 (Or.inl rfl) 9 rfl (ty := .long) (by decide) rfl rfl 36 rfl (fun T w => ?_)
  replace w := w.to (L' := [(t, O_SmallGroups (.ref me) (.ref ki) (.int (4 : Int32)) (.ref ba) (.ref am) (.int mo) (.int (0 : Int32)) .null .null (.int ct) .null .null (.long v1)), (sa, .inr (.long, [(.long x0), (.long x1), (.long x2), (.long x3)])), (ba, .inr (.int, [(.int (0 : Int32)), (.int (1 : Int32)), (.int (2 : Int32)), (.int (3 : Int32))])), (me, .inr (.int, ms)), (ki, .inr (.byte, ks)), (am, .inr (.long, [(.long x0), (.long x1), (.long x2), (.long x3)])), (hd, .inr (.int, [(.int (0 : Int32))]))]) rfl
  refine g_aloadN w d9_36 rfl rfl 37 rfl ?_
  refine g_getf w d9_37 0 rfl 4 rfl 28 rfl Via.refl 40 rfl (fun T w => ?_)
  refine g_iload w d9_40 rfl 42 rfl ?_
  refine g_laload w d9_42 5 rfl 1 (by decide) rfl 43 rfl ?_
  refine g_aloadN w d9_43 rfl rfl 44 rfl ?_
  refine g_getf w d9_44 0 rfl 4 rfl 28 rfl Via.refl 47 rfl (fun T w => ?_)
  refine g_iload w d9_47 rfl 49 rfl ?_
  refine g_laload w d9_49 5 rfl 3 (by decide) rfl 50 rfl ?_
  refine g_ladd w d9_50 51 rfl ?_
  obtain ⟨v2, hv2⟩ : ∃ own_z, own_z = ((x1 + x3) : Int64) := ⟨_, rfl⟩
  refine g_lstore w d9_51 53 rfl hv2.symm #[.val (.ref t), .val (.ref hd), .val (.int (1 : Int32)), .val (.long sm), .second, .val (.int (1 : Int32)), .val (.int (1 : Int32)), .val (.int (3 : Int32)), .val (.long v2), .second, .unset, .unset, .unset, .unset] rfl ?_
  have hp_v2 : v2.toInt = x1.toInt + x3.toInt := by rw [hv2]; exact own_ladd rfl rfl (by omega) (by omega) (by omega) (by omega)
  refine g_lload w d9_53 rfl 55 rfl ?_
  refine g_lloadN w d9_55 rfl 56 rfl ?_
  refine g_lcmp w d9_56 57 rfl ?_
  refine g_lif_ge w d9_57 66 (by decide) (by decide) 60 rfl (fun hc57 => ?_) (fun hc57 => ?_)
  · -- pc 66 (taken: not v2 < sm)
    have q3 := mt (own_ltL hp_v2 hsm).mpr hc57
    refine g_lload w d9_66 rfl 68 rfl ?_
    refine g_lloadN w d9_68 rfl 69 rfl ?_
    refine g_lcmp w d9_69 70 rfl ?_
    refine g_lif_le w d9_70 79 (by decide) (by decide) 73 rfl (fun hc70 => ?_) (fun hc70 => ?_)
    · -- pc 79 (taken: not sm < v2)
      have q4 := mt (own_ltL hsm hp_v2).mpr hc70
      refine g_aloadN w d9_79 rfl rfl 80 rfl ?_
      refine g_getf w d9_80 0 rfl 4 rfl 28 rfl Via.refl 83 rfl (fun T w => ?_)
      refine g_iload w d9_83 rfl 85 rfl ?_
      refine g_laload w d9_85 5 rfl 1 (by decide) rfl 86 rfl ?_
      refine g_aloadN w d9_86 rfl rfl 87 rfl ?_
      refine g_getf w d9_87 0 rfl 4 rfl 28 rfl Via.refl 90 rfl (fun T w => ?_)
      refine g_iload w d9_90 rfl 92 rfl ?_
      refine g_laload w d9_92 5 rfl 3 (by decide) rfl 93 rfl ?_
      refine g_lcmp w d9_93 94 rfl ?_
      refine g_lif_ne w d9_94 161 (by decide) (by decide) 97 rfl (fun hc94 => ?_) (fun hc94 => ?_)
      · -- pc 161 (taken: not x1 = x3)
        have q5 := mt Int64.toInt_inj.mp hc94
        refine g_iload w d9_161 rfl 163 rfl ?_
        refine g_istore w d9_163 165 rfl rfl #[.val (.ref t), .val (.ref hd), .val (.int (1 : Int32)), .val (.long sm), .second, .val (.int (1 : Int32)), .val (.int (1 : Int32)), .val (.int (3 : Int32)), .val (.long v2), .second, .val (.int (1 : Int32)), .unset, .unset, .unset] rfl ?_
        refine g_aloadN w d9_165 rfl rfl 166 rfl ?_
        refine g_getf w d9_166 0 rfl 4 rfl 28 rfl Via.refl 169 rfl (fun T w => ?_)
        refine g_iload w d9_169 rfl 171 rfl ?_
        refine g_iconst w d9_171 (1 : Int32) rfl 172 rfl ?_
        refine g_iadd w d9_172 173 rfl ?_
        refine g_int (x' := (2 : Int32)) (by decide) ?_
        refine g_laload w d9_173 5 rfl 2 (by decide) rfl 174 rfl ?_
        refine g_aloadN w d9_174 rfl rfl 175 rfl ?_
        refine g_getf w d9_175 0 rfl 4 rfl 28 rfl Via.refl 178 rfl (fun T w => ?_)
        refine g_iload w d9_178 rfl 180 rfl ?_
        refine g_laload w d9_180 5 rfl 1 (by decide) rfl 181 rfl ?_
        refine g_lcmp w d9_181 182 rfl ?_
        refine g_lif_ne w d9_182 191 (by decide) (by decide) 185 rfl (fun hc182 => ?_) (fun hc182 => ?_)
        · -- pc 191 (taken: not x2 = x1)
          have q6 := mt Int64.toInt_inj.mp hc182
          refine g_iload w d9_191 rfl 193 rfl ?_
          refine g_istore w d9_193 195 rfl rfl #[.val (.ref t), .val (.ref hd), .val (.int (1 : Int32)), .val (.long sm), .second, .val (.int (1 : Int32)), .val (.int (1 : Int32)), .val (.int (3 : Int32)), .val (.long v2), .second, .val (.int (1 : Int32)), .val (.int (3 : Int32)), .unset, .unset] rfl ?_
          refine g_aloadN w d9_195 rfl rfl 196 rfl ?_
          refine g_getf w d9_196 0 rfl 4 rfl 28 rfl Via.refl 199 rfl (fun T w => ?_)
          refine g_iload w d9_199 rfl 201 rfl ?_
          refine g_iconst w d9_201 (1 : Int32) rfl 202 rfl ?_
          refine g_isub w d9_202 203 rfl ?_
          refine g_int (x' := (2 : Int32)) (by decide) ?_
          refine g_laload w d9_203 5 rfl 2 (by decide) rfl 204 rfl ?_
          refine g_aloadN w d9_204 rfl rfl 205 rfl ?_
          refine g_getf w d9_205 0 rfl 4 rfl 28 rfl Via.refl 208 rfl (fun T w => ?_)
          refine g_iload w d9_208 rfl 210 rfl ?_
          refine g_laload w d9_210 5 rfl 3 (by decide) rfl 211 rfl ?_
          refine g_lcmp w d9_211 212 rfl ?_
          refine g_lif_ne w d9_212 221 (by decide) (by decide) 215 rfl (fun hc212 => ?_) (fun hc212 => ?_)
          · -- pc 221 (taken: not x2 = x3)
            have q7 := mt Int64.toInt_inj.mp hc212
            refine g_iload w d9_221 rfl 223 rfl ?_
            refine g_istore w d9_223 225 rfl rfl #[.val (.ref t), .val (.ref hd), .val (.int (1 : Int32)), .val (.long sm), .second, .val (.int (1 : Int32)), .val (.int (1 : Int32)), .val (.int (3 : Int32)), .val (.long v2), .second, .val (.int (1 : Int32)), .val (.int (3 : Int32)), .val (.int (1 : Int32)), .unset] rfl ?_
            refine g_iload w d9_225 rfl 227 rfl ?_
            refine g_if_eq w d9_227 276 (by decide) (by decide) 230 rfl (fun h => absurd h (by decide)) (fun hc227 => ?_)
            refine g_iload w d9_230 rfl 232 rfl ?_
            refine g_iload w d9_232 rfl 234 rfl ?_
            refine g_icmp_gt w d9_234 276 (by decide) (by decide) 237 rfl (fun h => absurd h (by decide)) (fun hc234 => ?_)
            refine g_iload w d9_237 rfl 239 rfl ?_
            refine g_istore w d9_239 241 rfl rfl #[.val (.ref t), .val (.ref hd), .val (.int (1 : Int32)), .val (.long sm), .second, .val (.int (1 : Int32)), .val (.int (1 : Int32)), .val (.int (3 : Int32)), .val (.long v2), .second, .val (.int (1 : Int32)), .val (.int (3 : Int32)), .val (.int (1 : Int32)), .val (.int (3 : Int32))] rfl ?_
            refine g_iload w d9_241 rfl 243 rfl ?_
            refine g_if_eq w d9_243 270 (by decide) (by decide) 246 rfl (fun h => absurd h (by decide)) (fun hc243 => ?_)
            refine g_iload w d9_246 rfl 248 rfl ?_
            refine g_iload w d9_248 rfl 250 rfl ?_
            refine g_icmp_gt w d9_250 270 (by decide) (by decide) 253 rfl (fun h => absurd h (by decide)) (fun hc250 => ?_)
            refine g_aloadN w d9_253 rfl rfl 254 rfl ?_
            refine g_aloadN w d9_254 rfl rfl 255 rfl ?_
            refine g_iload w d9_255 rfl 257 rfl ?_
            refine g_iload w d9_257 rfl 259 rfl ?_
            refine g_priv w (argsL := [(.ref hd), (.int (1 : Int32)), (.int (3 : Int32))]) (rest := []) (rm11_1 l Z a0 hw n0 t sa ba me ki am hd x0 x1 x2 x3 mo ct v1 ms ks c M 0 1 3 0 1 3 x0 x1 x3 hmo hM hct (by omega) hG rfl (by decide) rfl rfl N0 rfl (by decide) rfl rfl N1 rfl (by decide) rfl rfl N3 (by omega)) d9_259 0 rfl 77 rfl 78 rfl 10 rfl 80 rfl 79 rfl 9 rfl ⟨by decide, by decide⟩ pd_1 rfl rfl rfl 0 rfl (by decide) (by decide) (by decide) (by decide) 262 rfl (fun T v L w h => ?_)
            obtain ⟨rr, ct_u8, c_u8, ms_u8, ks_u8, rfl, hct_u8, hG_u8, hL, hor⟩ := h
            replace w := w.to hL
            rcases hor with ⟨rfl, hk_u8, hm_u8⟩ | ⟨rfl, hk_u8, hm_u8⟩
            · -- pc 262 room 1
              refine g_istore w d9_262 264 rfl rfl #[.val (.ref t), .val (.ref hd), .val (.int (1 : Int32)), .val (.long sm), .second, .val (.int (1 : Int32)), .val (.int (1 : Int32)), .val (.int (3 : Int32)), .val (.long v2), .second, .val (.int (1 : Int32)), .val (.int (3 : Int32)), .val (.int (1 : Int32)), .val (.int (3 : Int32))] rfl ?_
              refine g_iinc w d9_264 267 rfl rfl (by decide) #[.val (.ref t), .val (.ref hd), .val (.int (1 : Int32)), .val (.long sm), .second, .val (.int (1 : Int32)), .val (.int (1 : Int32)), .val (.int (3 : Int32)), .val (.long v2), .second, .val (.int (1 : Int32)), .val (.int (3 : Int32)), .val (.int (1 : Int32)), .val (.int (4 : Int32))] rfl ?_
              refine g_goto w d9_267 241 (by decide) (by decide) ?_
              refine g_iload w d9_241 rfl 243 rfl ?_
              refine g_if_eq w d9_243 270 (by decide) (by decide) 246 rfl (fun h => absurd h (by decide)) (fun hc243 => ?_)
              refine g_iload w d9_246 rfl 248 rfl ?_
              refine g_iload w d9_248 rfl 250 rfl ?_
              refine g_icmp_gt w d9_250 270 (by decide) (by decide) 253 rfl (fun hc250 => ?_) (fun h => absurd (by decide) h)
              refine g_iinc w d9_270 273 rfl rfl (by decide) #[.val (.ref t), .val (.ref hd), .val (.int (1 : Int32)), .val (.long sm), .second, .val (.int (1 : Int32)), .val (.int (1 : Int32)), .val (.int (3 : Int32)), .val (.long v2), .second, .val (.int (1 : Int32)), .val (.int (3 : Int32)), .val (.int (2 : Int32)), .val (.int (4 : Int32))] rfl ?_
              refine g_goto w d9_273 225 (by decide) (by decide) ?_
              refine g_iload w d9_225 rfl 227 rfl ?_
              refine g_if_eq w d9_227 276 (by decide) (by decide) 230 rfl (fun h => absurd h (by decide)) (fun hc227 => ?_)
              refine g_iload w d9_230 rfl 232 rfl ?_
              refine g_iload w d9_232 rfl 234 rfl ?_
              refine g_icmp_gt w d9_234 276 (by decide) (by decide) 237 rfl (fun hc234 => ?_) (fun h => absurd (by decide) h)
              refine g_iload w d9_276 rfl 278 rfl ?_
              refine g_iconst w d9_278 (1 : Int32) rfl 279 rfl ?_
              refine g_iadd w d9_279 280 rfl ?_
              refine g_int (x' := (2 : Int32)) (by decide) ?_
              refine g_istore w d9_280 282 rfl rfl #[.val (.ref t), .val (.ref hd), .val (.int (1 : Int32)), .val (.long sm), .second, .val (.int (1 : Int32)), .val (.int (2 : Int32)), .val (.int (3 : Int32)), .val (.long v2), .second, .val (.int (1 : Int32)), .val (.int (3 : Int32)), .val (.int (2 : Int32)), .val (.int (4 : Int32))] rfl ?_
              refine g_iload w d9_282 rfl 284 rfl ?_
              refine g_iconst w d9_284 (1 : Int32) rfl 285 rfl ?_
              refine g_isub w d9_285 286 rfl ?_
              refine g_int (x' := (2 : Int32)) (by decide) ?_
              refine g_istore w d9_286 288 rfl rfl #[.val (.ref t), .val (.ref hd), .val (.int (1 : Int32)), .val (.long sm), .second, .val (.int (1 : Int32)), .val (.int (2 : Int32)), .val (.int (2 : Int32)), .val (.long v2), .second, .val (.int (1 : Int32)), .val (.int (3 : Int32)), .val (.int (2 : Int32)), .val (.int (4 : Int32))] rfl ?_
              refine g_goto w d9_288 14 (by decide) (by decide) ?_
              refine g_iload w d9_14 rfl 16 rfl ?_
              refine g_if_eq w d9_16 291 (by decide) (by decide) 19 rfl (fun h => absurd h (by decide)) (fun hc16 => ?_)
              refine g_iload w d9_19 rfl 21 rfl ?_
              refine g_iload w d9_21 rfl 23 rfl ?_
              refine g_icmp_ge w d9_23 291 (by decide) (by decide) 26 rfl (fun hc23 => ?_) (fun h => absurd h (by decide))
              refine g_iload w d9_291 rfl 293 rfl ?_
              replace w := w.cut (L' := [(t, O_SmallGroups (.ref me) (.ref ki) (.int (4 : Int32)) (.ref ba) (.ref am) (.int mo) (.int (0 : Int32)) .null .null (.int ct_u8) .null .null (.long v1)), (sa, .inr (.long, [(.long x0), (.long x1), (.long x2), (.long x3)])), (ba, .inr (.int, [(.int (0 : Int32)), (.int (1 : Int32)), (.int (2 : Int32)), (.int (3 : Int32))])), (me, .inr (.int, ms_u8)), (ki, .inr (.byte, ks_u8)), (am, .inr (.long, [(.long x0), (.long x1), (.long x2), (.long x3)]))]) (R' := [(hd, .inr (.int, [(.int (0 : Int32))]))]) rfl
              exact g_iretn w (by simp) d9_293 (by decide) (by decide) ⟨1, ct_u8, c_u8, ms_u8, ks_u8, v1, rfl, hct_u8, hG_u8, by omega, by omega, rfl, Or.inl ⟨rfl, by omega⟩⟩
            · -- pc 262 room 0
              refine g_istore w d9_262 264 rfl rfl #[.val (.ref t), .val (.ref hd), .val (.int (1 : Int32)), .val (.long sm), .second, .val (.int (0 : Int32)), .val (.int (1 : Int32)), .val (.int (3 : Int32)), .val (.long v2), .second, .val (.int (1 : Int32)), .val (.int (3 : Int32)), .val (.int (1 : Int32)), .val (.int (3 : Int32))] rfl ?_
              refine g_iinc w d9_264 267 rfl rfl (by decide) #[.val (.ref t), .val (.ref hd), .val (.int (1 : Int32)), .val (.long sm), .second, .val (.int (0 : Int32)), .val (.int (1 : Int32)), .val (.int (3 : Int32)), .val (.long v2), .second, .val (.int (1 : Int32)), .val (.int (3 : Int32)), .val (.int (1 : Int32)), .val (.int (4 : Int32))] rfl ?_
              refine g_goto w d9_267 241 (by decide) (by decide) ?_
              refine g_iload w d9_241 rfl 243 rfl ?_
              refine g_if_eq w d9_243 270 (by decide) (by decide) 246 rfl (fun hc243 => ?_) (fun h => absurd (by decide) h)
              refine g_iinc w d9_270 273 rfl rfl (by decide) #[.val (.ref t), .val (.ref hd), .val (.int (1 : Int32)), .val (.long sm), .second, .val (.int (0 : Int32)), .val (.int (1 : Int32)), .val (.int (3 : Int32)), .val (.long v2), .second, .val (.int (1 : Int32)), .val (.int (3 : Int32)), .val (.int (2 : Int32)), .val (.int (4 : Int32))] rfl ?_
              refine g_goto w d9_273 225 (by decide) (by decide) ?_
              refine g_iload w d9_225 rfl 227 rfl ?_
              refine g_if_eq w d9_227 276 (by decide) (by decide) 230 rfl (fun hc227 => ?_) (fun h => absurd (by decide) h)
              refine g_iload w d9_276 rfl 278 rfl ?_
              refine g_iconst w d9_278 (1 : Int32) rfl 279 rfl ?_
              refine g_iadd w d9_279 280 rfl ?_
              refine g_int (x' := (2 : Int32)) (by decide) ?_
              refine g_istore w d9_280 282 rfl rfl #[.val (.ref t), .val (.ref hd), .val (.int (1 : Int32)), .val (.long sm), .second, .val (.int (0 : Int32)), .val (.int (2 : Int32)), .val (.int (3 : Int32)), .val (.long v2), .second, .val (.int (1 : Int32)), .val (.int (3 : Int32)), .val (.int (2 : Int32)), .val (.int (4 : Int32))] rfl ?_
              refine g_iload w d9_282 rfl 284 rfl ?_
              refine g_iconst w d9_284 (1 : Int32) rfl 285 rfl ?_
              refine g_isub w d9_285 286 rfl ?_
              refine g_int (x' := (2 : Int32)) (by decide) ?_
              refine g_istore w d9_286 288 rfl rfl #[.val (.ref t), .val (.ref hd), .val (.int (1 : Int32)), .val (.long sm), .second, .val (.int (0 : Int32)), .val (.int (2 : Int32)), .val (.int (2 : Int32)), .val (.long v2), .second, .val (.int (1 : Int32)), .val (.int (3 : Int32)), .val (.int (2 : Int32)), .val (.int (4 : Int32))] rfl ?_
              refine g_goto w d9_288 14 (by decide) (by decide) ?_
              refine g_iload w d9_14 rfl 16 rfl ?_
              refine g_if_eq w d9_16 291 (by decide) (by decide) 19 rfl (fun hc16 => ?_) (fun h => absurd (by decide) h)
              refine g_iload w d9_291 rfl 293 rfl ?_
              replace w := w.cut (L' := [(t, O_SmallGroups (.ref me) (.ref ki) (.int (4 : Int32)) (.ref ba) (.ref am) (.int mo) (.int (0 : Int32)) .null .null (.int ct_u8) .null .null (.long v1)), (sa, .inr (.long, [(.long x0), (.long x1), (.long x2), (.long x3)])), (ba, .inr (.int, [(.int (0 : Int32)), (.int (1 : Int32)), (.int (2 : Int32)), (.int (3 : Int32))])), (me, .inr (.int, ms_u8)), (ki, .inr (.byte, ks_u8)), (am, .inr (.long, [(.long x0), (.long x1), (.long x2), (.long x3)]))]) (R' := [(hd, .inr (.int, [(.int (0 : Int32))]))]) rfl
              exact g_iretn w (by simp) d9_293 (by decide) (by decide) ⟨0, ct_u8, c_u8, ms_u8, ks_u8, v1, rfl, hct_u8, hG_u8, by omega, by omega, rfl, Or.inr ⟨rfl, by omega⟩⟩
          · -- pc 215 (on: x2 = x3)
            have q9 := congrArg Int64.toInt hc212
            refine g_iinc w d9_215 218 rfl rfl (by decide) #[.val (.ref t), .val (.ref hd), .val (.int (1 : Int32)), .val (.long sm), .second, .val (.int (1 : Int32)), .val (.int (1 : Int32)), .val (.int (3 : Int32)), .val (.long v2), .second, .val (.int (1 : Int32)), .val (.int (2 : Int32)), .unset, .unset] rfl ?_
            refine g_goto w d9_218 195 (by decide) (by decide) ?_
            refine g_aloadN w d9_195 rfl rfl 196 rfl ?_
            refine g_getf w d9_196 0 rfl 4 rfl 28 rfl Via.refl 199 rfl (fun T w => ?_)
            refine g_iload w d9_199 rfl 201 rfl ?_
            refine g_iconst w d9_201 (1 : Int32) rfl 202 rfl ?_
            refine g_isub w d9_202 203 rfl ?_
            refine g_int (x' := (1 : Int32)) (by decide) ?_
            refine g_laload w d9_203 5 rfl 1 (by decide) rfl 204 rfl ?_
            refine g_aloadN w d9_204 rfl rfl 205 rfl ?_
            refine g_getf w d9_205 0 rfl 4 rfl 28 rfl Via.refl 208 rfl (fun T w => ?_)
            refine g_iload w d9_208 rfl 210 rfl ?_
            refine g_laload w d9_210 5 rfl 3 (by decide) rfl 211 rfl ?_
            refine g_lcmp w d9_211 212 rfl ?_
            refine g_lif_ne w d9_212 221 (by decide) (by decide) 215 rfl (fun hc212 => ?_) (fun hc212 => ?_)
            · -- pc 221 (taken: not x1 = x3)
              have q10 := mt Int64.toInt_inj.mp hc212
              refine g_iload w d9_221 rfl 223 rfl ?_
              refine g_istore w d9_223 225 rfl rfl #[.val (.ref t), .val (.ref hd), .val (.int (1 : Int32)), .val (.long sm), .second, .val (.int (1 : Int32)), .val (.int (1 : Int32)), .val (.int (3 : Int32)), .val (.long v2), .second, .val (.int (1 : Int32)), .val (.int (2 : Int32)), .val (.int (1 : Int32)), .unset] rfl ?_
              refine g_iload w d9_225 rfl 227 rfl ?_
              refine g_if_eq w d9_227 276 (by decide) (by decide) 230 rfl (fun h => absurd h (by decide)) (fun hc227 => ?_)
              refine g_iload w d9_230 rfl 232 rfl ?_
              refine g_iload w d9_232 rfl 234 rfl ?_
              refine g_icmp_gt w d9_234 276 (by decide) (by decide) 237 rfl (fun h => absurd h (by decide)) (fun hc234 => ?_)
              refine g_iload w d9_237 rfl 239 rfl ?_
              refine g_istore w d9_239 241 rfl rfl #[.val (.ref t), .val (.ref hd), .val (.int (1 : Int32)), .val (.long sm), .second, .val (.int (1 : Int32)), .val (.int (1 : Int32)), .val (.int (3 : Int32)), .val (.long v2), .second, .val (.int (1 : Int32)), .val (.int (2 : Int32)), .val (.int (1 : Int32)), .val (.int (2 : Int32))] rfl ?_
              refine g_iload w d9_241 rfl 243 rfl ?_
              refine g_if_eq w d9_243 270 (by decide) (by decide) 246 rfl (fun h => absurd h (by decide)) (fun hc243 => ?_)
              refine g_iload w d9_246 rfl 248 rfl ?_
              refine g_iload w d9_248 rfl 250 rfl ?_
              refine g_icmp_gt w d9_250 270 (by decide) (by decide) 253 rfl (fun h => absurd h (by decide)) (fun hc250 => ?_)
              refine g_aloadN w d9_253 rfl rfl 254 rfl ?_
              refine g_aloadN w d9_254 rfl rfl 255 rfl ?_
              refine g_iload w d9_255 rfl 257 rfl ?_
              refine g_iload w d9_257 rfl 259 rfl ?_
              refine g_priv w (argsL := [(.ref hd), (.int (1 : Int32)), (.int (2 : Int32))]) (rest := []) (rm11_1 l Z a0 hw n0 t sa ba me ki am hd x0 x1 x2 x3 mo ct v1 ms ks c M 0 1 2 0 1 2 x0 x1 x2 hmo hM hct (by omega) hG rfl (by decide) rfl rfl N0 rfl (by decide) rfl rfl N1 rfl (by decide) rfl rfl N2 (by omega)) d9_259 0 rfl 77 rfl 78 rfl 10 rfl 80 rfl 79 rfl 9 rfl ⟨by decide, by decide⟩ pd_1 rfl rfl rfl 0 rfl (by decide) (by decide) (by decide) (by decide) 262 rfl (fun T v L w h => ?_)
              obtain ⟨rr, ct_u11, c_u11, ms_u11, ks_u11, rfl, hct_u11, hG_u11, hL, hor⟩ := h
              replace w := w.to hL
              rcases hor with ⟨rfl, hk_u11, hm_u11⟩ | ⟨rfl, hk_u11, hm_u11⟩
              · -- pc 262 room 1
                refine g_istore w d9_262 264 rfl rfl #[.val (.ref t), .val (.ref hd), .val (.int (1 : Int32)), .val (.long sm), .second, .val (.int (1 : Int32)), .val (.int (1 : Int32)), .val (.int (3 : Int32)), .val (.long v2), .second, .val (.int (1 : Int32)), .val (.int (2 : Int32)), .val (.int (1 : Int32)), .val (.int (2 : Int32))] rfl ?_
                refine g_iinc w d9_264 267 rfl rfl (by decide) #[.val (.ref t), .val (.ref hd), .val (.int (1 : Int32)), .val (.long sm), .second, .val (.int (1 : Int32)), .val (.int (1 : Int32)), .val (.int (3 : Int32)), .val (.long v2), .second, .val (.int (1 : Int32)), .val (.int (2 : Int32)), .val (.int (1 : Int32)), .val (.int (3 : Int32))] rfl ?_
                refine g_goto w d9_267 241 (by decide) (by decide) ?_
                refine g_iload w d9_241 rfl 243 rfl ?_
                refine g_if_eq w d9_243 270 (by decide) (by decide) 246 rfl (fun h => absurd h (by decide)) (fun hc243 => ?_)
                refine g_iload w d9_246 rfl 248 rfl ?_
                refine g_iload w d9_248 rfl 250 rfl ?_
                refine g_icmp_gt w d9_250 270 (by decide) (by decide) 253 rfl (fun h => absurd h (by decide)) (fun hc250 => ?_)
                refine g_aloadN w d9_253 rfl rfl 254 rfl ?_
                refine g_aloadN w d9_254 rfl rfl 255 rfl ?_
                refine g_iload w d9_255 rfl 257 rfl ?_
                refine g_iload w d9_257 rfl 259 rfl ?_
                refine g_priv w (argsL := [(.ref hd), (.int (1 : Int32)), (.int (3 : Int32))]) (rest := []) (rm11_1 l Z a0 hw n0 t sa ba me ki am hd x0 x1 x2 x3 mo ct_u11 v1 ms_u11 ks_u11 c_u11 M 0 1 3 0 1 3 x0 x1 x3 hmo hM hct_u11 (by omega) hG_u11 rfl (by decide) rfl rfl N0 rfl (by decide) rfl rfl N1 rfl (by decide) rfl rfl N3 (by omega)) d9_259 0 rfl 77 rfl 78 rfl 10 rfl 80 rfl 79 rfl 9 rfl ⟨by decide, by decide⟩ pd_1 rfl rfl rfl 0 rfl (by decide) (by decide) (by decide) (by decide) 262 rfl (fun T v L w h => ?_)
                obtain ⟨rr, ct_u12, c_u12, ms_u12, ks_u12, rfl, hct_u12, hG_u12, hL, hor⟩ := h
                replace w := w.to hL
                rcases hor with ⟨rfl, hk_u12, hm_u12⟩ | ⟨rfl, hk_u12, hm_u12⟩
                · -- pc 262 room 1
                  refine g_istore w d9_262 264 rfl rfl #[.val (.ref t), .val (.ref hd), .val (.int (1 : Int32)), .val (.long sm), .second, .val (.int (1 : Int32)), .val (.int (1 : Int32)), .val (.int (3 : Int32)), .val (.long v2), .second, .val (.int (1 : Int32)), .val (.int (2 : Int32)), .val (.int (1 : Int32)), .val (.int (3 : Int32))] rfl ?_
                  refine g_iinc w d9_264 267 rfl rfl (by decide) #[.val (.ref t), .val (.ref hd), .val (.int (1 : Int32)), .val (.long sm), .second, .val (.int (1 : Int32)), .val (.int (1 : Int32)), .val (.int (3 : Int32)), .val (.long v2), .second, .val (.int (1 : Int32)), .val (.int (2 : Int32)), .val (.int (1 : Int32)), .val (.int (4 : Int32))] rfl ?_
                  refine g_goto w d9_267 241 (by decide) (by decide) ?_
                  refine g_iload w d9_241 rfl 243 rfl ?_
                  refine g_if_eq w d9_243 270 (by decide) (by decide) 246 rfl (fun h => absurd h (by decide)) (fun hc243 => ?_)
                  refine g_iload w d9_246 rfl 248 rfl ?_
                  refine g_iload w d9_248 rfl 250 rfl ?_
                  refine g_icmp_gt w d9_250 270 (by decide) (by decide) 253 rfl (fun hc250 => ?_) (fun h => absurd (by decide) h)
                  refine g_iinc w d9_270 273 rfl rfl (by decide) #[.val (.ref t), .val (.ref hd), .val (.int (1 : Int32)), .val (.long sm), .second, .val (.int (1 : Int32)), .val (.int (1 : Int32)), .val (.int (3 : Int32)), .val (.long v2), .second, .val (.int (1 : Int32)), .val (.int (2 : Int32)), .val (.int (2 : Int32)), .val (.int (4 : Int32))] rfl ?_
                  refine g_goto w d9_273 225 (by decide) (by decide) ?_
                  refine g_iload w d9_225 rfl 227 rfl ?_
                  refine g_if_eq w d9_227 276 (by decide) (by decide) 230 rfl (fun h => absurd h (by decide)) (fun hc227 => ?_)
                  refine g_iload w d9_230 rfl 232 rfl ?_
                  refine g_iload w d9_232 rfl 234 rfl ?_
                  refine g_icmp_gt w d9_234 276 (by decide) (by decide) 237 rfl (fun hc234 => ?_) (fun h => absurd (by decide) h)
                  refine g_iload w d9_276 rfl 278 rfl ?_
                  refine g_iconst w d9_278 (1 : Int32) rfl 279 rfl ?_
                  refine g_iadd w d9_279 280 rfl ?_
                  refine g_int (x' := (2 : Int32)) (by decide) ?_
                  refine g_istore w d9_280 282 rfl rfl #[.val (.ref t), .val (.ref hd), .val (.int (1 : Int32)), .val (.long sm), .second, .val (.int (1 : Int32)), .val (.int (2 : Int32)), .val (.int (3 : Int32)), .val (.long v2), .second, .val (.int (1 : Int32)), .val (.int (2 : Int32)), .val (.int (2 : Int32)), .val (.int (4 : Int32))] rfl ?_
                  refine g_iload w d9_282 rfl 284 rfl ?_
                  refine g_iconst w d9_284 (1 : Int32) rfl 285 rfl ?_
                  refine g_isub w d9_285 286 rfl ?_
                  refine g_int (x' := (1 : Int32)) (by decide) ?_
                  refine g_istore w d9_286 288 rfl rfl #[.val (.ref t), .val (.ref hd), .val (.int (1 : Int32)), .val (.long sm), .second, .val (.int (1 : Int32)), .val (.int (2 : Int32)), .val (.int (1 : Int32)), .val (.long v2), .second, .val (.int (1 : Int32)), .val (.int (2 : Int32)), .val (.int (2 : Int32)), .val (.int (4 : Int32))] rfl ?_
                  refine g_goto w d9_288 14 (by decide) (by decide) ?_
                  refine g_iload w d9_14 rfl 16 rfl ?_
                  refine g_if_eq w d9_16 291 (by decide) (by decide) 19 rfl (fun h => absurd h (by decide)) (fun hc16 => ?_)
                  refine g_iload w d9_19 rfl 21 rfl ?_
                  refine g_iload w d9_21 rfl 23 rfl ?_
                  refine g_icmp_ge w d9_23 291 (by decide) (by decide) 26 rfl (fun hc23 => ?_) (fun h => absurd h (by decide))
                  refine g_iload w d9_291 rfl 293 rfl ?_
                  replace w := w.cut (L' := [(t, O_SmallGroups (.ref me) (.ref ki) (.int (4 : Int32)) (.ref ba) (.ref am) (.int mo) (.int (0 : Int32)) .null .null (.int ct_u12) .null .null (.long v1)), (sa, .inr (.long, [(.long x0), (.long x1), (.long x2), (.long x3)])), (ba, .inr (.int, [(.int (0 : Int32)), (.int (1 : Int32)), (.int (2 : Int32)), (.int (3 : Int32))])), (me, .inr (.int, ms_u12)), (ki, .inr (.byte, ks_u12)), (am, .inr (.long, [(.long x0), (.long x1), (.long x2), (.long x3)]))]) (R' := [(hd, .inr (.int, [(.int (0 : Int32))]))]) rfl
                  exact g_iretn w (by simp) d9_293 (by decide) (by decide) ⟨1, ct_u12, c_u12, ms_u12, ks_u12, v1, rfl, hct_u12, hG_u12, by omega, by omega, rfl, Or.inl ⟨rfl, by omega⟩⟩
                · -- pc 262 room 0
                  refine g_istore w d9_262 264 rfl rfl #[.val (.ref t), .val (.ref hd), .val (.int (1 : Int32)), .val (.long sm), .second, .val (.int (0 : Int32)), .val (.int (1 : Int32)), .val (.int (3 : Int32)), .val (.long v2), .second, .val (.int (1 : Int32)), .val (.int (2 : Int32)), .val (.int (1 : Int32)), .val (.int (3 : Int32))] rfl ?_
                  refine g_iinc w d9_264 267 rfl rfl (by decide) #[.val (.ref t), .val (.ref hd), .val (.int (1 : Int32)), .val (.long sm), .second, .val (.int (0 : Int32)), .val (.int (1 : Int32)), .val (.int (3 : Int32)), .val (.long v2), .second, .val (.int (1 : Int32)), .val (.int (2 : Int32)), .val (.int (1 : Int32)), .val (.int (4 : Int32))] rfl ?_
                  refine g_goto w d9_267 241 (by decide) (by decide) ?_
                  refine g_iload w d9_241 rfl 243 rfl ?_
                  refine g_if_eq w d9_243 270 (by decide) (by decide) 246 rfl (fun hc243 => ?_) (fun h => absurd (by decide) h)
                  refine g_iinc w d9_270 273 rfl rfl (by decide) #[.val (.ref t), .val (.ref hd), .val (.int (1 : Int32)), .val (.long sm), .second, .val (.int (0 : Int32)), .val (.int (1 : Int32)), .val (.int (3 : Int32)), .val (.long v2), .second, .val (.int (1 : Int32)), .val (.int (2 : Int32)), .val (.int (2 : Int32)), .val (.int (4 : Int32))] rfl ?_
                  refine g_goto w d9_273 225 (by decide) (by decide) ?_
                  refine g_iload w d9_225 rfl 227 rfl ?_
                  refine g_if_eq w d9_227 276 (by decide) (by decide) 230 rfl (fun hc227 => ?_) (fun h => absurd (by decide) h)
                  refine g_iload w d9_276 rfl 278 rfl ?_
                  refine g_iconst w d9_278 (1 : Int32) rfl 279 rfl ?_
                  refine g_iadd w d9_279 280 rfl ?_
                  refine g_int (x' := (2 : Int32)) (by decide) ?_
                  refine g_istore w d9_280 282 rfl rfl #[.val (.ref t), .val (.ref hd), .val (.int (1 : Int32)), .val (.long sm), .second, .val (.int (0 : Int32)), .val (.int (2 : Int32)), .val (.int (3 : Int32)), .val (.long v2), .second, .val (.int (1 : Int32)), .val (.int (2 : Int32)), .val (.int (2 : Int32)), .val (.int (4 : Int32))] rfl ?_
                  refine g_iload w d9_282 rfl 284 rfl ?_
                  refine g_iconst w d9_284 (1 : Int32) rfl 285 rfl ?_
                  refine g_isub w d9_285 286 rfl ?_
                  refine g_int (x' := (1 : Int32)) (by decide) ?_
                  refine g_istore w d9_286 288 rfl rfl #[.val (.ref t), .val (.ref hd), .val (.int (1 : Int32)), .val (.long sm), .second, .val (.int (0 : Int32)), .val (.int (2 : Int32)), .val (.int (1 : Int32)), .val (.long v2), .second, .val (.int (1 : Int32)), .val (.int (2 : Int32)), .val (.int (2 : Int32)), .val (.int (4 : Int32))] rfl ?_
                  refine g_goto w d9_288 14 (by decide) (by decide) ?_
                  refine g_iload w d9_14 rfl 16 rfl ?_
                  refine g_if_eq w d9_16 291 (by decide) (by decide) 19 rfl (fun hc16 => ?_) (fun h => absurd (by decide) h)
                  refine g_iload w d9_291 rfl 293 rfl ?_
                  replace w := w.cut (L' := [(t, O_SmallGroups (.ref me) (.ref ki) (.int (4 : Int32)) (.ref ba) (.ref am) (.int mo) (.int (0 : Int32)) .null .null (.int ct_u12) .null .null (.long v1)), (sa, .inr (.long, [(.long x0), (.long x1), (.long x2), (.long x3)])), (ba, .inr (.int, [(.int (0 : Int32)), (.int (1 : Int32)), (.int (2 : Int32)), (.int (3 : Int32))])), (me, .inr (.int, ms_u12)), (ki, .inr (.byte, ks_u12)), (am, .inr (.long, [(.long x0), (.long x1), (.long x2), (.long x3)]))]) (R' := [(hd, .inr (.int, [(.int (0 : Int32))]))]) rfl
                  exact g_iretn w (by simp) d9_293 (by decide) (by decide) ⟨0, ct_u12, c_u12, ms_u12, ks_u12, v1, rfl, hct_u12, hG_u12, by omega, by omega, rfl, Or.inr ⟨rfl, by omega⟩⟩
              · -- pc 262 room 0
                refine g_istore w d9_262 264 rfl rfl #[.val (.ref t), .val (.ref hd), .val (.int (1 : Int32)), .val (.long sm), .second, .val (.int (0 : Int32)), .val (.int (1 : Int32)), .val (.int (3 : Int32)), .val (.long v2), .second, .val (.int (1 : Int32)), .val (.int (2 : Int32)), .val (.int (1 : Int32)), .val (.int (2 : Int32))] rfl ?_
                refine g_iinc w d9_264 267 rfl rfl (by decide) #[.val (.ref t), .val (.ref hd), .val (.int (1 : Int32)), .val (.long sm), .second, .val (.int (0 : Int32)), .val (.int (1 : Int32)), .val (.int (3 : Int32)), .val (.long v2), .second, .val (.int (1 : Int32)), .val (.int (2 : Int32)), .val (.int (1 : Int32)), .val (.int (3 : Int32))] rfl ?_
                refine g_goto w d9_267 241 (by decide) (by decide) ?_
                refine g_iload w d9_241 rfl 243 rfl ?_
                refine g_if_eq w d9_243 270 (by decide) (by decide) 246 rfl (fun hc243 => ?_) (fun h => absurd (by decide) h)
                refine g_iinc w d9_270 273 rfl rfl (by decide) #[.val (.ref t), .val (.ref hd), .val (.int (1 : Int32)), .val (.long sm), .second, .val (.int (0 : Int32)), .val (.int (1 : Int32)), .val (.int (3 : Int32)), .val (.long v2), .second, .val (.int (1 : Int32)), .val (.int (2 : Int32)), .val (.int (2 : Int32)), .val (.int (3 : Int32))] rfl ?_
                refine g_goto w d9_273 225 (by decide) (by decide) ?_
                refine g_iload w d9_225 rfl 227 rfl ?_
                refine g_if_eq w d9_227 276 (by decide) (by decide) 230 rfl (fun hc227 => ?_) (fun h => absurd (by decide) h)
                refine g_iload w d9_276 rfl 278 rfl ?_
                refine g_iconst w d9_278 (1 : Int32) rfl 279 rfl ?_
                refine g_iadd w d9_279 280 rfl ?_
                refine g_int (x' := (2 : Int32)) (by decide) ?_
                refine g_istore w d9_280 282 rfl rfl #[.val (.ref t), .val (.ref hd), .val (.int (1 : Int32)), .val (.long sm), .second, .val (.int (0 : Int32)), .val (.int (2 : Int32)), .val (.int (3 : Int32)), .val (.long v2), .second, .val (.int (1 : Int32)), .val (.int (2 : Int32)), .val (.int (2 : Int32)), .val (.int (3 : Int32))] rfl ?_
                refine g_iload w d9_282 rfl 284 rfl ?_
                refine g_iconst w d9_284 (1 : Int32) rfl 285 rfl ?_
                refine g_isub w d9_285 286 rfl ?_
                refine g_int (x' := (1 : Int32)) (by decide) ?_
                refine g_istore w d9_286 288 rfl rfl #[.val (.ref t), .val (.ref hd), .val (.int (1 : Int32)), .val (.long sm), .second, .val (.int (0 : Int32)), .val (.int (2 : Int32)), .val (.int (1 : Int32)), .val (.long v2), .second, .val (.int (1 : Int32)), .val (.int (2 : Int32)), .val (.int (2 : Int32)), .val (.int (3 : Int32))] rfl ?_
                refine g_goto w d9_288 14 (by decide) (by decide) ?_
                refine g_iload w d9_14 rfl 16 rfl ?_
                refine g_if_eq w d9_16 291 (by decide) (by decide) 19 rfl (fun hc16 => ?_) (fun h => absurd (by decide) h)
                refine g_iload w d9_291 rfl 293 rfl ?_
                replace w := w.cut (L' := [(t, O_SmallGroups (.ref me) (.ref ki) (.int (4 : Int32)) (.ref ba) (.ref am) (.int mo) (.int (0 : Int32)) .null .null (.int ct_u11) .null .null (.long v1)), (sa, .inr (.long, [(.long x0), (.long x1), (.long x2), (.long x3)])), (ba, .inr (.int, [(.int (0 : Int32)), (.int (1 : Int32)), (.int (2 : Int32)), (.int (3 : Int32))])), (me, .inr (.int, ms_u11)), (ki, .inr (.byte, ks_u11)), (am, .inr (.long, [(.long x0), (.long x1), (.long x2), (.long x3)]))]) (R' := [(hd, .inr (.int, [(.int (0 : Int32))]))]) rfl
                exact g_iretn w (by simp) d9_293 (by decide) (by decide) ⟨0, ct_u11, c_u11, ms_u11, ks_u11, v1, rfl, hct_u11, hG_u11, by omega, by omega, rfl, Or.inr ⟨rfl, by omega⟩⟩
            · -- pc 215 (on: x1 = x3)
              have q13 := congrArg Int64.toInt hc212
              exfalso; omega
        · -- pc 185 (on: x2 = x1)
          have q14 := congrArg Int64.toInt hc182
          refine g_iinc w d9_185 188 rfl rfl (by decide) #[.val (.ref t), .val (.ref hd), .val (.int (1 : Int32)), .val (.long sm), .second, .val (.int (1 : Int32)), .val (.int (1 : Int32)), .val (.int (3 : Int32)), .val (.long v2), .second, .val (.int (2 : Int32)), .unset, .unset, .unset] rfl ?_
          refine g_goto w d9_188 165 (by decide) (by decide) ?_
          refine g_aloadN w d9_165 rfl rfl 166 rfl ?_
          refine g_getf w d9_166 0 rfl 4 rfl 28 rfl Via.refl 169 rfl (fun T w => ?_)
          refine g_iload w d9_169 rfl 171 rfl ?_
          refine g_iconst w d9_171 (1 : Int32) rfl 172 rfl ?_
          refine g_iadd w d9_172 173 rfl ?_
          refine g_int (x' := (3 : Int32)) (by decide) ?_
          refine g_laload w d9_173 5 rfl 3 (by decide) rfl 174 rfl ?_
          refine g_aloadN w d9_174 rfl rfl 175 rfl ?_
          refine g_getf w d9_175 0 rfl 4 rfl 28 rfl Via.refl 178 rfl (fun T w => ?_)
          refine g_iload w d9_178 rfl 180 rfl ?_
          refine g_laload w d9_180 5 rfl 1 (by decide) rfl 181 rfl ?_
          refine g_lcmp w d9_181 182 rfl ?_
          refine g_lif_ne w d9_182 191 (by decide) (by decide) 185 rfl (fun hc182 => ?_) (fun hc182 => ?_)
          · -- pc 191 (taken: not x3 = x1)
            have q15 := mt Int64.toInt_inj.mp hc182
            refine g_iload w d9_191 rfl 193 rfl ?_
            refine g_istore w d9_193 195 rfl rfl #[.val (.ref t), .val (.ref hd), .val (.int (1 : Int32)), .val (.long sm), .second, .val (.int (1 : Int32)), .val (.int (1 : Int32)), .val (.int (3 : Int32)), .val (.long v2), .second, .val (.int (2 : Int32)), .val (.int (3 : Int32)), .unset, .unset] rfl ?_
            refine g_aloadN w d9_195 rfl rfl 196 rfl ?_
            refine g_getf w d9_196 0 rfl 4 rfl 28 rfl Via.refl 199 rfl (fun T w => ?_)
            refine g_iload w d9_199 rfl 201 rfl ?_
            refine g_iconst w d9_201 (1 : Int32) rfl 202 rfl ?_
            refine g_isub w d9_202 203 rfl ?_
            refine g_int (x' := (2 : Int32)) (by decide) ?_
            refine g_laload w d9_203 5 rfl 2 (by decide) rfl 204 rfl ?_
            refine g_aloadN w d9_204 rfl rfl 205 rfl ?_
            refine g_getf w d9_205 0 rfl 4 rfl 28 rfl Via.refl 208 rfl (fun T w => ?_)
            refine g_iload w d9_208 rfl 210 rfl ?_
            refine g_laload w d9_210 5 rfl 3 (by decide) rfl 211 rfl ?_
            refine g_lcmp w d9_211 212 rfl ?_
            refine g_lif_ne w d9_212 221 (by decide) (by decide) 215 rfl (fun hc212 => ?_) (fun hc212 => ?_)
            · -- pc 221 (taken: not x2 = x3)
              have q16 := mt Int64.toInt_inj.mp hc212
              refine g_iload w d9_221 rfl 223 rfl ?_
              refine g_istore w d9_223 225 rfl rfl #[.val (.ref t), .val (.ref hd), .val (.int (1 : Int32)), .val (.long sm), .second, .val (.int (1 : Int32)), .val (.int (1 : Int32)), .val (.int (3 : Int32)), .val (.long v2), .second, .val (.int (2 : Int32)), .val (.int (3 : Int32)), .val (.int (1 : Int32)), .unset] rfl ?_
              refine g_iload w d9_225 rfl 227 rfl ?_
              refine g_if_eq w d9_227 276 (by decide) (by decide) 230 rfl (fun h => absurd h (by decide)) (fun hc227 => ?_)
              refine g_iload w d9_230 rfl 232 rfl ?_
              refine g_iload w d9_232 rfl 234 rfl ?_
              refine g_icmp_gt w d9_234 276 (by decide) (by decide) 237 rfl (fun h => absurd h (by decide)) (fun hc234 => ?_)
              refine g_iload w d9_237 rfl 239 rfl ?_
              refine g_istore w d9_239 241 rfl rfl #[.val (.ref t), .val (.ref hd), .val (.int (1 : Int32)), .val (.long sm), .second, .val (.int (1 : Int32)), .val (.int (1 : Int32)), .val (.int (3 : Int32)), .val (.long v2), .second, .val (.int (2 : Int32)), .val (.int (3 : Int32)), .val (.int (1 : Int32)), .val (.int (3 : Int32))] rfl ?_
              refine g_iload w d9_241 rfl 243 rfl ?_
              refine g_if_eq w d9_243 270 (by decide) (by decide) 246 rfl (fun h => absurd h (by decide)) (fun hc243 => ?_)
              refine g_iload w d9_246 rfl 248 rfl ?_
              refine g_iload w d9_248 rfl 250 rfl ?_
              refine g_icmp_gt w d9_250 270 (by decide) (by decide) 253 rfl (fun h => absurd h (by decide)) (fun hc250 => ?_)
              refine g_aloadN w d9_253 rfl rfl 254 rfl ?_
              refine g_aloadN w d9_254 rfl rfl 255 rfl ?_
              refine g_iload w d9_255 rfl 257 rfl ?_
              refine g_iload w d9_257 rfl 259 rfl ?_
              refine g_priv w (argsL := [(.ref hd), (.int (1 : Int32)), (.int (3 : Int32))]) (rest := []) (rm11_1 l Z a0 hw n0 t sa ba me ki am hd x0 x1 x2 x3 mo ct v1 ms ks c M 0 1 3 0 1 3 x0 x1 x3 hmo hM hct (by omega) hG rfl (by decide) rfl rfl N0 rfl (by decide) rfl rfl N1 rfl (by decide) rfl rfl N3 (by omega)) d9_259 0 rfl 77 rfl 78 rfl 10 rfl 80 rfl 79 rfl 9 rfl ⟨by decide, by decide⟩ pd_1 rfl rfl rfl 0 rfl (by decide) (by decide) (by decide) (by decide) 262 rfl (fun T v L w h => ?_)
              obtain ⟨rr, ct_u17, c_u17, ms_u17, ks_u17, rfl, hct_u17, hG_u17, hL, hor⟩ := h
              replace w := w.to hL
              rcases hor with ⟨rfl, hk_u17, hm_u17⟩ | ⟨rfl, hk_u17, hm_u17⟩
              · -- pc 262 room 1
                refine g_istore w d9_262 264 rfl rfl #[.val (.ref t), .val (.ref hd), .val (.int (1 : Int32)), .val (.long sm), .second, .val (.int (1 : Int32)), .val (.int (1 : Int32)), .val (.int (3 : Int32)), .val (.long v2), .second, .val (.int (2 : Int32)), .val (.int (3 : Int32)), .val (.int (1 : Int32)), .val (.int (3 : Int32))] rfl ?_
                refine g_iinc w d9_264 267 rfl rfl (by decide) #[.val (.ref t), .val (.ref hd), .val (.int (1 : Int32)), .val (.long sm), .second, .val (.int (1 : Int32)), .val (.int (1 : Int32)), .val (.int (3 : Int32)), .val (.long v2), .second, .val (.int (2 : Int32)), .val (.int (3 : Int32)), .val (.int (1 : Int32)), .val (.int (4 : Int32))] rfl ?_
                refine g_goto w d9_267 241 (by decide) (by decide) ?_
                refine g_iload w d9_241 rfl 243 rfl ?_
                refine g_if_eq w d9_243 270 (by decide) (by decide) 246 rfl (fun h => absurd h (by decide)) (fun hc243 => ?_)
                refine g_iload w d9_246 rfl 248 rfl ?_
                refine g_iload w d9_248 rfl 250 rfl ?_
                refine g_icmp_gt w d9_250 270 (by decide) (by decide) 253 rfl (fun hc250 => ?_) (fun h => absurd (by decide) h)
                refine g_iinc w d9_270 273 rfl rfl (by decide) #[.val (.ref t), .val (.ref hd), .val (.int (1 : Int32)), .val (.long sm), .second, .val (.int (1 : Int32)), .val (.int (1 : Int32)), .val (.int (3 : Int32)), .val (.long v2), .second, .val (.int (2 : Int32)), .val (.int (3 : Int32)), .val (.int (2 : Int32)), .val (.int (4 : Int32))] rfl ?_
                refine g_goto w d9_273 225 (by decide) (by decide) ?_
                refine g_iload w d9_225 rfl 227 rfl ?_
                refine g_if_eq w d9_227 276 (by decide) (by decide) 230 rfl (fun h => absurd h (by decide)) (fun hc227 => ?_)
                refine g_iload w d9_230 rfl 232 rfl ?_
                refine g_iload w d9_232 rfl 234 rfl ?_
                refine g_icmp_gt w d9_234 276 (by decide) (by decide) 237 rfl (fun h => absurd h (by decide)) (fun hc234 => ?_)
                refine g_iload w d9_237 rfl 239 rfl ?_
                refine g_istore w d9_239 241 rfl rfl #[.val (.ref t), .val (.ref hd), .val (.int (1 : Int32)), .val (.long sm), .second, .val (.int (1 : Int32)), .val (.int (1 : Int32)), .val (.int (3 : Int32)), .val (.long v2), .second, .val (.int (2 : Int32)), .val (.int (3 : Int32)), .val (.int (2 : Int32)), .val (.int (3 : Int32))] rfl ?_
                refine g_iload w d9_241 rfl 243 rfl ?_
                refine g_if_eq w d9_243 270 (by decide) (by decide) 246 rfl (fun h => absurd h (by decide)) (fun hc243 => ?_)
                refine g_iload w d9_246 rfl 248 rfl ?_
                refine g_iload w d9_248 rfl 250 rfl ?_
                refine g_icmp_gt w d9_250 270 (by decide) (by decide) 253 rfl (fun h => absurd h (by decide)) (fun hc250 => ?_)
                refine g_aloadN w d9_253 rfl rfl 254 rfl ?_
                refine g_aloadN w d9_254 rfl rfl 255 rfl ?_
                refine g_iload w d9_255 rfl 257 rfl ?_
                refine g_iload w d9_257 rfl 259 rfl ?_
                refine g_priv w (argsL := [(.ref hd), (.int (2 : Int32)), (.int (3 : Int32))]) (rest := []) (rm11_1 l Z a0 hw n0 t sa ba me ki am hd x0 x1 x2 x3 mo ct_u17 v1 ms_u17 ks_u17 c_u17 M 0 2 3 0 2 3 x0 x2 x3 hmo hM hct_u17 (by omega) hG_u17 rfl (by decide) rfl rfl N0 rfl (by decide) rfl rfl N2 rfl (by decide) rfl rfl N3 (by omega)) d9_259 0 rfl 77 rfl 78 rfl 10 rfl 80 rfl 79 rfl 9 rfl ⟨by decide, by decide⟩ pd_1 rfl rfl rfl 0 rfl (by decide) (by decide) (by decide) (by decide) 262 rfl (fun T v L w h => ?_)
                obtain ⟨rr, ct_u18, c_u18, ms_u18, ks_u18, rfl, hct_u18, hG_u18, hL, hor⟩ := h
                replace w := w.to hL
                rcases hor with ⟨rfl, hk_u18, hm_u18⟩ | ⟨rfl, hk_u18, hm_u18⟩
                · -- pc 262 room 1
                  refine g_istore w d9_262 264 rfl rfl #[.val (.ref t), .val (.ref hd), .val (.int (1 : Int32)), .val (.long sm), .second, .val (.int (1 : Int32)), .val (.int (1 : Int32)), .val (.int (3 : Int32)), .val (.long v2), .second, .val (.int (2 : Int32)), .val (.int (3 : Int32)), .val (.int (2 : Int32)), .val (.int (3 : Int32))] rfl ?_
                  refine g_iinc w d9_264 267 rfl rfl (by decide) #[.val (.ref t), .val (.ref hd), .val (.int (1 : Int32)), .val (.long sm), .second, .val (.int (1 : Int32)), .val (.int (1 : Int32)), .val (.int (3 : Int32)), .val (.long v2), .second, .val (.int (2 : Int32)), .val (.int (3 : Int32)), .val (.int (2 : Int32)), .val (.int (4 : Int32))] rfl ?_
                  refine g_goto w d9_267 241 (by decide) (by decide) ?_
                  refine g_iload w d9_241 rfl 243 rfl ?_
                  refine g_if_eq w d9_243 270 (by decide) (by decide) 246 rfl (fun h => absurd h (by decide)) (fun hc243 => ?_)
                  refine g_iload w d9_246 rfl 248 rfl ?_
                  refine g_iload w d9_248 rfl 250 rfl ?_
                  refine g_icmp_gt w d9_250 270 (by decide) (by decide) 253 rfl (fun hc250 => ?_) (fun h => absurd (by decide) h)
                  refine g_iinc w d9_270 273 rfl rfl (by decide) #[.val (.ref t), .val (.ref hd), .val (.int (1 : Int32)), .val (.long sm), .second, .val (.int (1 : Int32)), .val (.int (1 : Int32)), .val (.int (3 : Int32)), .val (.long v2), .second, .val (.int (2 : Int32)), .val (.int (3 : Int32)), .val (.int (3 : Int32)), .val (.int (4 : Int32))] rfl ?_
                  refine g_goto w d9_273 225 (by decide) (by decide) ?_
                  refine g_iload w d9_225 rfl 227 rfl ?_
                  refine g_if_eq w d9_227 276 (by decide) (by decide) 230 rfl (fun h => absurd h (by decide)) (fun hc227 => ?_)
                  refine g_iload w d9_230 rfl 232 rfl ?_
                  refine g_iload w d9_232 rfl 234 rfl ?_
                  refine g_icmp_gt w d9_234 276 (by decide) (by decide) 237 rfl (fun hc234 => ?_) (fun h => absurd (by decide) h)
                  refine g_iload w d9_276 rfl 278 rfl ?_
                  refine g_iconst w d9_278 (1 : Int32) rfl 279 rfl ?_
                  refine g_iadd w d9_279 280 rfl ?_
                  refine g_int (x' := (3 : Int32)) (by decide) ?_
                  refine g_istore w d9_280 282 rfl rfl #[.val (.ref t), .val (.ref hd), .val (.int (1 : Int32)), .val (.long sm), .second, .val (.int (1 : Int32)), .val (.int (3 : Int32)), .val (.int (3 : Int32)), .val (.long v2), .second, .val (.int (2 : Int32)), .val (.int (3 : Int32)), .val (.int (3 : Int32)), .val (.int (4 : Int32))] rfl ?_
                  refine g_iload w d9_282 rfl 284 rfl ?_
                  refine g_iconst w d9_284 (1 : Int32) rfl 285 rfl ?_
                  refine g_isub w d9_285 286 rfl ?_
                  refine g_int (x' := (2 : Int32)) (by decide) ?_
                  refine g_istore w d9_286 288 rfl rfl #[.val (.ref t), .val (.ref hd), .val (.int (1 : Int32)), .val (.long sm), .second, .val (.int (1 : Int32)), .val (.int (3 : Int32)), .val (.int (2 : Int32)), .val (.long v2), .second, .val (.int (2 : Int32)), .val (.int (3 : Int32)), .val (.int (3 : Int32)), .val (.int (4 : Int32))] rfl ?_
                  refine g_goto w d9_288 14 (by decide) (by decide) ?_
                  refine g_iload w d9_14 rfl 16 rfl ?_
                  refine g_if_eq w d9_16 291 (by decide) (by decide) 19 rfl (fun h => absurd h (by decide)) (fun hc16 => ?_)
                  refine g_iload w d9_19 rfl 21 rfl ?_
                  refine g_iload w d9_21 rfl 23 rfl ?_
                  refine g_icmp_ge w d9_23 291 (by decide) (by decide) 26 rfl (fun hc23 => ?_) (fun h => absurd h (by decide))
                  refine g_iload w d9_291 rfl 293 rfl ?_
                  replace w := w.cut (L' := [(t, O_SmallGroups (.ref me) (.ref ki) (.int (4 : Int32)) (.ref ba) (.ref am) (.int mo) (.int (0 : Int32)) .null .null (.int ct_u18) .null .null (.long v1)), (sa, .inr (.long, [(.long x0), (.long x1), (.long x2), (.long x3)])), (ba, .inr (.int, [(.int (0 : Int32)), (.int (1 : Int32)), (.int (2 : Int32)), (.int (3 : Int32))])), (me, .inr (.int, ms_u18)), (ki, .inr (.byte, ks_u18)), (am, .inr (.long, [(.long x0), (.long x1), (.long x2), (.long x3)]))]) (R' := [(hd, .inr (.int, [(.int (0 : Int32))]))]) rfl
                  exact g_iretn w (by simp) d9_293 (by decide) (by decide) ⟨1, ct_u18, c_u18, ms_u18, ks_u18, v1, rfl, hct_u18, hG_u18, by omega, by omega, rfl, Or.inl ⟨rfl, by omega⟩⟩
                · -- pc 262 room 0
                  refine g_istore w d9_262 264 rfl rfl #[.val (.ref t), .val (.ref hd), .val (.int (1 : Int32)), .val (.long sm), .second, .val (.int (0 : Int32)), .val (.int (1 : Int32)), .val (.int (3 : Int32)), .val (.long v2), .second, .val (.int (2 : Int32)), .val (.int (3 : Int32)), .val (.int (2 : Int32)), .val (.int (3 : Int32))] rfl ?_
                  refine g_iinc w d9_264 267 rfl rfl (by decide) #[.val (.ref t), .val (.ref hd), .val (.int (1 : Int32)), .val (.long sm), .second, .val (.int (0 : Int32)), .val (.int (1 : Int32)), .val (.int (3 : Int32)), .val (.long v2), .second, .val (.int (2 : Int32)), .val (.int (3 : Int32)), .val (.int (2 : Int32)), .val (.int (4 : Int32))] rfl ?_
                  refine g_goto w d9_267 241 (by decide) (by decide) ?_
                  refine g_iload w d9_241 rfl 243 rfl ?_
                  refine g_if_eq w d9_243 270 (by decide) (by decide) 246 rfl (fun hc243 => ?_) (fun h => absurd (by decide) h)
                  refine g_iinc w d9_270 273 rfl rfl (by decide) #[.val (.ref t), .val (.ref hd), .val (.int (1 : Int32)), .val (.long sm), .second, .val (.int (0 : Int32)), .val (.int (1 : Int32)), .val (.int (3 : Int32)), .val (.long v2), .second, .val (.int (2 : Int32)), .val (.int (3 : Int32)), .val (.int (3 : Int32)), .val (.int (4 : Int32))] rfl ?_
                  refine g_goto w d9_273 225 (by decide) (by decide) ?_
                  refine g_iload w d9_225 rfl 227 rfl ?_
                  refine g_if_eq w d9_227 276 (by decide) (by decide) 230 rfl (fun hc227 => ?_) (fun h => absurd (by decide) h)
                  refine g_iload w d9_276 rfl 278 rfl ?_
                  refine g_iconst w d9_278 (1 : Int32) rfl 279 rfl ?_
                  refine g_iadd w d9_279 280 rfl ?_
                  refine g_int (x' := (3 : Int32)) (by decide) ?_
                  refine g_istore w d9_280 282 rfl rfl #[.val (.ref t), .val (.ref hd), .val (.int (1 : Int32)), .val (.long sm), .second, .val (.int (0 : Int32)), .val (.int (3 : Int32)), .val (.int (3 : Int32)), .val (.long v2), .second, .val (.int (2 : Int32)), .val (.int (3 : Int32)), .val (.int (3 : Int32)), .val (.int (4 : Int32))] rfl ?_
                  refine g_iload w d9_282 rfl 284 rfl ?_
                  refine g_iconst w d9_284 (1 : Int32) rfl 285 rfl ?_
                  refine g_isub w d9_285 286 rfl ?_
                  refine g_int (x' := (2 : Int32)) (by decide) ?_
                  refine g_istore w d9_286 288 rfl rfl #[.val (.ref t), .val (.ref hd), .val (.int (1 : Int32)), .val (.long sm), .second, .val (.int (0 : Int32)), .val (.int (3 : Int32)), .val (.int (2 : Int32)), .val (.long v2), .second, .val (.int (2 : Int32)), .val (.int (3 : Int32)), .val (.int (3 : Int32)), .val (.int (4 : Int32))] rfl ?_
                  refine g_goto w d9_288 14 (by decide) (by decide) ?_
                  refine g_iload w d9_14 rfl 16 rfl ?_
                  refine g_if_eq w d9_16 291 (by decide) (by decide) 19 rfl (fun hc16 => ?_) (fun h => absurd (by decide) h)
                  refine g_iload w d9_291 rfl 293 rfl ?_
                  replace w := w.cut (L' := [(t, O_SmallGroups (.ref me) (.ref ki) (.int (4 : Int32)) (.ref ba) (.ref am) (.int mo) (.int (0 : Int32)) .null .null (.int ct_u18) .null .null (.long v1)), (sa, .inr (.long, [(.long x0), (.long x1), (.long x2), (.long x3)])), (ba, .inr (.int, [(.int (0 : Int32)), (.int (1 : Int32)), (.int (2 : Int32)), (.int (3 : Int32))])), (me, .inr (.int, ms_u18)), (ki, .inr (.byte, ks_u18)), (am, .inr (.long, [(.long x0), (.long x1), (.long x2), (.long x3)]))]) (R' := [(hd, .inr (.int, [(.int (0 : Int32))]))]) rfl
                  exact g_iretn w (by simp) d9_293 (by decide) (by decide) ⟨0, ct_u18, c_u18, ms_u18, ks_u18, v1, rfl, hct_u18, hG_u18, by omega, by omega, rfl, Or.inr ⟨rfl, by omega⟩⟩
              · -- pc 262 room 0
                refine g_istore w d9_262 264 rfl rfl #[.val (.ref t), .val (.ref hd), .val (.int (1 : Int32)), .val (.long sm), .second, .val (.int (0 : Int32)), .val (.int (1 : Int32)), .val (.int (3 : Int32)), .val (.long v2), .second, .val (.int (2 : Int32)), .val (.int (3 : Int32)), .val (.int (1 : Int32)), .val (.int (3 : Int32))] rfl ?_
                refine g_iinc w d9_264 267 rfl rfl (by decide) #[.val (.ref t), .val (.ref hd), .val (.int (1 : Int32)), .val (.long sm), .second, .val (.int (0 : Int32)), .val (.int (1 : Int32)), .val (.int (3 : Int32)), .val (.long v2), .second, .val (.int (2 : Int32)), .val (.int (3 : Int32)), .val (.int (1 : Int32)), .val (.int (4 : Int32))] rfl ?_
                refine g_goto w d9_267 241 (by decide) (by decide) ?_
                refine g_iload w d9_241 rfl 243 rfl ?_
                refine g_if_eq w d9_243 270 (by decide) (by decide) 246 rfl (fun hc243 => ?_) (fun h => absurd (by decide) h)
                refine g_iinc w d9_270 273 rfl rfl (by decide) #[.val (.ref t), .val (.ref hd), .val (.int (1 : Int32)), .val (.long sm), .second, .val (.int (0 : Int32)), .val (.int (1 : Int32)), .val (.int (3 : Int32)), .val (.long v2), .second, .val (.int (2 : Int32)), .val (.int (3 : Int32)), .val (.int (2 : Int32)), .val (.int (4 : Int32))] rfl ?_
                refine g_goto w d9_273 225 (by decide) (by decide) ?_
                refine g_iload w d9_225 rfl 227 rfl ?_
                refine g_if_eq w d9_227 276 (by decide) (by decide) 230 rfl (fun hc227 => ?_) (fun h => absurd (by decide) h)
                refine g_iload w d9_276 rfl 278 rfl ?_
                refine g_iconst w d9_278 (1 : Int32) rfl 279 rfl ?_
                refine g_iadd w d9_279 280 rfl ?_
                refine g_int (x' := (3 : Int32)) (by decide) ?_
                refine g_istore w d9_280 282 rfl rfl #[.val (.ref t), .val (.ref hd), .val (.int (1 : Int32)), .val (.long sm), .second, .val (.int (0 : Int32)), .val (.int (3 : Int32)), .val (.int (3 : Int32)), .val (.long v2), .second, .val (.int (2 : Int32)), .val (.int (3 : Int32)), .val (.int (2 : Int32)), .val (.int (4 : Int32))] rfl ?_
                refine g_iload w d9_282 rfl 284 rfl ?_
                refine g_iconst w d9_284 (1 : Int32) rfl 285 rfl ?_
                refine g_isub w d9_285 286 rfl ?_
                refine g_int (x' := (2 : Int32)) (by decide) ?_
                refine g_istore w d9_286 288 rfl rfl #[.val (.ref t), .val (.ref hd), .val (.int (1 : Int32)), .val (.long sm), .second, .val (.int (0 : Int32)), .val (.int (3 : Int32)), .val (.int (2 : Int32)), .val (.long v2), .second, .val (.int (2 : Int32)), .val (.int (3 : Int32)), .val (.int (2 : Int32)), .val (.int (4 : Int32))] rfl ?_
                refine g_goto w d9_288 14 (by decide) (by decide) ?_
                refine g_iload w d9_14 rfl 16 rfl ?_
                refine g_if_eq w d9_16 291 (by decide) (by decide) 19 rfl (fun hc16 => ?_) (fun h => absurd (by decide) h)
                refine g_iload w d9_291 rfl 293 rfl ?_
                replace w := w.cut (L' := [(t, O_SmallGroups (.ref me) (.ref ki) (.int (4 : Int32)) (.ref ba) (.ref am) (.int mo) (.int (0 : Int32)) .null .null (.int ct_u17) .null .null (.long v1)), (sa, .inr (.long, [(.long x0), (.long x1), (.long x2), (.long x3)])), (ba, .inr (.int, [(.int (0 : Int32)), (.int (1 : Int32)), (.int (2 : Int32)), (.int (3 : Int32))])), (me, .inr (.int, ms_u17)), (ki, .inr (.byte, ks_u17)), (am, .inr (.long, [(.long x0), (.long x1), (.long x2), (.long x3)]))]) (R' := [(hd, .inr (.int, [(.int (0 : Int32))]))]) rfl
                exact g_iretn w (by simp) d9_293 (by decide) (by decide) ⟨0, ct_u17, c_u17, ms_u17, ks_u17, v1, rfl, hct_u17, hG_u17, by omega, by omega, rfl, Or.inr ⟨rfl, by omega⟩⟩
            · -- pc 215 (on: x2 = x3)
              have q19 := congrArg Int64.toInt hc212
              exfalso; omega
          · -- pc 185 (on: x3 = x1)
            have q20 := congrArg Int64.toInt hc182
            exfalso; omega
      · -- pc 97 (on: x1 = x3)
        have q21 := congrArg Int64.toInt hc94
        refine g_iload w d9_97 rfl 99 rfl ?_
        refine g_istore w d9_99 101 rfl rfl #[.val (.ref t), .val (.ref hd), .val (.int (1 : Int32)), .val (.long sm), .second, .val (.int (1 : Int32)), .val (.int (1 : Int32)), .val (.int (3 : Int32)), .val (.long v2), .second, .val (.int (1 : Int32)), .unset, .unset, .unset] rfl ?_
        refine g_iload w d9_101 rfl 103 rfl ?_
        refine g_if_eq w d9_103 154 (by decide) (by decide) 106 rfl (fun h => absurd h (by decide)) (fun hc103 => ?_)
        refine g_iload w d9_106 rfl 108 rfl ?_
        refine g_iload w d9_108 rfl 110 rfl ?_
        refine g_icmp_ge w d9_110 154 (by decide) (by decide) 113 rfl (fun h => absurd (by decide) h) (fun hc110 => ?_)
        refine g_iload w d9_113 rfl 115 rfl ?_
        refine g_iconst w d9_115 (1 : Int32) rfl 116 rfl ?_
        refine g_iadd w d9_116 117 rfl ?_
        refine g_int (x' := (2 : Int32)) (by decide) ?_
        refine g_istore w d9_117 119 rfl rfl #[.val (.ref t), .val (.ref hd), .val (.int (1 : Int32)), .val (.long sm), .second, .val (.int (1 : Int32)), .val (.int (1 : Int32)), .val (.int (3 : Int32)), .val (.long v2), .second, .val (.int (1 : Int32)), .val (.int (2 : Int32)), .unset, .unset] rfl ?_
        refine g_iload w d9_119 rfl 121 rfl ?_
        refine g_if_eq w d9_121 148 (by decide) (by decide) 124 rfl (fun h => absurd h (by decide)) (fun hc121 => ?_)
        refine g_iload w d9_124 rfl 126 rfl ?_
        refine g_iload w d9_126 rfl 128 rfl ?_
        refine g_icmp_gt w d9_128 148 (by decide) (by decide) 131 rfl (fun h => absurd h (by decide)) (fun hc128 => ?_)
        refine g_aloadN w d9_131 rfl rfl 132 rfl ?_
        refine g_aloadN w d9_132 rfl rfl 133 rfl ?_
        refine g_iload w d9_133 rfl 135 rfl ?_
        refine g_iload w d9_135 rfl 137 rfl ?_
        refine g_priv w (argsL := [(.ref hd), (.int (1 : Int32)), (.int (2 : Int32))]) (rest := []) (rm11_1 l Z a0 hw n0 t sa ba me ki am hd x0 x1 x2 x3 mo ct v1 ms ks c M 0 1 2 0 1 2 x0 x1 x2 hmo hM hct (by omega) hG rfl (by decide) rfl rfl N0 rfl (by decide) rfl rfl N1 rfl (by decide) rfl rfl N2 (by omega)) d9_137 0 rfl 77 rfl 78 rfl 10 rfl 80 rfl 79 rfl 9 rfl ⟨by decide, by decide⟩ pd_1 rfl rfl rfl 0 rfl (by decide) (by decide) (by decide) (by decide) 140 rfl (fun T v L w h => ?_)
        obtain ⟨rr, ct_u22, c_u22, ms_u22, ks_u22, rfl, hct_u22, hG_u22, hL, hor⟩ := h
        replace w := w.to hL
        rcases hor with ⟨rfl, hk_u22, hm_u22⟩ | ⟨rfl, hk_u22, hm_u22⟩
        · -- pc 140 room 1
          refine g_istore w d9_140 142 rfl rfl #[.val (.ref t), .val (.ref hd), .val (.int (1 : Int32)), .val (.long sm), .second, .val (.int (1 : Int32)), .val (.int (1 : Int32)), .val (.int (3 : Int32)), .val (.long v2), .second, .val (.int (1 : Int32)), .val (.int (2 : Int32)), .unset, .unset] rfl ?_
          refine g_iinc w d9_142 145 rfl rfl (by decide) #[.val (.ref t), .val (.ref hd), .val (.int (1 : Int32)), .val (.long sm), .second, .val (.int (1 : Int32)), .val (.int (1 : Int32)), .val (.int (3 : Int32)), .val (.long v2), .second, .val (.int (1 : Int32)), .val (.int (3 : Int32)), .unset, .unset] rfl ?_
          refine g_goto w d9_145 119 (by decide) (by decide) ?_
          refine g_iload w d9_119 rfl 121 rfl ?_
          refine g_if_eq w d9_121 148 (by decide) (by decide) 124 rfl (fun h => absurd h (by decide)) (fun hc121 => ?_)
          refine g_iload w d9_124 rfl 126 rfl ?_
          refine g_iload w d9_126 rfl 128 rfl ?_
          refine g_icmp_gt w d9_128 148 (by decide) (by decide) 131 rfl (fun h => absurd h (by decide)) (fun hc128 => ?_)
          refine g_aloadN w d9_131 rfl rfl 132 rfl ?_
          refine g_aloadN w d9_132 rfl rfl 133 rfl ?_
          refine g_iload w d9_133 rfl 135 rfl ?_
          refine g_iload w d9_135 rfl 137 rfl ?_
          refine g_priv w (argsL := [(.ref hd), (.int (1 : Int32)), (.int (3 : Int32))]) (rest := []) (rm11_1 l Z a0 hw n0 t sa ba me ki am hd x0 x1 x2 x3 mo ct_u22 v1 ms_u22 ks_u22 c_u22 M 0 1 3 0 1 3 x0 x1 x3 hmo hM hct_u22 (by omega) hG_u22 rfl (by decide) rfl rfl N0 rfl (by decide) rfl rfl N1 rfl (by decide) rfl rfl N3 (by omega)) d9_137 0 rfl 77 rfl 78 rfl 10 rfl 80 rfl 79 rfl 9 rfl ⟨by decide, by decide⟩ pd_1 rfl rfl rfl 0 rfl (by decide) (by decide) (by decide) (by decide) 140 rfl (fun T v L w h => ?_)
          obtain ⟨rr, ct_u23, c_u23, ms_u23, ks_u23, rfl, hct_u23, hG_u23, hL, hor⟩ := h
          replace w := w.to hL
          rcases hor with ⟨rfl, hk_u23, hm_u23⟩ | ⟨rfl, hk_u23, hm_u23⟩
          · -- pc 140 room 1
            refine g_istore w d9_140 142 rfl rfl #[.val (.ref t), .val (.ref hd), .val (.int (1 : Int32)), .val (.long sm), .second, .val (.int (1 : Int32)), .val (.int (1 : Int32)), .val (.int (3 : Int32)), .val (.long v2), .second, .val (.int (1 : Int32)), .val (.int (3 : Int32)), .unset, .unset] rfl ?_
            refine g_iinc w d9_142 145 rfl rfl (by decide) #[.val (.ref t), .val (.ref hd), .val (.int (1 : Int32)), .val (.long sm), .second, .val (.int (1 : Int32)), .val (.int (1 : Int32)), .val (.int (3 : Int32)), .val (.long v2), .second, .val (.int (1 : Int32)), .val (.int (4 : Int32)), .unset, .unset] rfl ?_
            refine g_goto w d9_145 119 (by decide) (by decide) ?_
            refine g_iload w d9_119 rfl 121 rfl ?_
            refine g_if_eq w d9_121 148 (by decide) (by decide) 124 rfl (fun h => absurd h (by decide)) (fun hc121 => ?_)
            refine g_iload w d9_124 rfl 126 rfl ?_
            refine g_iload w d9_126 rfl 128 rfl ?_
            refine g_icmp_gt w d9_128 148 (by decide) (by decide) 131 rfl (fun hc128 => ?_) (fun h => absurd (by decide) h)
            refine g_iinc w d9_148 151 rfl rfl (by decide) #[.val (.ref t), .val (.ref hd), .val (.int (1 : Int32)), .val (.long sm), .second, .val (.int (1 : Int32)), .val (.int (1 : Int32)), .val (.int (3 : Int32)), .val (.long v2), .second, .val (.int (2 : Int32)), .val (.int (4 : Int32)), .unset, .unset] rfl ?_
            refine g_goto w d9_151 101 (by decide) (by decide) ?_
            refine g_iload w d9_101 rfl 103 rfl ?_
            refine g_if_eq w d9_103 154 (by decide) (by decide) 106 rfl (fun h => absurd h (by decide)) (fun hc103 => ?_)
            refine g_iload w d9_106 rfl 108 rfl ?_
            refine g_iload w d9_108 rfl 110 rfl ?_
            refine g_icmp_ge w d9_110 154 (by decide) (by decide) 113 rfl (fun h => absurd (by decide) h) (fun hc110 => ?_)
            refine g_iload w d9_113 rfl 115 rfl ?_
            refine g_iconst w d9_115 (1 : Int32) rfl 116 rfl ?_
            refine g_iadd w d9_116 117 rfl ?_
            refine g_int (x' := (3 : Int32)) (by decide) ?_
            refine g_istore w d9_117 119 rfl rfl #[.val (.ref t), .val (.ref hd), .val (.int (1 : Int32)), .val (.long sm), .second, .val (.int (1 : Int32)), .val (.int (1 : Int32)), .val (.int (3 : Int32)), .val (.long v2), .second, .val (.int (2 : Int32)), .val (.int (3 : Int32)), .unset, .unset] rfl ?_
            refine g_iload w d9_119 rfl 121 rfl ?_
            refine g_if_eq w d9_121 148 (by decide) (by decide) 124 rfl (fun h => absurd h (by decide)) (fun hc121 => ?_)
            refine g_iload w d9_124 rfl 126 rfl ?_
            refine g_iload w d9_126 rfl 128 rfl ?_
            refine g_icmp_gt w d9_128 148 (by decide) (by decide) 131 rfl (fun h => absurd h (by decide)) (fun hc128 => ?_)
            refine g_aloadN w d9_131 rfl rfl 132 rfl ?_
            refine g_aloadN w d9_132 rfl rfl 133 rfl ?_
            refine g_iload w d9_133 rfl 135 rfl ?_
            refine g_iload w d9_135 rfl 137 rfl ?_
            refine g_priv w (argsL := [(.ref hd), (.int (2 : Int32)), (.int (3 : Int32))]) (rest := []) (rm11_1 l Z a0 hw n0 t sa ba me ki am hd x0 x1 x2 x3 mo ct_u23 v1 ms_u23 ks_u23 c_u23 M 0 2 3 0 2 3 x0 x2 x3 hmo hM hct_u23 (by omega) hG_u23 rfl (by decide) rfl rfl N0 rfl (by decide) rfl rfl N2 rfl (by decide) rfl rfl N3 (by omega)) d9_137 0 rfl 77 rfl 78 rfl 10 rfl 80 rfl 79 rfl 9 rfl ⟨by decide, by decide⟩ pd_1 rfl rfl rfl 0 rfl (by decide) (by decide) (by decide) (by decide) 140 rfl (fun T v L w h => ?_)
            obtain ⟨rr, ct_u24, c_u24, ms_u24, ks_u24, rfl, hct_u24, hG_u24, hL, hor⟩ := h
            replace w := w.to hL
            rcases hor with ⟨rfl, hk_u24, hm_u24⟩ | ⟨rfl, hk_u24, hm_u24⟩
            · -- pc 140 room 1
              refine g_istore w d9_140 142 rfl rfl #[.val (.ref t), .val (.ref hd), .val (.int (1 : Int32)), .val (.long sm), .second, .val (.int (1 : Int32)), .val (.int (1 : Int32)), .val (.int (3 : Int32)), .val (.long v2), .second, .val (.int (2 : Int32)), .val (.int (3 : Int32)), .unset, .unset] rfl ?_
              refine g_iinc w d9_142 145 rfl rfl (by decide) #[.val (.ref t), .val (.ref hd), .val (.int (1 : Int32)), .val (.long sm), .second, .val (.int (1 : Int32)), .val (.int (1 : Int32)), .val (.int (3 : Int32)), .val (.long v2), .second, .val (.int (2 : Int32)), .val (.int (4 : Int32)), .unset, .unset] rfl ?_
              refine g_goto w d9_145 119 (by decide) (by decide) ?_
              refine g_iload w d9_119 rfl 121 rfl ?_
              refine g_if_eq w d9_121 148 (by decide) (by decide) 124 rfl (fun h => absurd h (by decide)) (fun hc121 => ?_)
              refine g_iload w d9_124 rfl 126 rfl ?_
              refine g_iload w d9_126 rfl 128 rfl ?_
              refine g_icmp_gt w d9_128 148 (by decide) (by decide) 131 rfl (fun hc128 => ?_) (fun h => absurd (by decide) h)
              refine g_iinc w d9_148 151 rfl rfl (by decide) #[.val (.ref t), .val (.ref hd), .val (.int (1 : Int32)), .val (.long sm), .second, .val (.int (1 : Int32)), .val (.int (1 : Int32)), .val (.int (3 : Int32)), .val (.long v2), .second, .val (.int (3 : Int32)), .val (.int (4 : Int32)), .unset, .unset] rfl ?_
              refine g_goto w d9_151 101 (by decide) (by decide) ?_
              refine g_iload w d9_101 rfl 103 rfl ?_
              refine g_if_eq w d9_103 154 (by decide) (by decide) 106 rfl (fun h => absurd h (by decide)) (fun hc103 => ?_)
              refine g_iload w d9_106 rfl 108 rfl ?_
              refine g_iload w d9_108 rfl 110 rfl ?_
              refine g_icmp_ge w d9_110 154 (by decide) (by decide) 113 rfl (fun hc110 => ?_) (fun h => absurd h (by decide))
              refine g_iload w d9_154 rfl 156 rfl ?_
              refine g_istore w d9_156 158 rfl rfl #[.val (.ref t), .val (.ref hd), .val (.int (1 : Int32)), .val (.long sm), .second, .val (.int (1 : Int32)), .val (.int (3 : Int32)), .val (.int (3 : Int32)), .val (.long v2), .second, .val (.int (3 : Int32)), .val (.int (4 : Int32)), .unset, .unset] rfl ?_
              refine g_goto w d9_158 288 (by decide) (by decide) ?_
              refine g_goto w d9_288 14 (by decide) (by decide) ?_
              refine g_iload w d9_14 rfl 16 rfl ?_
              refine g_if_eq w d9_16 291 (by decide) (by decide) 19 rfl (fun h => absurd h (by decide)) (fun hc16 => ?_)
              refine g_iload w d9_19 rfl 21 rfl ?_
              refine g_iload w d9_21 rfl 23 rfl ?_
              refine g_icmp_ge w d9_23 291 (by decide) (by decide) 26 rfl (fun hc23 => ?_) (fun h => absurd h (by decide))
              refine g_iload w d9_291 rfl 293 rfl ?_
              replace w := w.cut (L' := [(t, O_SmallGroups (.ref me) (.ref ki) (.int (4 : Int32)) (.ref ba) (.ref am) (.int mo) (.int (0 : Int32)) .null .null (.int ct_u24) .null .null (.long v1)), (sa, .inr (.long, [(.long x0), (.long x1), (.long x2), (.long x3)])), (ba, .inr (.int, [(.int (0 : Int32)), (.int (1 : Int32)), (.int (2 : Int32)), (.int (3 : Int32))])), (me, .inr (.int, ms_u24)), (ki, .inr (.byte, ks_u24)), (am, .inr (.long, [(.long x0), (.long x1), (.long x2), (.long x3)]))]) (R' := [(hd, .inr (.int, [(.int (0 : Int32))]))]) rfl
              exact g_iretn w (by simp) d9_293 (by decide) (by decide) ⟨1, ct_u24, c_u24, ms_u24, ks_u24, v1, rfl, hct_u24, hG_u24, by omega, by omega, rfl, Or.inl ⟨rfl, by omega⟩⟩
            · -- pc 140 room 0
              refine g_istore w d9_140 142 rfl rfl #[.val (.ref t), .val (.ref hd), .val (.int (1 : Int32)), .val (.long sm), .second, .val (.int (0 : Int32)), .val (.int (1 : Int32)), .val (.int (3 : Int32)), .val (.long v2), .second, .val (.int (2 : Int32)), .val (.int (3 : Int32)), .unset, .unset] rfl ?_
              refine g_iinc w d9_142 145 rfl rfl (by decide) #[.val (.ref t), .val (.ref hd), .val (.int (1 : Int32)), .val (.long sm), .second, .val (.int (0 : Int32)), .val (.int (1 : Int32)), .val (.int (3 : Int32)), .val (.long v2), .second, .val (.int (2 : Int32)), .val (.int (4 : Int32)), .unset, .unset] rfl ?_
              refine g_goto w d9_145 119 (by decide) (by decide) ?_
              refine g_iload w d9_119 rfl 121 rfl ?_
              refine g_if_eq w d9_121 148 (by decide) (by decide) 124 rfl (fun hc121 => ?_) (fun h => absurd (by decide) h)
              refine g_iinc w d9_148 151 rfl rfl (by decide) #[.val (.ref t), .val (.ref hd), .val (.int (1 : Int32)), .val (.long sm), .second, .val (.int (0 : Int32)), .val (.int (1 : Int32)), .val (.int (3 : Int32)), .val (.long v2), .second, .val (.int (3 : Int32)), .val (.int (4 : Int32)), .unset, .unset] rfl ?_
              refine g_goto w d9_151 101 (by decide) (by decide) ?_
              refine g_iload w d9_101 rfl 103 rfl ?_
              refine g_if_eq w d9_103 154 (by decide) (by decide) 106 rfl (fun hc103 => ?_) (fun h => absurd (by decide) h)
              refine g_iload w d9_154 rfl 156 rfl ?_
              refine g_istore w d9_156 158 rfl rfl #[.val (.ref t), .val (.ref hd), .val (.int (1 : Int32)), .val (.long sm), .second, .val (.int (0 : Int32)), .val (.int (3 : Int32)), .val (.int (3 : Int32)), .val (.long v2), .second, .val (.int (3 : Int32)), .val (.int (4 : Int32)), .unset, .unset] rfl ?_
              refine g_goto w d9_158 288 (by decide) (by decide) ?_
              refine g_goto w d9_288 14 (by decide) (by decide) ?_
              refine g_iload w d9_14 rfl 16 rfl ?_
              refine g_if_eq w d9_16 291 (by decide) (by decide) 19 rfl (fun hc16 => ?_) (fun h => absurd (by decide) h)
              refine g_iload w d9_291 rfl 293 rfl ?_
              replace w := w.cut (L' := [(t, O_SmallGroups (.ref me) (.ref ki) (.int (4 : Int32)) (.ref ba) (.ref am) (.int mo) (.int (0 : Int32)) .null .null (.int ct_u24) .null .null (.long v1)), (sa, .inr (.long, [(.long x0), (.long x1), (.long x2), (.long x3)])), (ba, .inr (.int, [(.int (0 : Int32)), (.int (1 : Int32)), (.int (2 : Int32)), (.int (3 : Int32))])), (me, .inr (.int, ms_u24)), (ki, .inr (.byte, ks_u24)), (am, .inr (.long, [(.long x0), (.long x1), (.long x2), (.long x3)]))]) (R' := [(hd, .inr (.int, [(.int (0 : Int32))]))]) rfl
              exact g_iretn w (by simp) d9_293 (by decide) (by decide) ⟨0, ct_u24, c_u24, ms_u24, ks_u24, v1, rfl, hct_u24, hG_u24, by omega, by omega, rfl, Or.inr ⟨rfl, by omega⟩⟩
          · -- pc 140 room 0
            refine g_istore w d9_140 142 rfl rfl #[.val (.ref t), .val (.ref hd), .val (.int (1 : Int32)), .val (.long sm), .second, .val (.int (0 : Int32)), .val (.int (1 : Int32)), .val (.int (3 : Int32)), .val (.long v2), .second, .val (.int (1 : Int32)), .val (.int (3 : Int32)), .unset, .unset] rfl ?_
            refine g_iinc w d9_142 145 rfl rfl (by decide) #[.val (.ref t), .val (.ref hd), .val (.int (1 : Int32)), .val (.long sm), .second, .val (.int (0 : Int32)), .val (.int (1 : Int32)), .val (.int (3 : Int32)), .val (.long v2), .second, .val (.int (1 : Int32)), .val (.int (4 : Int32)), .unset, .unset] rfl ?_
            refine g_goto w d9_145 119 (by decide) (by decide) ?_
            refine g_iload w d9_119 rfl 121 rfl ?_
            refine g_if_eq w d9_121 148 (by decide) (by decide) 124 rfl (fun hc121 => ?_) (fun h => absurd (by decide) h)
            refine g_iinc w d9_148 151 rfl rfl (by decide) #[.val (.ref t), .val (.ref hd), .val (.int (1 : Int32)), .val (.long sm), .second, .val (.int (0 : Int32)), .val (.int (1 : Int32)), .val (.int (3 : Int32)), .val (.long v2), .second, .val (.int (2 : Int32)), .val (.int (4 : Int32)), .unset, .unset] rfl ?_
            refine g_goto w d9_151 101 (by decide) (by decide) ?_
            refine g_iload w d9_101 rfl 103 rfl ?_
            refine g_if_eq w d9_103 154 (by decide) (by decide) 106 rfl (fun hc103 => ?_) (fun h => absurd (by decide) h)
            refine g_iload w d9_154 rfl 156 rfl ?_
            refine g_istore w d9_156 158 rfl rfl #[.val (.ref t), .val (.ref hd), .val (.int (1 : Int32)), .val (.long sm), .second, .val (.int (0 : Int32)), .val (.int (3 : Int32)), .val (.int (3 : Int32)), .val (.long v2), .second, .val (.int (2 : Int32)), .val (.int (4 : Int32)), .unset, .unset] rfl ?_
            refine g_goto w d9_158 288 (by decide) (by decide) ?_
            refine g_goto w d9_288 14 (by decide) (by decide) ?_
            refine g_iload w d9_14 rfl 16 rfl ?_
            refine g_if_eq w d9_16 291 (by decide) (by decide) 19 rfl (fun hc16 => ?_) (fun h => absurd (by decide) h)
            refine g_iload w d9_291 rfl 293 rfl ?_
            replace w := w.cut (L' := [(t, O_SmallGroups (.ref me) (.ref ki) (.int (4 : Int32)) (.ref ba) (.ref am) (.int mo) (.int (0 : Int32)) .null .null (.int ct_u23) .null .null (.long v1)), (sa, .inr (.long, [(.long x0), (.long x1), (.long x2), (.long x3)])), (ba, .inr (.int, [(.int (0 : Int32)), (.int (1 : Int32)), (.int (2 : Int32)), (.int (3 : Int32))])), (me, .inr (.int, ms_u23)), (ki, .inr (.byte, ks_u23)), (am, .inr (.long, [(.long x0), (.long x1), (.long x2), (.long x3)]))]) (R' := [(hd, .inr (.int, [(.int (0 : Int32))]))]) rfl
            exact g_iretn w (by simp) d9_293 (by decide) (by decide) ⟨0, ct_u23, c_u23, ms_u23, ks_u23, v1, rfl, hct_u23, hG_u23, by omega, by omega, rfl, Or.inr ⟨rfl, by omega⟩⟩
        · -- pc 140 room 0
          refine g_istore w d9_140 142 rfl rfl #[.val (.ref t), .val (.ref hd), .val (.int (1 : Int32)), .val (.long sm), .second, .val (.int (0 : Int32)), .val (.int (1 : Int32)), .val (.int (3 : Int32)), .val (.long v2), .second, .val (.int (1 : Int32)), .val (.int (2 : Int32)), .unset, .unset] rfl ?_
          refine g_iinc w d9_142 145 rfl rfl (by decide) #[.val (.ref t), .val (.ref hd), .val (.int (1 : Int32)), .val (.long sm), .second, .val (.int (0 : Int32)), .val (.int (1 : Int32)), .val (.int (3 : Int32)), .val (.long v2), .second, .val (.int (1 : Int32)), .val (.int (3 : Int32)), .unset, .unset] rfl ?_
          refine g_goto w d9_145 119 (by decide) (by decide) ?_
          refine g_iload w d9_119 rfl 121 rfl ?_
          refine g_if_eq w d9_121 148 (by decide) (by decide) 124 rfl (fun hc121 => ?_) (fun h => absurd (by decide) h)
          refine g_iinc w d9_148 151 rfl rfl (by decide) #[.val (.ref t), .val (.ref hd), .val (.int (1 : Int32)), .val (.long sm), .second, .val (.int (0 : Int32)), .val (.int (1 : Int32)), .val (.int (3 : Int32)), .val (.long v2), .second, .val (.int (2 : Int32)), .val (.int (3 : Int32)), .unset, .unset] rfl ?_
          refine g_goto w d9_151 101 (by decide) (by decide) ?_
          refine g_iload w d9_101 rfl 103 rfl ?_
          refine g_if_eq w d9_103 154 (by decide) (by decide) 106 rfl (fun hc103 => ?_) (fun h => absurd (by decide) h)
          refine g_iload w d9_154 rfl 156 rfl ?_
          refine g_istore w d9_156 158 rfl rfl #[.val (.ref t), .val (.ref hd), .val (.int (1 : Int32)), .val (.long sm), .second, .val (.int (0 : Int32)), .val (.int (3 : Int32)), .val (.int (3 : Int32)), .val (.long v2), .second, .val (.int (2 : Int32)), .val (.int (3 : Int32)), .unset, .unset] rfl ?_
          refine g_goto w d9_158 288 (by decide) (by decide) ?_
          refine g_goto w d9_288 14 (by decide) (by decide) ?_
          refine g_iload w d9_14 rfl 16 rfl ?_
          refine g_if_eq w d9_16 291 (by decide) (by decide) 19 rfl (fun hc16 => ?_) (fun h => absurd (by decide) h)
          refine g_iload w d9_291 rfl 293 rfl ?_
          replace w := w.cut (L' := [(t, O_SmallGroups (.ref me) (.ref ki) (.int (4 : Int32)) (.ref ba) (.ref am) (.int mo) (.int (0 : Int32)) .null .null (.int ct_u22) .null .null (.long v1)), (sa, .inr (.long, [(.long x0), (.long x1), (.long x2), (.long x3)])), (ba, .inr (.int, [(.int (0 : Int32)), (.int (1 : Int32)), (.int (2 : Int32)), (.int (3 : Int32))])), (me, .inr (.int, ms_u22)), (ki, .inr (.byte, ks_u22)), (am, .inr (.long, [(.long x0), (.long x1), (.long x2), (.long x3)]))]) (R' := [(hd, .inr (.int, [(.int (0 : Int32))]))]) rfl
          exact g_iretn w (by simp) d9_293 (by decide) (by decide) ⟨0, ct_u22, c_u22, ms_u22, ks_u22, v1, rfl, hct_u22, hG_u22, by omega, by omega, rfl, Or.inr ⟨rfl, by omega⟩⟩
    · -- pc 73 (on: sm < v2)
      have q25 := (own_ltL hsm hp_v2).mp hc70
      refine g_iinc w d9_73 76 rfl rfl (by decide) #[.val (.ref t), .val (.ref hd), .val (.int (1 : Int32)), .val (.long sm), .second, .val (.int (1 : Int32)), .val (.int (1 : Int32)), .val (.int (2 : Int32)), .val (.long v2), .second, .unset, .unset, .unset, .unset] rfl ?_
      refine g_goto w d9_76 288 (by decide) (by decide) ?_
      refine g_goto w d9_288 14 (by decide) (by decide) ?_
      refine g_iload w d9_14 rfl 16 rfl ?_
      refine g_if_eq w d9_16 291 (by decide) (by decide) 19 rfl (fun h => absurd h (by decide)) (fun hc16 => ?_)
      refine g_iload w d9_19 rfl 21 rfl ?_
      refine g_iload w d9_21 rfl 23 rfl ?_
      refine g_icmp_ge w d9_23 291 (by decide) (by decide) 26 rfl (fun h => absurd (by decide) h) (fun hc23 => ?_)
      refine g_aloadN w d9_26 rfl rfl 27 rfl ?_
      refine g_dup w d9_27 rfl 28 rfl ?_
      refine g_getf w d9_28 0 rfl 12 rfl 57 rfl Via.refl 31 rfl (fun T w => ?_)
      refine g_lconst w d9_31 (1 : Int64) rfl 32 rfl ?_
      refine g_ladd w d9_32 33 rfl ?_
      obtain ⟨v26, hv26⟩ : ∃ own_z, own_z = ((v1 + (1 : Int64)) : Int64) := ⟨_, rfl⟩
      refine g_long hv26.symm ?_
      refine g_putf w d9_33 0 rfl 12 rfl 57 rfl Via.refl 58 (Or.inl rfl) 9 rfl (ty := .long) (by decide) rfl rfl 36 rfl (fun T w => ?_)
      replace w := w.to (L' := [(t, O_SmallGroups (.ref me) (.ref ki) (.int (4 : Int32)) (.ref ba) (.ref am) (.int mo) (.int (0 : Int32)) .null .null (.int ct) .null .null (.long v26)), (sa, .inr (.long, [(.long x0), (.long x1), (.long x2), (.long x3)])), (ba, .inr (.int, [(.int (0 : Int32)), (.int (1 : Int32)), (.int (2 : Int32)), (.int (3 : Int32))])), (me, .inr (.int, ms)), (ki, .inr (.byte, ks)), (am, .inr (.long, [(.long x0), (.long x1), (.long x2), (.long x3)])), (hd, .inr (.int, [(.int (0 : Int32))]))]) rfl
      refine g_aloadN w d9_36 rfl rfl 37 rfl ?_
      refine g_getf w d9_37 0 rfl 4 rfl 28 rfl Via.refl 40 rfl (fun T w => ?_)
      refine g_iload w d9_40 rfl 42 rfl ?_
      refine g_laload w d9_42 5 rfl 1 (by decide) rfl 43 rfl ?_
      refine g_aloadN w d9_43 rfl rfl 44 rfl ?_
      refine g_getf w d9_44 0 rfl 4 rfl 28 rfl Via.refl 47 rfl (fun T w => ?_)
      refine g_iload w d9_47 rfl 49 rfl ?_
      refine g_laload w d9_49 5 rfl 2 (by decide) rfl 50 rfl ?_
      refine g_ladd w d9_50 51 rfl ?_
      obtain ⟨v27, hv27⟩ : ∃ own_z, own_z = ((x1 + x2) : Int64) := ⟨_, rfl⟩
      refine g_lstore w d9_51 53 rfl hv27.symm #[.val (.ref t), .val (.ref hd), .val (.int (1 : Int32)), .val (.long sm), .second, .val (.int (1 : Int32)), .val (.int (1 : Int32)), .val (.int (2 : Int32)), .val (.long v27), .second, .unset, .unset, .unset, .unset] rfl ?_
      have hp_v27 : v27.toInt = x1.toInt + x2.toInt := by rw [hv27]; exact own_ladd rfl rfl (by omega) (by omega) (by omega) (by omega)
      refine g_lload w d9_53 rfl 55 rfl ?_
      refine g_lloadN w d9_55 rfl 56 rfl ?_
      refine g_lcmp w d9_56 57 rfl ?_
      refine g_lif_ge w d9_57 66 (by decide) (by decide) 60 rfl (fun hc57 => ?_) (fun hc57 => ?_)
      · -- pc 66 (taken: not v27 < sm)
        have q28 := mt (own_ltL hp_v27 hsm).mpr hc57
        refine g_lload w d9_66 rfl 68 rfl ?_
        refine g_lloadN w d9_68 rfl 69 rfl ?_
        refine g_lcmp w d9_69 70 rfl ?_
        refine g_lif_le w d9_70 79 (by decide) (by decide) 73 rfl (fun hc70 => ?_) (fun hc70 => ?_)
        · -- pc 79 (taken: not sm < v27)
          have q29 := mt (own_ltL hsm hp_v27).mpr hc70
          refine g_aloadN w d9_79 rfl rfl 80 rfl ?_
          refine g_getf w d9_80 0 rfl 4 rfl 28 rfl Via.refl 83 rfl (fun T w => ?_)
          refine g_iload w d9_83 rfl 85 rfl ?_
          refine g_laload w d9_85 5 rfl 1 (by decide) rfl 86 rfl ?_
          refine g_aloadN w d9_86 rfl rfl 87 rfl ?_
          refine g_getf w d9_87 0 rfl 4 rfl 28 rfl Via.refl 90 rfl (fun T w => ?_)
          refine g_iload w d9_90 rfl 92 rfl ?_
          refine g_laload w d9_92 5 rfl 2 (by decide) rfl 93 rfl ?_
          refine g_lcmp w d9_93 94 rfl ?_
          refine g_lif_ne w d9_94 161 (by decide) (by decide) 97 rfl (fun hc94 => ?_) (fun hc94 => ?_)
          · -- pc 161 (taken: not x1 = x2)
            have q30 := mt Int64.toInt_inj.mp hc94
            refine g_iload w d9_161 rfl 163 rfl ?_
            refine g_istore w d9_163 165 rfl rfl #[.val (.ref t), .val (.ref hd), .val (.int (1 : Int32)), .val (.long sm), .second, .val (.int (1 : Int32)), .val (.int (1 : Int32)), .val (.int (2 : Int32)), .val (.long v27), .second, .val (.int (1 : Int32)), .unset, .unset, .unset] rfl ?_
            refine g_aloadN w d9_165 rfl rfl 166 rfl ?_
            refine g_getf w d9_166 0 rfl 4 rfl 28 rfl Via.refl 169 rfl (fun T w => ?_)
            refine g_iload w d9_169 rfl 171 rfl ?_
            refine g_iconst w d9_171 (1 : Int32) rfl 172 rfl ?_
            refine g_iadd w d9_172 173 rfl ?_
            refine g_int (x' := (2 : Int32)) (by decide) ?_
            refine g_laload w d9_173 5 rfl 2 (by decide) rfl 174 rfl ?_
            refine g_aloadN w d9_174 rfl rfl 175 rfl ?_
            refine g_getf w d9_175 0 rfl 4 rfl 28 rfl Via.refl 178 rfl (fun T w => ?_)
            refine g_iload w d9_178 rfl 180 rfl ?_
            refine g_laload w d9_180 5 rfl 1 (by decide) rfl 181 rfl ?_
            refine g_lcmp w d9_181 182 rfl ?_
            refine g_lif_ne w d9_182 191 (by decide) (by decide) 185 rfl (fun hc182 => ?_) (fun hc182 => ?_)
            · -- pc 191 (taken: not x2 = x1)
              have q31 := mt Int64.toInt_inj.mp hc182
              refine g_iload w d9_191 rfl 193 rfl ?_
              refine g_istore w d9_193 195 rfl rfl #[.val (.ref t), .val (.ref hd), .val (.int (1 : Int32)), .val (.long sm), .second, .val (.int (1 : Int32)), .val (.int (1 : Int32)), .val (.int (2 : Int32)), .val (.long v27), .second, .val (.int (1 : Int32)), .val (.int (2 : Int32)), .unset, .unset] rfl ?_
              refine g_aloadN w d9_195 rfl rfl 196 rfl ?_
              refine g_getf w d9_196 0 rfl 4 rfl 28 rfl Via.refl 199 rfl (fun T w => ?_)
              refine g_iload w d9_199 rfl 201 rfl ?_
              refine g_iconst w d9_201 (1 : Int32) rfl 202 rfl ?_
              refine g_isub w d9_202 203 rfl ?_
              refine g_int (x' := (1 : Int32)) (by decide) ?_
              refine g_laload w d9_203 5 rfl 1 (by decide) rfl 204 rfl ?_
              refine g_aloadN w d9_204 rfl rfl 205 rfl ?_
              refine g_getf w d9_205 0 rfl 4 rfl 28 rfl Via.refl 208 rfl (fun T w => ?_)
              refine g_iload w d9_208 rfl 210 rfl ?_
              refine g_laload w d9_210 5 rfl 2 (by decide) rfl 211 rfl ?_
              refine g_lcmp w d9_211 212 rfl ?_
              refine g_lif_ne w d9_212 221 (by decide) (by decide) 215 rfl (fun hc212 => ?_) (fun hc212 => ?_)
              · -- pc 221 (taken: not x1 = x2)
                have q32 := mt Int64.toInt_inj.mp hc212
                refine g_iload w d9_221 rfl 223 rfl ?_
                refine g_istore w d9_223 225 rfl rfl #[.val (.ref t), .val (.ref hd), .val (.int (1 : Int32)), .val (.long sm), .second, .val (.int (1 : Int32)), .val (.int (1 : Int32)), .val (.int (2 : Int32)), .val (.long v27), .second, .val (.int (1 : Int32)), .val (.int (2 : Int32)), .val (.int (1 : Int32)), .unset] rfl ?_
                refine g_iload w d9_225 rfl 227 rfl ?_
                refine g_if_eq w d9_227 276 (by decide) (by decide) 230 rfl (fun h => absurd h (by decide)) (fun hc227 => ?_)
                refine g_iload w d9_230 rfl 232 rfl ?_
                refine g_iload w d9_232 rfl 234 rfl ?_
                refine g_icmp_gt w d9_234 276 (by decide) (by decide) 237 rfl (fun h => absurd h (by decide)) (fun hc234 => ?_)
                refine g_iload w d9_237 rfl 239 rfl ?_
                refine g_istore w d9_239 241 rfl rfl #[.val (.ref t), .val (.ref hd), .val (.int (1 : Int32)), .val (.long sm), .second, .val (.int (1 : Int32)), .val (.int (1 : Int32)), .val (.int (2 : Int32)), .val (.long v27), .second, .val (.int (1 : Int32)), .val (.int (2 : Int32)), .val (.int (1 : Int32)), .val (.int (2 : Int32))] rfl ?_
                refine g_iload w d9_241 rfl 243 rfl ?_
                refine g_if_eq w d9_243 270 (by decide) (by decide) 246 rfl (fun h => absurd h (by decide)) (fun hc243 => ?_)
                refine g_iload w d9_246 rfl 248 rfl ?_
                refine g_iload w d9_248 rfl 250 rfl ?_
                refine g_icmp_gt w d9_250 270 (by decide) (by decide) 253 rfl (fun h => absurd h (by decide)) (fun hc250 => ?_)
                refine g_aloadN w d9_253 rfl rfl 254 rfl ?_
                refine g_aloadN w d9_254 rfl rfl 255 rfl ?_
                refine g_iload w d9_255 rfl 257 rfl ?_
                refine g_iload w d9_257 rfl 259 rfl ?_
                refine g_priv w (argsL := [(.ref hd), (.int (1 : Int32)), (.int (2 : Int32))]) (rest := []) (rm11_1 l Z a0 hw n0 t sa ba me ki am hd x0 x1 x2 x3 mo ct v26 ms ks c M 0 1 2 0 1 2 x0 x1 x2 hmo hM hct (by omega) hG rfl (by decide) rfl rfl N0 rfl (by decide) rfl rfl N1 rfl (by decide) rfl rfl N2 (by omega)) d9_259 0 rfl 77 rfl 78 rfl 10 rfl 80 rfl 79 rfl 9 rfl ⟨by decide, by decide⟩ pd_1 rfl rfl rfl 0 rfl (by decide) (by decide) (by decide) (by decide) 262 rfl (fun T v L w h => ?_)
                obtain ⟨rr, ct_u33, c_u33, ms_u33, ks_u33, rfl, hct_u33, hG_u33, hL, hor⟩ := h
                replace w := w.to hL
                rcases hor with ⟨rfl, hk_u33, hm_u33⟩ | ⟨rfl, hk_u33, hm_u33⟩
                · -- pc 262 room 1
                  refine g_istore w d9_262 264 rfl rfl #[.val (.ref t), .val (.ref hd), .val (.int (1 : Int32)), .val (.long sm), .second, .val (.int (1 : Int32)), .val (.int (1 : Int32)), .val (.int (2 : Int32)), .val (.long v27), .second, .val (.int (1 : Int32)), .val (.int (2 : Int32)), .val (.int (1 : Int32)), .val (.int (2 : Int32))] rfl ?_
                  refine g_iinc w d9_264 267 rfl rfl (by decide) #[.val (.ref t), .val (.ref hd), .val (.int (1 : Int32)), .val (.long sm), .second, .val (.int (1 : Int32)), .val (.int (1 : Int32)), .val (.int (2 : Int32)), .val (.long v27), .second, .val (.int (1 : Int32)), .val (.int (2 : Int32)), .val (.int (1 : Int32)), .val (.int (3 : Int32))] rfl ?_
                  refine g_goto w d9_267 241 (by decide) (by decide) ?_
                  refine g_iload w d9_241 rfl 243 rfl ?_
                  refine g_if_eq w d9_243 270 (by decide) (by decide) 246 rfl (fun h => absurd h (by decide)) (fun hc243 => ?_)
                  refine g_iload w d9_246 rfl 248 rfl ?_
                  refine g_iload w d9_248 rfl 250 rfl ?_
                  refine g_icmp_gt w d9_250 270 (by decide) (by decide) 253 rfl (fun hc250 => ?_) (fun h => absurd (by decide) h)
                  refine g_iinc w d9_270 273 rfl rfl (by decide) #[.val (.ref t), .val (.ref hd), .val (.int (1 : Int32)), .val (.long sm), .second, .val (.int (1 : Int32)), .val (.int (1 : Int32)), .val (.int (2 : Int32)), .val (.long v27), .second, .val (.int (1 : Int32)), .val (.int (2 : Int32)), .val (.int (2 : Int32)), .val (.int (3 : Int32))] rfl ?_
                  refine g_goto w d9_273 225 (by decide) (by decide) ?_
                  refine g_iload w d9_225 rfl 227 rfl ?_
                  refine g_if_eq w d9_227 276 (by decide) (by decide) 230 rfl (fun h => absurd h (by decide)) (fun hc227 => ?_)
                  refine g_iload w d9_230 rfl 232 rfl ?_
                  refine g_iload w d9_232 rfl 234 rfl ?_
                  refine g_icmp_gt w d9_234 276 (by decide) (by decide) 237 rfl (fun hc234 => ?_) (fun h => absurd (by decide) h)
                  refine g_iload w d9_276 rfl 278 rfl ?_
                  refine g_iconst w d9_278 (1 : Int32) rfl 279 rfl ?_
                  refine g_iadd w d9_279 280 rfl ?_
                  refine g_int (x' := (2 : Int32)) (by decide) ?_
                  refine g_istore w d9_280 282 rfl rfl #[.val (.ref t), .val (.ref hd), .val (.int (1 : Int32)), .val (.long sm), .second, .val (.int (1 : Int32)), .val (.int (2 : Int32)), .val (.int (2 : Int32)), .val (.long v27), .second, .val (.int (1 : Int32)), .val (.int (2 : Int32)), .val (.int (2 : Int32)), .val (.int (3 : Int32))] rfl ?_
                  refine g_iload w d9_282 rfl 284 rfl ?_
                  refine g_iconst w d9_284 (1 : Int32) rfl 285 rfl ?_
                  refine g_isub w d9_285 286 rfl ?_
                  refine g_int (x' := (1 : Int32)) (by decide) ?_
                  refine g_istore w d9_286 288 rfl rfl #[.val (.ref t), .val (.ref hd), .val (.int (1 : Int32)), .val (.long sm), .second, .val (.int (1 : Int32)), .val (.int (2 : Int32)), .val (.int (1 : Int32)), .val (.long v27), .second, .val (.int (1 : Int32)), .val (.int (2 : Int32)), .val (.int (2 : Int32)), .val (.int (3 : Int32))] rfl ?_
                  refine g_goto w d9_288 14 (by decide) (by decide) ?_
                  refine g_iload w d9_14 rfl 16 rfl ?_
                  refine g_if_eq w d9_16 291 (by decide) (by decide) 19 rfl (fun h => absurd h (by decide)) (fun hc16 => ?_)
                  refine g_iload w d9_19 rfl 21 rfl ?_
                  refine g_iload w d9_21 rfl 23 rfl ?_
                  refine g_icmp_ge w d9_23 291 (by decide) (by decide) 26 rfl (fun hc23 => ?_) (fun h => absurd h (by decide))
                  refine g_iload w d9_291 rfl 293 rfl ?_
                  replace w := w.cut (L' := [(t, O_SmallGroups (.ref me) (.ref ki) (.int (4 : Int32)) (.ref ba) (.ref am) (.int mo) (.int (0 : Int32)) .null .null (.int ct_u33) .null .null (.long v26)), (sa, .inr (.long, [(.long x0), (.long x1), (.long x2), (.long x3)])), (ba, .inr (.int, [(.int (0 : Int32)), (.int (1 : Int32)), (.int (2 : Int32)), (.int (3 : Int32))])), (me, .inr (.int, ms_u33)), (ki, .inr (.byte, ks_u33)), (am, .inr (.long, [(.long x0), (.long x1), (.long x2), (.long x3)]))]) (R' := [(hd, .inr (.int, [(.int (0 : Int32))]))]) rfl
                  exact g_iretn w (by simp) d9_293 (by decide) (by decide) ⟨1, ct_u33, c_u33, ms_u33, ks_u33, v26, rfl, hct_u33, hG_u33, by omega, by omega, rfl, Or.inl ⟨rfl, by omega⟩⟩
                · -- pc 262 room 0
                  refine g_istore w d9_262 264 rfl rfl #[.val (.ref t), .val (.ref hd), .val (.int (1 : Int32)), .val (.long sm), .second, .val (.int (0 : Int32)), .val (.int (1 : Int32)), .val (.int (2 : Int32)), .val (.long v27), .second, .val (.int (1 : Int32)), .val (.int (2 : Int32)), .val (.int (1 : Int32)), .val (.int (2 : Int32))] rfl ?_
                  refine g_iinc w d9_264 267 rfl rfl (by decide) #[.val (.ref t), .val (.ref hd), .val (.int (1 : Int32)), .val (.long sm), .second, .val (.int (0 : Int32)), .val (.int (1 : Int32)), .val (.int (2 : Int32)), .val (.long v27), .second, .val (.int (1 : Int32)), .val (.int (2 : Int32)), .val (.int (1 : Int32)), .val (.int (3 : Int32))] rfl ?_
                  refine g_goto w d9_267 241 (by decide) (by decide) ?_
                  refine g_iload w d9_241 rfl 243 rfl ?_
                  refine g_if_eq w d9_243 270 (by decide) (by decide) 246 rfl (fun hc243 => ?_) (fun h => absurd (by decide) h)
                  refine g_iinc w d9_270 273 rfl rfl (by decide) #[.val (.ref t), .val (.ref hd), .val (.int (1 : Int32)), .val (.long sm), .second, .val (.int (0 : Int32)), .val (.int (1 : Int32)), .val (.int (2 : Int32)), .val (.long v27), .second, .val (.int (1 : Int32)), .val (.int (2 : Int32)), .val (.int (2 : Int32)), .val (.int (3 : Int32))] rfl ?_
                  refine g_goto w d9_273 225 (by decide) (by decide) ?_
                  refine g_iload w d9_225 rfl 227 rfl ?_
                  refine g_if_eq w d9_227 276 (by decide) (by decide) 230 rfl (fun hc227 => ?_) (fun h => absurd (by decide) h)
                  refine g_iload w d9_276 rfl 278 rfl ?_
                  refine g_iconst w d9_278 (1 : Int32) rfl 279 rfl ?_
                  refine g_iadd w d9_279 280 rfl ?_
                  refine g_int (x' := (2 : Int32)) (by decide) ?_
                  refine g_istore w d9_280 282 rfl rfl #[.val (.ref t), .val (.ref hd), .val (.int (1 : Int32)), .val (.long sm), .second, .val (.int (0 : Int32)), .val (.int (2 : Int32)), .val (.int (2 : Int32)), .val (.long v27), .second, .val (.int (1 : Int32)), .val (.int (2 : Int32)), .val (.int (2 : Int32)), .val (.int (3 : Int32))] rfl ?_
                  refine g_iload w d9_282 rfl 284 rfl ?_
                  refine g_iconst w d9_284 (1 : Int32) rfl 285 rfl ?_
                  refine g_isub w d9_285 286 rfl ?_
                  refine g_int (x' := (1 : Int32)) (by decide) ?_
                  refine g_istore w d9_286 288 rfl rfl #[.val (.ref t), .val (.ref hd), .val (.int (1 : Int32)), .val (.long sm), .second, .val (.int (0 : Int32)), .val (.int (2 : Int32)), .val (.int (1 : Int32)), .val (.long v27), .second, .val (.int (1 : Int32)), .val (.int (2 : Int32)), .val (.int (2 : Int32)), .val (.int (3 : Int32))] rfl ?_
                  refine g_goto w d9_288 14 (by decide) (by decide) ?_
                  refine g_iload w d9_14 rfl 16 rfl ?_
                  refine g_if_eq w d9_16 291 (by decide) (by decide) 19 rfl (fun hc16 => ?_) (fun h => absurd (by decide) h)
                  refine g_iload w d9_291 rfl 293 rfl ?_
                  replace w := w.cut (L' := [(t, O_SmallGroups (.ref me) (.ref ki) (.int (4 : Int32)) (.ref ba) (.ref am) (.int mo) (.int (0 : Int32)) .null .null (.int ct_u33) .null .null (.long v26)), (sa, .inr (.long, [(.long x0), (.long x1), (.long x2), (.long x3)])), (ba, .inr (.int, [(.int (0 : Int32)), (.int (1 : Int32)), (.int (2 : Int32)), (.int (3 : Int32))])), (me, .inr (.int, ms_u33)), (ki, .inr (.byte, ks_u33)), (am, .inr (.long, [(.long x0), (.long x1), (.long x2), (.long x3)]))]) (R' := [(hd, .inr (.int, [(.int (0 : Int32))]))]) rfl
                  exact g_iretn w (by simp) d9_293 (by decide) (by decide) ⟨0, ct_u33, c_u33, ms_u33, ks_u33, v26, rfl, hct_u33, hG_u33, by omega, by omega, rfl, Or.inr ⟨rfl, by omega⟩⟩
              · -- pc 215 (on: x1 = x2)
                have q34 := congrArg Int64.toInt hc212
                exfalso; omega
            · -- pc 185 (on: x2 = x1)
              have q35 := congrArg Int64.toInt hc182
              exfalso; omega
          · -- pc 97 (on: x1 = x2)
            have q36 := congrArg Int64.toInt hc94
            refine g_iload w d9_97 rfl 99 rfl ?_
            refine g_istore w d9_99 101 rfl rfl #[.val (.ref t), .val (.ref hd), .val (.int (1 : Int32)), .val (.long sm), .second, .val (.int (1 : Int32)), .val (.int (1 : Int32)), .val (.int (2 : Int32)), .val (.long v27), .second, .val (.int (1 : Int32)), .unset, .unset, .unset] rfl ?_
            refine g_iload w d9_101 rfl 103 rfl ?_
            refine g_if_eq w d9_103 154 (by decide) (by decide) 106 rfl (fun h => absurd h (by decide)) (fun hc103 => ?_)
            refine g_iload w d9_106 rfl 108 rfl ?_
            refine g_iload w d9_108 rfl 110 rfl ?_
            refine g_icmp_ge w d9_110 154 (by decide) (by decide) 113 rfl (fun h => absurd (by decide) h) (fun hc110 => ?_)
            refine g_iload w d9_113 rfl 115 rfl ?_
            refine g_iconst w d9_115 (1 : Int32) rfl 116 rfl ?_
            refine g_iadd w d9_116 117 rfl ?_
            refine g_int (x' := (2 : Int32)) (by decide) ?_
            refine g_istore w d9_117 119 rfl rfl #[.val (.ref t), .val (.ref hd), .val (.int (1 : Int32)), .val (.long sm), .second, .val (.int (1 : Int32)), .val (.int (1 : Int32)), .val (.int (2 : Int32)), .val (.long v27), .second, .val (.int (1 : Int32)), .val (.int (2 : Int32)), .unset, .unset] rfl ?_
            refine g_iload w d9_119 rfl 121 rfl ?_
            refine g_if_eq w d9_121 148 (by decide) (by decide) 124 rfl (fun h => absurd h (by decide)) (fun hc121 => ?_)
            refine g_iload w d9_124 rfl 126 rfl ?_
            refine g_iload w d9_126 rfl 128 rfl ?_
            refine g_icmp_gt w d9_128 148 (by decide) (by decide) 131 rfl (fun h => absurd h (by decide)) (fun hc128 => ?_)
            refine g_aloadN w d9_131 rfl rfl 132 rfl ?_
            refine g_aloadN w d9_132 rfl rfl 133 rfl ?_
            refine g_iload w d9_133 rfl 135 rfl ?_
            refine g_iload w d9_135 rfl 137 rfl ?_
            refine g_priv w (argsL := [(.ref hd), (.int (1 : Int32)), (.int (2 : Int32))]) (rest := []) (rm11_1 l Z a0 hw n0 t sa ba me ki am hd x0 x1 x2 x3 mo ct v26 ms ks c M 0 1 2 0 1 2 x0 x1 x2 hmo hM hct (by omega) hG rfl (by decide) rfl rfl N0 rfl (by decide) rfl rfl N1 rfl (by decide) rfl rfl N2 (by omega)) d9_137 0 rfl 77 rfl 78 rfl 10 rfl 80 rfl 79 rfl 9 rfl ⟨by decide, by decide⟩ pd_1 rfl rfl rfl 0 rfl (by decide) (by decide) (by decide) (by decide) 140 rfl (fun T v L w h => ?_)
            obtain ⟨rr, ct_u37, c_u37, ms_u37, ks_u37, rfl, hct_u37, hG_u37, hL, hor⟩ := h
            replace w := w.to hL
            rcases hor with ⟨rfl, hk_u37, hm_u37⟩ | ⟨rfl, hk_u37, hm_u37⟩
            · -- pc 140 room 1
              refine g_istore w d9_140 142 rfl rfl #[.val (.ref t), .val (.ref hd), .val (.int (1 : Int32)), .val (.long sm), .second, .val (.int (1 : Int32)), .val (.int (1 : Int32)), .val (.int (2 : Int32)), .val (.long v27), .second, .val (.int (1 : Int32)), .val (.int (2 : Int32)), .unset, .unset] rfl ?_
              refine g_iinc w d9_142 145 rfl rfl (by decide) #[.val (.ref t), .val (.ref hd), .val (.int (1 : Int32)), .val (.long sm), .second, .val (.int (1 : Int32)), .val (.int (1 : Int32)), .val (.int (2 : Int32)), .val (.long v27), .second, .val (.int (1 : Int32)), .val (.int (3 : Int32)), .unset, .unset] rfl ?_
              refine g_goto w d9_145 119 (by decide) (by decide) ?_
              refine g_iload w d9_119 rfl 121 rfl ?_
              refine g_if_eq w d9_121 148 (by decide) (by decide) 124 rfl (fun h => absurd h (by decide)) (fun hc121 => ?_)
              refine g_iload w d9_124 rfl 126 rfl ?_
              refine g_iload w d9_126 rfl 128 rfl ?_
              refine g_icmp_gt w d9_128 148 (by decide) (by decide) 131 rfl (fun hc128 => ?_) (fun h => absurd (by decide) h)
              refine g_iinc w d9_148 151 rfl rfl (by decide) #[.val (.ref t), .val (.ref hd), .val (.int (1 : Int32)), .val (.long sm), .second, .val (.int (1 : Int32)), .val (.int (1 : Int32)), .val (.int (2 : Int32)), .val (.long v27), .second, .val (.int (2 : Int32)), .val (.int (3 : Int32)), .unset, .unset] rfl ?_
              refine g_goto w d9_151 101 (by decide) (by decide) ?_
              refine g_iload w d9_101 rfl 103 rfl ?_
              refine g_if_eq w d9_103 154 (by decide) (by decide) 106 rfl (fun h => absurd h (by decide)) (fun hc103 => ?_)
              refine g_iload w d9_106 rfl 108 rfl ?_
              refine g_iload w d9_108 rfl 110 rfl ?_
              refine g_icmp_ge w d9_110 154 (by decide) (by decide) 113 rfl (fun hc110 => ?_) (fun h => absurd h (by decide))
              refine g_iload w d9_154 rfl 156 rfl ?_
              refine g_istore w d9_156 158 rfl rfl #[.val (.ref t), .val (.ref hd), .val (.int (1 : Int32)), .val (.long sm), .second, .val (.int (1 : Int32)), .val (.int (2 : Int32)), .val (.int (2 : Int32)), .val (.long v27), .second, .val (.int (2 : Int32)), .val (.int (3 : Int32)), .unset, .unset] rfl ?_
              refine g_goto w d9_158 288 (by decide) (by decide) ?_
              refine g_goto w d9_288 14 (by decide) (by decide) ?_
              refine g_iload w d9_14 rfl 16 rfl ?_
              refine g_if_eq w d9_16 291 (by decide) (by decide) 19 rfl (fun h => absurd h (by decide)) (fun hc16 => ?_)
              refine g_iload w d9_19 rfl 21 rfl ?_
              refine g_iload w d9_21 rfl 23 rfl ?_
              refine g_icmp_ge w d9_23 291 (by decide) (by decide) 26 rfl (fun hc23 => ?_) (fun h => absurd h (by decide))
              refine g_iload w d9_291 rfl 293 rfl ?_
              replace w := w.cut (L' := [(t, O_SmallGroups (.ref me) (.ref ki) (.int (4 : Int32)) (.ref ba) (.ref am) (.int mo) (.int (0 : Int32)) .null .null (.int ct_u37) .null .null (.long v26)), (sa, .inr (.long, [(.long x0), (.long x1), (.long x2), (.long x3)])), (ba, .inr (.int, [(.int (0 : Int32)), (.int (1 : Int32)), (.int (2 : Int32)), (.int (3 : Int32))])), (me, .inr (.int, ms_u37)), (ki, .inr (.byte, ks_u37)), (am, .inr (.long, [(.long x0), (.long x1), (.long x2), (.long x3)]))]) (R' := [(hd, .inr (.int, [(.int (0 : Int32))]))]) rfl
              exact g_iretn w (by simp) d9_293 (by decide) (by decide) ⟨1, ct_u37, c_u37, ms_u37, ks_u37, v26, rfl, hct_u37, hG_u37, by omega, by omega, rfl, Or.inl ⟨rfl, by omega⟩⟩
            · -- pc 140 room 0
              refine g_istore w d9_140 142 rfl rfl #[.val (.ref t), .val (.ref hd), .val (.int (1 : Int32)), .val (.long sm), .second, .val (.int (0 : Int32)), .val (.int (1 : Int32)), .val (.int (2 : Int32)), .val (.long v27), .second, .val (.int (1 : Int32)), .val (.int (2 : Int32)), .unset, .unset] rfl ?_
              refine g_iinc w d9_142 145 rfl rfl (by decide) #[.val (.ref t), .val (.ref hd), .val (.int (1 : Int32)), .val (.long sm), .second, .val (.int (0 : Int32)), .val (.int (1 : Int32)), .val (.int (2 : Int32)), .val (.long v27), .second, .val (.int (1 : Int32)), .val (.int (3 : Int32)), .unset, .unset] rfl ?_
              refine g_goto w d9_145 119 (by decide) (by decide) ?_
              refine g_iload w d9_119 rfl 121 rfl ?_
              refine g_if_eq w d9_121 148 (by decide) (by decide) 124 rfl (fun hc121 => ?_) (fun h => absurd (by decide) h)
              refine g_iinc w d9_148 151 rfl rfl (by decide) #[.val (.ref t), .val (.ref hd), .val (.int (1 : Int32)), .val (.long sm), .second, .val (.int (0 : Int32)), .val (.int (1 : Int32)), .val (.int (2 : Int32)), .val (.long v27), .second, .val (.int (2 : Int32)), .val (.int (3 : Int32)), .unset, .unset] rfl ?_
              refine g_goto w d9_151 101 (by decide) (by decide) ?_
              refine g_iload w d9_101 rfl 103 rfl ?_
              refine g_if_eq w d9_103 154 (by decide) (by decide) 106 rfl (fun hc103 => ?_) (fun h => absurd (by decide) h)
              refine g_iload w d9_154 rfl 156 rfl ?_
              refine g_istore w d9_156 158 rfl rfl #[.val (.ref t), .val (.ref hd), .val (.int (1 : Int32)), .val (.long sm), .second, .val (.int (0 : Int32)), .val (.int (2 : Int32)), .val (.int (2 : Int32)), .val (.long v27), .second, .val (.int (2 : Int32)), .val (.int (3 : Int32)), .unset, .unset] rfl ?_
              refine g_goto w d9_158 288 (by decide) (by decide) ?_
              refine g_goto w d9_288 14 (by decide) (by decide) ?_
              refine g_iload w d9_14 rfl 16 rfl ?_
              refine g_if_eq w d9_16 291 (by decide) (by decide) 19 rfl (fun hc16 => ?_) (fun h => absurd (by decide) h)
              refine g_iload w d9_291 rfl 293 rfl ?_
              replace w := w.cut (L' := [(t, O_SmallGroups (.ref me) (.ref ki) (.int (4 : Int32)) (.ref ba) (.ref am) (.int mo) (.int (0 : Int32)) .null .null (.int ct_u37) .null .null (.long v26)), (sa, .inr (.long, [(.long x0), (.long x1), (.long x2), (.long x3)])), (ba, .inr (.int, [(.int (0 : Int32)), (.int (1 : Int32)), (.int (2 : Int32)), (.int (3 : Int32))])), (me, .inr (.int, ms_u37)), (ki, .inr (.byte, ks_u37)), (am, .inr (.long, [(.long x0), (.long x1), (.long x2), (.long x3)]))]) (R' := [(hd, .inr (.int, [(.int (0 : Int32))]))]) rfl
              exact g_iretn w (by simp) d9_293 (by decide) (by decide) ⟨0, ct_u37, c_u37, ms_u37, ks_u37, v26, rfl, hct_u37, hG_u37, by omega, by omega, rfl, Or.inr ⟨rfl, by omega⟩⟩
        · -- pc 73 (on: sm < v27)
          have q38 := (own_ltL hsm hp_v27).mp hc70
          refine g_iinc w d9_73 76 rfl rfl (by decide) #[.val (.ref t), .val (.ref hd), .val (.int (1 : Int32)), .val (.long sm), .second, .val (.int (1 : Int32)), .val (.int (1 : Int32)), .val (.int (1 : Int32)), .val (.long v27), .second, .unset, .unset, .unset, .unset] rfl ?_
          refine g_goto w d9_76 288 (by decide) (by decide) ?_
          refine g_goto w d9_288 14 (by decide) (by decide) ?_
          refine g_iload w d9_14 rfl 16 rfl ?_
          refine g_if_eq w d9_16 291 (by decide) (by decide) 19 rfl (fun h => absurd h (by decide)) (fun hc16 => ?_)
          refine g_iload w d9_19 rfl 21 rfl ?_
          refine g_iload w d9_21 rfl 23 rfl ?_
          refine g_icmp_ge w d9_23 291 (by decide) (by decide) 26 rfl (fun hc23 => ?_) (fun h => absurd h (by decide))
          refine g_iload w d9_291 rfl 293 rfl ?_
          replace w := w.cut (L' := [(t, O_SmallGroups (.ref me) (.ref ki) (.int (4 : Int32)) (.ref ba) (.ref am) (.int mo) (.int (0 : Int32)) .null .null (.int ct) .null .null (.long v26)), (sa, .inr (.long, [(.long x0), (.long x1), (.long x2), (.long x3)])), (ba, .inr (.int, [(.int (0 : Int32)), (.int (1 : Int32)), (.int (2 : Int32)), (.int (3 : Int32))])), (me, .inr (.int, ms)), (ki, .inr (.byte, ks)), (am, .inr (.long, [(.long x0), (.long x1), (.long x2), (.long x3)]))]) (R' := [(hd, .inr (.int, [(.int (0 : Int32))]))]) rfl
          exact g_iretn w (by simp) d9_293 (by decide) (by decide) ⟨1, ct, c, ms, ks, v26, rfl, hct, hG, by omega, by omega, rfl, Or.inl ⟨rfl, by omega⟩⟩
      · -- pc 60 (on: v27 < sm)
        have q39 := (own_ltL hp_v27 hsm).mp hc57
        refine g_iinc w d9_60 63 rfl rfl (by decide) #[.val (.ref t), .val (.ref hd), .val (.int (1 : Int32)), .val (.long sm), .second, .val (.int (1 : Int32)), .val (.int (2 : Int32)), .val (.int (2 : Int32)), .val (.long v27), .second, .unset, .unset, .unset, .unset] rfl ?_
        refine g_goto w d9_63 288 (by decide) (by decide) ?_
        refine g_goto w d9_288 14 (by decide) (by decide) ?_
        refine g_iload w d9_14 rfl 16 rfl ?_
        refine g_if_eq w d9_16 291 (by decide) (by decide) 19 rfl (fun h => absurd h (by decide)) (fun hc16 => ?_)
        refine g_iload w d9_19 rfl 21 rfl ?_
        refine g_iload w d9_21 rfl 23 rfl ?_
        refine g_icmp_ge w d9_23 291 (by decide) (by decide) 26 rfl (fun hc23 => ?_) (fun h => absurd h (by decide))
        refine g_iload w d9_291 rfl 293 rfl ?_
        replace w := w.cut (L' := [(t, O_SmallGroups (.ref me) (.ref ki) (.int (4 : Int32)) (.ref ba) (.ref am) (.int mo) (.int (0 : Int32)) .null .null (.int ct) .null .null (.long v26)), (sa, .inr (.long, [(.long x0), (.long x1), (.long x2), (.long x3)])), (ba, .inr (.int, [(.int (0 : Int32)), (.int (1 : Int32)), (.int (2 : Int32)), (.int (3 : Int32))])), (me, .inr (.int, ms)), (ki, .inr (.byte, ks)), (am, .inr (.long, [(.long x0), (.long x1), (.long x2), (.long x3)]))]) (R' := [(hd, .inr (.int, [(.int (0 : Int32))]))]) rfl
        exact g_iretn w (by simp) d9_293 (by decide) (by decide) ⟨1, ct, c, ms, ks, v26, rfl, hct, hG, by omega, by omega, rfl, Or.inl ⟨rfl, by omega⟩⟩
  · -- pc 60 (on: v2 < sm)
    have q40 := (own_ltL hp_v2 hsm).mp hc57
    refine g_iinc w d9_60 63 rfl rfl (by decide) #[.val (.ref t), .val (.ref hd), .val (.int (1 : Int32)), .val (.long sm), .second, .val (.int (1 : Int32)), .val (.int (2 : Int32)), .val (.int (3 : Int32)), .val (.long v2), .second, .unset, .unset, .unset, .unset] rfl ?_
    refine g_goto w d9_63 288 (by decide) (by decide) ?_
    refine g_goto w d9_288 14 (by decide) (by decide) ?_
    refine g_iload w d9_14 rfl 16 rfl ?_
    refine g_if_eq w d9_16 291 (by decide) (by decide) 19 rfl (fun h => absurd h (by decide)) (fun hc16 => ?_)
    refine g_iload w d9_19 rfl 21 rfl ?_
    refine g_iload w d9_21 rfl 23 rfl ?_
    refine g_icmp_ge w d9_23 291 (by decide) (by decide) 26 rfl (fun h => absurd (by decide) h) (fun hc23 => ?_)
    refine g_aloadN w d9_26 rfl rfl 27 rfl ?_
    refine g_dup w d9_27 rfl 28 rfl ?_
    refine g_getf w d9_28 0 rfl 12 rfl 57 rfl Via.refl 31 rfl (fun T w => ?_)
    refine g_lconst w d9_31 (1 : Int64) rfl 32 rfl ?_
    refine g_ladd w d9_32 33 rfl ?_
    obtain ⟨v41, hv41⟩ : ∃ own_z, own_z = ((v1 + (1 : Int64)) : Int64) := ⟨_, rfl⟩
    refine g_long hv41.symm ?_
    refine g_putf w d9_33 0 rfl 12 rfl 57 rfl Via.refl 58 (Or.inl rfl) 9 rfl (ty := .long) (by decide) rfl rfl 36 rfl (fun T w => ?_)
    replace w := w.to (L' := [(t, O_SmallGroups (.ref me) (.ref ki) (.int (4 : Int32)) (.ref ba) (.ref am) (.int mo) (.int (0 : Int32)) .null .null (.int ct) .null .null (.long v41)), (sa, .inr (.long, [(.long x0), (.long x1), (.long x2), (.long x3)])), (ba, .inr (.int, [(.int (0 : Int32)), (.int (1 : Int32)), (.int (2 : Int32)), (.int (3 : Int32))])), (me, .inr (.int, ms)), (ki, .inr (.byte, ks)), (am, .inr (.long, [(.long x0), (.long x1), (.long x2), (.long x3)])), (hd, .inr (.int, [(.int (0 : Int32))]))]) rfl
    refine g_aloadN w d9_36 rfl rfl 37 rfl ?_
    refine g_getf w d9_37 0 rfl 4 rfl 28 rfl Via.refl 40 rfl (fun T w => ?_)
    refine g_iload w d9_40 rfl 42 rfl ?_
    refine g_laload w d9_42 5 rfl 2 (by decide) rfl 43 rfl ?_
    refine g_aloadN w d9_43 rfl rfl 44 rfl ?_
    refine g_getf w d9_44 0 rfl 4 rfl 28 rfl Via.refl 47 rfl (fun T w => ?_)
    refine g_iload w d9_47 rfl 49 rfl ?_
    refine g_laload w d9_49 5 rfl 3 (by decide) rfl 50 rfl ?_
    refine g_ladd w d9_50 51 rfl ?_
    obtain ⟨v42, hv42⟩ : ∃ own_z, own_z = ((x2 + x3) : Int64) := ⟨_, rfl⟩
    refine g_lstore w d9_51 53 rfl hv42.symm #[.val (.ref t), .val (.ref hd), .val (.int (1 : Int32)), .val (.long sm), .second, .val (.int (1 : Int32)), .val (.int (2 : Int32)), .val (.int (3 : Int32)), .val (.long v42), .second, .unset, .unset, .unset, .unset] rfl ?_
    have hp_v42 : v42.toInt = x2.toInt + x3.toInt := by rw [hv42]; exact own_ladd rfl rfl (by omega) (by omega) (by omega) (by omega)
    refine g_lload w d9_53 rfl 55 rfl ?_
    refine g_lloadN w d9_55 rfl 56 rfl ?_
    refine g_lcmp w d9_56 57 rfl ?_
    refine g_lif_ge w d9_57 66 (by decide) (by decide) 60 rfl (fun hc57 => ?_) (fun hc57 => ?_)
    · -- pc 66 (taken: not v42 < sm)
      have q43 := mt (own_ltL hp_v42 hsm).mpr hc57
      refine g_lload w d9_66 rfl 68 rfl ?_
      refine g_lloadN w d9_68 rfl 69 rfl ?_
      refine g_lcmp w d9_69 70 rfl ?_
      refine g_lif_le w d9_70 79 (by decide) (by decide) 73 rfl (fun hc70 => ?_) (fun hc70 => ?_)
      · -- pc 79 (taken: not sm < v42)
        have q44 := mt (own_ltL hsm hp_v42).mpr hc70
        refine g_aloadN w d9_79 rfl rfl 80 rfl ?_
        refine g_getf w d9_80 0 rfl 4 rfl 28 rfl Via.refl 83 rfl (fun T w => ?_)
        refine g_iload w d9_83 rfl 85 rfl ?_
        refine g_laload w d9_85 5 rfl 2 (by decide) rfl 86 rfl ?_
        refine g_aloadN w d9_86 rfl rfl 87 rfl ?_
        refine g_getf w d9_87 0 rfl 4 rfl 28 rfl Via.refl 90 rfl (fun T w => ?_)
        refine g_iload w d9_90 rfl 92 rfl ?_
        refine g_laload w d9_92 5 rfl 3 (by decide) rfl 93 rfl ?_
        refine g_lcmp w d9_93 94 rfl ?_
        refine g_lif_ne w d9_94 161 (by decide) (by decide) 97 rfl (fun hc94 => ?_) (fun hc94 => ?_)
        · -- pc 161 (taken: not x2 = x3)
          have q45 := mt Int64.toInt_inj.mp hc94
          refine g_iload w d9_161 rfl 163 rfl ?_
          refine g_istore w d9_163 165 rfl rfl #[.val (.ref t), .val (.ref hd), .val (.int (1 : Int32)), .val (.long sm), .second, .val (.int (1 : Int32)), .val (.int (2 : Int32)), .val (.int (3 : Int32)), .val (.long v42), .second, .val (.int (2 : Int32)), .unset, .unset, .unset] rfl ?_
          refine g_aloadN w d9_165 rfl rfl 166 rfl ?_
          refine g_getf w d9_166 0 rfl 4 rfl 28 rfl Via.refl 169 rfl (fun T w => ?_)
          refine g_iload w d9_169 rfl 171 rfl ?_
          refine g_iconst w d9_171 (1 : Int32) rfl 172 rfl ?_
          refine g_iadd w d9_172 173 rfl ?_
          refine g_int (x' := (3 : Int32)) (by decide) ?_
          refine g_laload w d9_173 5 rfl 3 (by decide) rfl 174 rfl ?_
          refine g_aloadN w d9_174 rfl rfl 175 rfl ?_
          refine g_getf w d9_175 0 rfl 4 rfl 28 rfl Via.refl 178 rfl (fun T w => ?_)
          refine g_iload w d9_178 rfl 180 rfl ?_
          refine g_laload w d9_180 5 rfl 2 (by decide) rfl 181 rfl ?_
          refine g_lcmp w d9_181 182 rfl ?_
          refine g_lif_ne w d9_182 191 (by decide) (by decide) 185 rfl (fun hc182 => ?_) (fun hc182 => ?_)
          · -- pc 191 (taken: not x3 = x2)
            have q46 := mt Int64.toInt_inj.mp hc182
            refine g_iload w d9_191 rfl 193 rfl ?_
            refine g_istore w d9_193 195 rfl rfl #[.val (.ref t), .val (.ref hd), .val (.int (1 : Int32)), .val (.long sm), .second, .val (.int (1 : Int32)), .val (.int (2 : Int32)), .val (.int (3 : Int32)), .val (.long v42), .second, .val (.int (2 : Int32)), .val (.int (3 : Int32)), .unset, .unset] rfl ?_
            refine g_aloadN w d9_195 rfl rfl 196 rfl ?_
            refine g_getf w d9_196 0 rfl 4 rfl 28 rfl Via.refl 199 rfl (fun T w => ?_)
            refine g_iload w d9_199 rfl 201 rfl ?_
            refine g_iconst w d9_201 (1 : Int32) rfl 202 rfl ?_
            refine g_isub w d9_202 203 rfl ?_
            refine g_int (x' := (2 : Int32)) (by decide) ?_
            refine g_laload w d9_203 5 rfl 2 (by decide) rfl 204 rfl ?_
            refine g_aloadN w d9_204 rfl rfl 205 rfl ?_
            refine g_getf w d9_205 0 rfl 4 rfl 28 rfl Via.refl 208 rfl (fun T w => ?_)
            refine g_iload w d9_208 rfl 210 rfl ?_
            refine g_laload w d9_210 5 rfl 3 (by decide) rfl 211 rfl ?_
            refine g_lcmp w d9_211 212 rfl ?_
            refine g_lif_ne w d9_212 221 (by decide) (by decide) 215 rfl (fun hc212 => ?_) (fun hc212 => ?_)
            · -- pc 221 (taken: not x2 = x3)
              have q47 := mt Int64.toInt_inj.mp hc212
              refine g_iload w d9_221 rfl 223 rfl ?_
              refine g_istore w d9_223 225 rfl rfl #[.val (.ref t), .val (.ref hd), .val (.int (1 : Int32)), .val (.long sm), .second, .val (.int (1 : Int32)), .val (.int (2 : Int32)), .val (.int (3 : Int32)), .val (.long v42), .second, .val (.int (2 : Int32)), .val (.int (3 : Int32)), .val (.int (2 : Int32)), .unset] rfl ?_
              refine g_iload w d9_225 rfl 227 rfl ?_
              refine g_if_eq w d9_227 276 (by decide) (by decide) 230 rfl (fun h => absurd h (by decide)) (fun hc227 => ?_)
              refine g_iload w d9_230 rfl 232 rfl ?_
              refine g_iload w d9_232 rfl 234 rfl ?_
              refine g_icmp_gt w d9_234 276 (by decide) (by decide) 237 rfl (fun h => absurd h (by decide)) (fun hc234 => ?_)
              refine g_iload w d9_237 rfl 239 rfl ?_
              refine g_istore w d9_239 241 rfl rfl #[.val (.ref t), .val (.ref hd), .val (.int (1 : Int32)), .val (.long sm), .second, .val (.int (1 : Int32)), .val (.int (2 : Int32)), .val (.int (3 : Int32)), .val (.long v42), .second, .val (.int (2 : Int32)), .val (.int (3 : Int32)), .val (.int (2 : Int32)), .val (.int (3 : Int32))] rfl ?_
              refine g_iload w d9_241 rfl 243 rfl ?_
              refine g_if_eq w d9_243 270 (by decide) (by decide) 246 rfl (fun h => absurd h (by decide)) (fun hc243 => ?_)
              refine g_iload w d9_246 rfl 248 rfl ?_
              refine g_iload w d9_248 rfl 250 rfl ?_
              refine g_icmp_gt w d9_250 270 (by decide) (by decide) 253 rfl (fun h => absurd h (by decide)) (fun hc250 => ?_)
              refine g_aloadN w d9_253 rfl rfl 254 rfl ?_
              refine g_aloadN w d9_254 rfl rfl 255 rfl ?_
              refine g_iload w d9_255 rfl 257 rfl ?_
              refine g_iload w d9_257 rfl 259 rfl ?_
              refine g_priv w (argsL := [(.ref hd), (.int (2 : Int32)), (.int (3 : Int32))]) (rest := []) (rm11_1 l Z a0 hw n0 t sa ba me ki am hd x0 x1 x2 x3 mo ct v41 ms ks c M 0 2 3 0 2 3 x0 x2 x3 hmo hM hct (by omega) hG rfl (by decide) rfl rfl N0 rfl (by decide) rfl rfl N2 rfl (by decide) rfl rfl N3 (by omega)) d9_259 0 rfl 77 rfl 78 rfl 10 rfl 80 rfl 79 rfl 9 rfl ⟨by decide, by decide⟩ pd_1 rfl rfl rfl 0 rfl (by decide) (by decide) (by decide) (by decide) 262 rfl (fun T v L w h => ?_)
              obtain ⟨rr, ct_u48, c_u48, ms_u48, ks_u48, rfl, hct_u48, hG_u48, hL, hor⟩ := h
              replace w := w.to hL
              rcases hor with ⟨rfl, hk_u48, hm_u48⟩ | ⟨rfl, hk_u48, hm_u48⟩
              · -- pc 262 room 1
                refine g_istore w d9_262 264 rfl rfl #[.val (.ref t), .val (.ref hd), .val (.int (1 : Int32)), .val (.long sm), .second, .val (.int (1 : Int32)), .val (.int (2 : Int32)), .val (.int (3 : Int32)), .val (.long v42), .second, .val (.int (2 : Int32)), .val (.int (3 : Int32)), .val (.int (2 : Int32)), .val (.int (3 : Int32))] rfl ?_
                refine g_iinc w d9_264 267 rfl rfl (by decide) #[.val (.ref t), .val (.ref hd), .val (.int (1 : Int32)), .val (.long sm), .second, .val (.int (1 : Int32)), .val (.int (2 : Int32)), .val (.int (3 : Int32)), .val (.long v42), .second, .val (.int (2 : Int32)), .val (.int (3 : Int32)), .val (.int (2 : Int32)), .val (.int (4 : Int32))] rfl ?_
                refine g_goto w d9_267 241 (by decide) (by decide) ?_
                refine g_iload w d9_241 rfl 243 rfl ?_
                refine g_if_eq w d9_243 270 (by decide) (by decide) 246 rfl (fun h => absurd h (by decide)) (fun hc243 => ?_)
                refine g_iload w d9_246 rfl 248 rfl ?_
                refine g_iload w d9_248 rfl 250 rfl ?_
                refine g_icmp_gt w d9_250 270 (by decide) (by decide) 253 rfl (fun hc250 => ?_) (fun h => absurd (by decide) h)
                refine g_iinc w d9_270 273 rfl rfl (by decide) #[.val (.ref t), .val (.ref hd), .val (.int (1 : Int32)), .val (.long sm), .second, .val (.int (1 : Int32)), .val (.int (2 : Int32)), .val (.int (3 : Int32)), .val (.long v42), .second, .val (.int (2 : Int32)), .val (.int (3 : Int32)), .val (.int (3 : Int32)), .val (.int (4 : Int32))] rfl ?_
                refine g_goto w d9_273 225 (by decide) (by decide) ?_
                refine g_iload w d9_225 rfl 227 rfl ?_
                refine g_if_eq w d9_227 276 (by decide) (by decide) 230 rfl (fun h => absurd h (by decide)) (fun hc227 => ?_)
                refine g_iload w d9_230 rfl 232 rfl ?_
                refine g_iload w d9_232 rfl 234 rfl ?_
                refine g_icmp_gt w d9_234 276 (by decide) (by decide) 237 rfl (fun hc234 => ?_) (fun h => absurd (by decide) h)
                refine g_iload w d9_276 rfl 278 rfl ?_
                refine g_iconst w d9_278 (1 : Int32) rfl 279 rfl ?_
                refine g_iadd w d9_279 280 rfl ?_
                refine g_int (x' := (3 : Int32)) (by decide) ?_
                refine g_istore w d9_280 282 rfl rfl #[.val (.ref t), .val (.ref hd), .val (.int (1 : Int32)), .val (.long sm), .second, .val (.int (1 : Int32)), .val (.int (3 : Int32)), .val (.int (3 : Int32)), .val (.long v42), .second, .val (.int (2 : Int32)), .val (.int (3 : Int32)), .val (.int (3 : Int32)), .val (.int (4 : Int32))] rfl ?_
                refine g_iload w d9_282 rfl 284 rfl ?_
                refine g_iconst w d9_284 (1 : Int32) rfl 285 rfl ?_
                refine g_isub w d9_285 286 rfl ?_
                refine g_int (x' := (2 : Int32)) (by decide) ?_
                refine g_istore w d9_286 288 rfl rfl #[.val (.ref t), .val (.ref hd), .val (.int (1 : Int32)), .val (.long sm), .second, .val (.int (1 : Int32)), .val (.int (3 : Int32)), .val (.int (2 : Int32)), .val (.long v42), .second, .val (.int (2 : Int32)), .val (.int (3 : Int32)), .val (.int (3 : Int32)), .val (.int (4 : Int32))] rfl ?_
                refine g_goto w d9_288 14 (by decide) (by decide) ?_
                refine g_iload w d9_14 rfl 16 rfl ?_
                refine g_if_eq w d9_16 291 (by decide) (by decide) 19 rfl (fun h => absurd h (by decide)) (fun hc16 => ?_)
                refine g_iload w d9_19 rfl 21 rfl ?_
                refine g_iload w d9_21 rfl 23 rfl ?_
                refine g_icmp_ge w d9_23 291 (by decide) (by decide) 26 rfl (fun hc23 => ?_) (fun h => absurd h (by decide))
                refine g_iload w d9_291 rfl 293 rfl ?_
                replace w := w.cut (L' := [(t, O_SmallGroups (.ref me) (.ref ki) (.int (4 : Int32)) (.ref ba) (.ref am) (.int mo) (.int (0 : Int32)) .null .null (.int ct_u48) .null .null (.long v41)), (sa, .inr (.long, [(.long x0), (.long x1), (.long x2), (.long x3)])), (ba, .inr (.int, [(.int (0 : Int32)), (.int (1 : Int32)), (.int (2 : Int32)), (.int (3 : Int32))])), (me, .inr (.int, ms_u48)), (ki, .inr (.byte, ks_u48)), (am, .inr (.long, [(.long x0), (.long x1), (.long x2), (.long x3)]))]) (R' := [(hd, .inr (.int, [(.int (0 : Int32))]))]) rfl
                exact g_iretn w (by simp) d9_293 (by decide) (by decide) ⟨1, ct_u48, c_u48, ms_u48, ks_u48, v41, rfl, hct_u48, hG_u48, by omega, by omega, rfl, Or.inl ⟨rfl, by omega⟩⟩
              · -- pc 262 room 0
                refine g_istore w d9_262 264 rfl rfl #[.val (.ref t), .val (.ref hd), .val (.int (1 : Int32)), .val (.long sm), .second, .val (.int (0 : Int32)), .val (.int (2 : Int32)), .val (.int (3 : Int32)), .val (.long v42), .second, .val (.int (2 : Int32)), .val (.int (3 : Int32)), .val (.int (2 : Int32)), .val (.int (3 : Int32))] rfl ?_
                refine g_iinc w d9_264 267 rfl rfl (by decide) #[.val (.ref t), .val (.ref hd), .val (.int (1 : Int32)), .val (.long sm), .second, .val (.int (0 : Int32)), .val (.int (2 : Int32)), .val (.int (3 : Int32)), .val (.long v42), .second, .val (.int (2 : Int32)), .val (.int (3 : Int32)), .val (.int (2 : Int32)), .val (.int (4 : Int32))] rfl ?_
                refine g_goto w d9_267 241 (by decide) (by decide) ?_
                refine g_iload w d9_241 rfl 243 rfl ?_
                refine g_if_eq w d9_243 270 (by decide) (by decide) 246 rfl (fun hc243 => ?_) (fun h => absurd (by decide) h)
                refine g_iinc w d9_270 273 rfl rfl (by decide) #[.val (.ref t), .val (.ref hd), .val (.int (1 : Int32)), .val (.long sm), .second, .val (.int (0 : Int32)), .val (.int (2 : Int32)), .val (.int (3 : Int32)), .val (.long v42), .second, .val (.int (2 : Int32)), .val (.int (3 : Int32)), .val (.int (3 : Int32)), .val (.int (4 : Int32))] rfl ?_
                refine g_goto w d9_273 225 (by decide) (by decide) ?_
                refine g_iload w d9_225 rfl 227 rfl ?_
                refine g_if_eq w d9_227 276 (by decide) (by decide) 230 rfl (fun hc227 => ?_) (fun h => absurd (by decide) h)
                refine g_iload w d9_276 rfl 278 rfl ?_
                refine g_iconst w d9_278 (1 : Int32) rfl 279 rfl ?_
                refine g_iadd w d9_279 280 rfl ?_
                refine g_int (x' := (3 : Int32)) (by decide) ?_
                refine g_istore w d9_280 282 rfl rfl #[.val (.ref t), .val (.ref hd), .val (.int (1 : Int32)), .val (.long sm), .second, .val (.int (0 : Int32)), .val (.int (3 : Int32)), .val (.int (3 : Int32)), .val (.long v42), .second, .val (.int (2 : Int32)), .val (.int (3 : Int32)), .val (.int (3 : Int32)), .val (.int (4 : Int32))] rfl ?_
                refine g_iload w d9_282 rfl 284 rfl ?_
                refine g_iconst w d9_284 (1 : Int32) rfl 285 rfl ?_
                refine g_isub w d9_285 286 rfl ?_
                refine g_int (x' := (2 : Int32)) (by decide) ?_
                refine g_istore w d9_286 288 rfl rfl #[.val (.ref t), .val (.ref hd), .val (.int (1 : Int32)), .val (.long sm), .second, .val (.int (0 : Int32)), .val (.int (3 : Int32)), .val (.int (2 : Int32)), .val (.long v42), .second, .val (.int (2 : Int32)), .val (.int (3 : Int32)), .val (.int (3 : Int32)), .val (.int (4 : Int32))] rfl ?_
                refine g_goto w d9_288 14 (by decide) (by decide) ?_
                refine g_iload w d9_14 rfl 16 rfl ?_
                refine g_if_eq w d9_16 291 (by decide) (by decide) 19 rfl (fun hc16 => ?_) (fun h => absurd (by decide) h)
                refine g_iload w d9_291 rfl 293 rfl ?_
                replace w := w.cut (L' := [(t, O_SmallGroups (.ref me) (.ref ki) (.int (4 : Int32)) (.ref ba) (.ref am) (.int mo) (.int (0 : Int32)) .null .null (.int ct_u48) .null .null (.long v41)), (sa, .inr (.long, [(.long x0), (.long x1), (.long x2), (.long x3)])), (ba, .inr (.int, [(.int (0 : Int32)), (.int (1 : Int32)), (.int (2 : Int32)), (.int (3 : Int32))])), (me, .inr (.int, ms_u48)), (ki, .inr (.byte, ks_u48)), (am, .inr (.long, [(.long x0), (.long x1), (.long x2), (.long x3)]))]) (R' := [(hd, .inr (.int, [(.int (0 : Int32))]))]) rfl
                exact g_iretn w (by simp) d9_293 (by decide) (by decide) ⟨0, ct_u48, c_u48, ms_u48, ks_u48, v41, rfl, hct_u48, hG_u48, by omega, by omega, rfl, Or.inr ⟨rfl, by omega⟩⟩
            · -- pc 215 (on: x2 = x3)
              have q49 := congrArg Int64.toInt hc212
              exfalso; omega
          · -- pc 185 (on: x3 = x2)
            have q50 := congrArg Int64.toInt hc182
            exfalso; omega
        · -- pc 97 (on: x2 = x3)
          have q51 := congrArg Int64.toInt hc94
          refine g_iload w d9_97 rfl 99 rfl ?_
          refine g_istore w d9_99 101 rfl rfl #[.val (.ref t), .val (.ref hd), .val (.int (1 : Int32)), .val (.long sm), .second, .val (.int (1 : Int32)), .val (.int (2 : Int32)), .val (.int (3 : Int32)), .val (.long v42), .second, .val (.int (2 : Int32)), .unset, .unset, .unset] rfl ?_
          refine g_iload w d9_101 rfl 103 rfl ?_
          refine g_if_eq w d9_103 154 (by decide) (by decide) 106 rfl (fun h => absurd h (by decide)) (fun hc103 => ?_)
          refine g_iload w d9_106 rfl 108 rfl ?_
          refine g_iload w d9_108 rfl 110 rfl ?_
          refine g_icmp_ge w d9_110 154 (by decide) (by decide) 113 rfl (fun h => absurd (by decide) h) (fun hc110 => ?_)
          refine g_iload w d9_113 rfl 115 rfl ?_
          refine g_iconst w d9_115 (1 : Int32) rfl 116 rfl ?_
          refine g_iadd w d9_116 117 rfl ?_
          refine g_int (x' := (3 : Int32)) (by decide) ?_
          refine g_istore w d9_117 119 rfl rfl #[.val (.ref t), .val (.ref hd), .val (.int (1 : Int32)), .val (.long sm), .second, .val (.int (1 : Int32)), .val (.int (2 : Int32)), .val (.int (3 : Int32)), .val (.long v42), .second, .val (.int (2 : Int32)), .val (.int (3 : Int32)), .unset, .unset] rfl ?_
          refine g_iload w d9_119 rfl 121 rfl ?_
          refine g_if_eq w d9_121 148 (by decide) (by decide) 124 rfl (fun h => absurd h (by decide)) (fun hc121 => ?_)
          refine g_iload w d9_124 rfl 126 rfl ?_
          refine g_iload w d9_126 rfl 128 rfl ?_
          refine g_icmp_gt w d9_128 148 (by decide) (by decide) 131 rfl (fun h => absurd h (by decide)) (fun hc128 => ?_)
          refine g_aloadN w d9_131 rfl rfl 132 rfl ?_
          refine g_aloadN w d9_132 rfl rfl 133 rfl ?_
          refine g_iload w d9_133 rfl 135 rfl ?_
          refine g_iload w d9_135 rfl 137 rfl ?_
          refine g_priv w (argsL := [(.ref hd), (.int (2 : Int32)), (.int (3 : Int32))]) (rest := []) (rm11_1 l Z a0 hw n0 t sa ba me ki am hd x0 x1 x2 x3 mo ct v41 ms ks c M 0 2 3 0 2 3 x0 x2 x3 hmo hM hct (by omega) hG rfl (by decide) rfl rfl N0 rfl (by decide) rfl rfl N2 rfl (by decide) rfl rfl N3 (by omega)) d9_137 0 rfl 77 rfl 78 rfl 10 rfl 80 rfl 79 rfl 9 rfl ⟨by decide, by decide⟩ pd_1 rfl rfl rfl 0 rfl (by decide) (by decide) (by decide) (by decide) 140 rfl (fun T v L w h => ?_)
          obtain ⟨rr, ct_u52, c_u52, ms_u52, ks_u52, rfl, hct_u52, hG_u52, hL, hor⟩ := h
          replace w := w.to hL
          rcases hor with ⟨rfl, hk_u52, hm_u52⟩ | ⟨rfl, hk_u52, hm_u52⟩
          · -- pc 140 room 1
            refine g_istore w d9_140 142 rfl rfl #[.val (.ref t), .val (.ref hd), .val (.int (1 : Int32)), .val (.long sm), .second, .val (.int (1 : Int32)), .val (.int (2 : Int32)), .val (.int (3 : Int32)), .val (.long v42), .second, .val (.int (2 : Int32)), .val (.int (3 : Int32)), .unset, .unset] rfl ?_
            refine g_iinc w d9_142 145 rfl rfl (by decide) #[.val (.ref t), .val (.ref hd), .val (.int (1 : Int32)), .val (.long sm), .second, .val (.int (1 : Int32)), .val (.int (2 : Int32)), .val (.int (3 : Int32)), .val (.long v42), .second, .val (.int (2 : Int32)), .val (.int (4 : Int32)), .unset, .unset] rfl ?_
            refine g_goto w d9_145 119 (by decide) (by decide) ?_
            refine g_iload w d9_119 rfl 121 rfl ?_
            refine g_if_eq w d9_121 148 (by decide) (by decide) 124 rfl (fun h => absurd h (by decide)) (fun hc121 => ?_)
            refine g_iload w d9_124 rfl 126 rfl ?_
            refine g_iload w d9_126 rfl 128 rfl ?_
            refine g_icmp_gt w d9_128 148 (by decide) (by decide) 131 rfl (fun hc128 => ?_) (fun h => absurd (by decide) h)
            refine g_iinc w d9_148 151 rfl rfl (by decide) #[.val (.ref t), .val (.ref hd), .val (.int (1 : Int32)), .val (.long sm), .second, .val (.int (1 : Int32)), .val (.int (2 : Int32)), .val (.int (3 : Int32)), .val (.long v42), .second, .val (.int (3 : Int32)), .val (.int (4 : Int32)), .unset, .unset] rfl ?_
            refine g_goto w d9_151 101 (by decide) (by decide) ?_
            refine g_iload w d9_101 rfl 103 rfl ?_
            refine g_if_eq w d9_103 154 (by decide) (by decide) 106 rfl (fun h => absurd h (by decide)) (fun hc103 => ?_)
            refine g_iload w d9_106 rfl 108 rfl ?_
            refine g_iload w d9_108 rfl 110 rfl ?_
            refine g_icmp_ge w d9_110 154 (by decide) (by decide) 113 rfl (fun hc110 => ?_) (fun h => absurd h (by decide))
            refine g_iload w d9_154 rfl 156 rfl ?_
            refine g_istore w d9_156 158 rfl rfl #[.val (.ref t), .val (.ref hd), .val (.int (1 : Int32)), .val (.long sm), .second, .val (.int (1 : Int32)), .val (.int (3 : Int32)), .val (.int (3 : Int32)), .val (.long v42), .second, .val (.int (3 : Int32)), .val (.int (4 : Int32)), .unset, .unset] rfl ?_
            refine g_goto w d9_158 288 (by decide) (by decide) ?_
            refine g_goto w d9_288 14 (by decide) (by decide) ?_
            refine g_iload w d9_14 rfl 16 rfl ?_
            refine g_if_eq w d9_16 291 (by decide) (by decide) 19 rfl (fun h => absurd h (by decide)) (fun hc16 => ?_)
            refine g_iload w d9_19 rfl 21 rfl ?_
            refine g_iload w d9_21 rfl 23 rfl ?_
            refine g_icmp_ge w d9_23 291 (by decide) (by decide) 26 rfl (fun hc23 => ?_) (fun h => absurd h (by decide))
            refine g_iload w d9_291 rfl 293 rfl ?_
            replace w := w.cut (L' := [(t, O_SmallGroups (.ref me) (.ref ki) (.int (4 : Int32)) (.ref ba) (.ref am) (.int mo) (.int (0 : Int32)) .null .null (.int ct_u52) .null .null (.long v41)), (sa, .inr (.long, [(.long x0), (.long x1), (.long x2), (.long x3)])), (ba, .inr (.int, [(.int (0 : Int32)), (.int (1 : Int32)), (.int (2 : Int32)), (.int (3 : Int32))])), (me, .inr (.int, ms_u52)), (ki, .inr (.byte, ks_u52)), (am, .inr (.long, [(.long x0), (.long x1), (.long x2), (.long x3)]))]) (R' := [(hd, .inr (.int, [(.int (0 : Int32))]))]) rfl
            exact g_iretn w (by simp) d9_293 (by decide) (by decide) ⟨1, ct_u52, c_u52, ms_u52, ks_u52, v41, rfl, hct_u52, hG_u52, by omega, by omega, rfl, Or.inl ⟨rfl, by omega⟩⟩
          · -- pc 140 room 0
            refine g_istore w d9_140 142 rfl rfl #[.val (.ref t), .val (.ref hd), .val (.int (1 : Int32)), .val (.long sm), .second, .val (.int (0 : Int32)), .val (.int (2 : Int32)), .val (.int (3 : Int32)), .val (.long v42), .second, .val (.int (2 : Int32)), .val (.int (3 : Int32)), .unset, .unset] rfl ?_
            refine g_iinc w d9_142 145 rfl rfl (by decide) #[.val (.ref t), .val (.ref hd), .val (.int (1 : Int32)), .val (.long sm), .second, .val (.int (0 : Int32)), .val (.int (2 : Int32)), .val (.int (3 : Int32)), .val (.long v42), .second, .val (.int (2 : Int32)), .val (.int (4 : Int32)), .unset, .unset] rfl ?_
            refine g_goto w d9_145 119 (by decide) (by decide) ?_
            refine g_iload w d9_119 rfl 121 rfl ?_
            refine g_if_eq w d9_121 148 (by decide) (by decide) 124 rfl (fun hc121 => ?_) (fun h => absurd (by decide) h)
            refine g_iinc w d9_148 151 rfl rfl (by decide) #[.val (.ref t), .val (.ref hd), .val (.int (1 : Int32)), .val (.long sm), .second, .val (.int (0 : Int32)), .val (.int (2 : Int32)), .val (.int (3 : Int32)), .val (.long v42), .second, .val (.int (3 : Int32)), .val (.int (4 : Int32)), .unset, .unset] rfl ?_
            refine g_goto w d9_151 101 (by decide) (by decide) ?_
            refine g_iload w d9_101 rfl 103 rfl ?_
            refine g_if_eq w d9_103 154 (by decide) (by decide) 106 rfl (fun hc103 => ?_) (fun h => absurd (by decide) h)
            refine g_iload w d9_154 rfl 156 rfl ?_
            refine g_istore w d9_156 158 rfl rfl #[.val (.ref t), .val (.ref hd), .val (.int (1 : Int32)), .val (.long sm), .second, .val (.int (0 : Int32)), .val (.int (3 : Int32)), .val (.int (3 : Int32)), .val (.long v42), .second, .val (.int (3 : Int32)), .val (.int (4 : Int32)), .unset, .unset] rfl ?_
            refine g_goto w d9_158 288 (by decide) (by decide) ?_
            refine g_goto w d9_288 14 (by decide) (by decide) ?_
            refine g_iload w d9_14 rfl 16 rfl ?_
            refine g_if_eq w d9_16 291 (by decide) (by decide) 19 rfl (fun hc16 => ?_) (fun h => absurd (by decide) h)
            refine g_iload w d9_291 rfl 293 rfl ?_
            replace w := w.cut (L' := [(t, O_SmallGroups (.ref me) (.ref ki) (.int (4 : Int32)) (.ref ba) (.ref am) (.int mo) (.int (0 : Int32)) .null .null (.int ct_u52) .null .null (.long v41)), (sa, .inr (.long, [(.long x0), (.long x1), (.long x2), (.long x3)])), (ba, .inr (.int, [(.int (0 : Int32)), (.int (1 : Int32)), (.int (2 : Int32)), (.int (3 : Int32))])), (me, .inr (.int, ms_u52)), (ki, .inr (.byte, ks_u52)), (am, .inr (.long, [(.long x0), (.long x1), (.long x2), (.long x3)]))]) (R' := [(hd, .inr (.int, [(.int (0 : Int32))]))]) rfl
            exact g_iretn w (by simp) d9_293 (by decide) (by decide) ⟨0, ct_u52, c_u52, ms_u52, ks_u52, v41, rfl, hct_u52, hG_u52, by omega, by omega, rfl, Or.inr ⟨rfl, by omega⟩⟩
      · -- pc 73 (on: sm < v42)
        have q53 := (own_ltL hsm hp_v42).mp hc70
        refine g_iinc w d9_73 76 rfl rfl (by decide) #[.val (.ref t), .val (.ref hd), .val (.int (1 : Int32)), .val (.long sm), .second, .val (.int (1 : Int32)), .val (.int (2 : Int32)), .val (.int (2 : Int32)), .val (.long v42), .second, .unset, .unset, .unset, .unset] rfl ?_
        refine g_goto w d9_76 288 (by decide) (by decide) ?_
        refine g_goto w d9_288 14 (by decide) (by decide) ?_
        refine g_iload w d9_14 rfl 16 rfl ?_
        refine g_if_eq w d9_16 291 (by decide) (by decide) 19 rfl (fun h => absurd h (by decide)) (fun hc16 => ?_)
        refine g_iload w d9_19 rfl 21 rfl ?_
        refine g_iload w d9_21 rfl 23 rfl ?_
        refine g_icmp_ge w d9_23 291 (by decide) (by decide) 26 rfl (fun hc23 => ?_) (fun h => absurd h (by decide))
        refine g_iload w d9_291 rfl 293 rfl ?_
        replace w := w.cut (L' := [(t, O_SmallGroups (.ref me) (.ref ki) (.int (4 : Int32)) (.ref ba) (.ref am) (.int mo) (.int (0 : Int32)) .null .null (.int ct) .null .null (.long v41)), (sa, .inr (.long, [(.long x0), (.long x1), (.long x2), (.long x3)])), (ba, .inr (.int, [(.int (0 : Int32)), (.int (1 : Int32)), (.int (2 : Int32)), (.int (3 : Int32))])), (me, .inr (.int, ms)), (ki, .inr (.byte, ks)), (am, .inr (.long, [(.long x0), (.long x1), (.long x2), (.long x3)]))]) (R' := [(hd, .inr (.int, [(.int (0 : Int32))]))]) rfl
        exact g_iretn w (by simp) d9_293 (by decide) (by decide) ⟨1, ct, c, ms, ks, v41, rfl, hct, hG, by omega, by omega, rfl, Or.inl ⟨rfl, by omega⟩⟩
    · -- pc 60 (on: v42 < sm)
      have q54 := (own_ltL hp_v42 hsm).mp hc57
      refine g_iinc w d9_60 63 rfl rfl (by decide) #[.val (.ref t), .val (.ref hd), .val (.int (1 : Int32)), .val (.long sm), .second, .val (.int (1 : Int32)), .val (.int (3 : Int32)), .val (.int (3 : Int32)), .val (.long v42), .second, .unset, .unset, .unset, .unset] rfl ?_
      refine g_goto w d9_63 288 (by decide) (by decide) ?_
      refine g_goto w d9_288 14 (by decide) (by decide) ?_
      refine g_iload w d9_14 rfl 16 rfl ?_
      refine g_if_eq w d9_16 291 (by decide) (by decide) 19 rfl (fun h => absurd h (by decide)) (fun hc16 => ?_)
      refine g_iload w d9_19 rfl 21 rfl ?_
      refine g_iload w d9_21 rfl 23 rfl ?_
      refine g_icmp_ge w d9_23 291 (by decide) (by decide) 26 rfl (fun hc23 => ?_) (fun h => absurd h (by decide))
      refine g_iload w d9_291 rfl 293 rfl ?_
      replace w := w.cut (L' := [(t, O_SmallGroups (.ref me) (.ref ki) (.int (4 : Int32)) (.ref ba) (.ref am) (.int mo) (.int (0 : Int32)) .null .null (.int ct) .null .null (.long v41)), (sa, .inr (.long, [(.long x0), (.long x1), (.long x2), (.long x3)])), (ba, .inr (.int, [(.int (0 : Int32)), (.int (1 : Int32)), (.int (2 : Int32)), (.int (3 : Int32))])), (me, .inr (.int, ms)), (ki, .inr (.byte, ks)), (am, .inr (.long, [(.long x0), (.long x1), (.long x2), (.long x3)]))]) (R' := [(hd, .inr (.int, [(.int (0 : Int32))]))]) rfl
      exact g_iretn w (by simp) d9_293 (by decide) (by decide) ⟨1, ct, c, ms, ks, v41, rfl, hct, hG, by omega, by omega, rfl, Or.inl ⟨rfl, by omega⟩⟩
set_option maxRecDepth 65536 in
set_option maxHeartbeats 40000000 in
theorem rm9_1 (l : Launch) (Z : State) (a0 : Array Value) (hw : ∀ d ∈ tables_1, d.before a0 Z = true) (n0 : Nat) (t sa ba me ki am hd : Addr) (x0 x1 x2 x3 : Int64) (mo ct : Int32) (ls : Int64) (ms ks : List Value) (c M : Nat) (sm : Int64) (hmo : mo.toInt = (M : Int)) (hM : M ≤ 7) (hct : ct.toInt = (c : Int)) (hcM : c ≤ M) (hG : own_G c ms ks) (hA : own_A x0 x1 x2 x3) (hsm : sm.toInt = -x1.toInt) :
    Con l (⟨"com/example/cangdan/cangdan/fewest/SmallGroups", "pairs", "([IIJ)Z"⟩ : MethodName) prog_29_method_15_code 14 (some .boolean) ({ frames := 2, cells := 0, slots := 0, locals := 36 } : Room) Z n0 #[(.ref t), (.ref hd), (.int (2 : Int32)), (.long sm)] ([(t, O_SmallGroups (.ref me) (.ref ki) (.int (4 : Int32)) (.ref ba) (.ref am) (.int mo) (.int (0 : Int32)) .null .null (.int ct) .null .null (.long ls)), (sa, .inr (.long, [(.long x0), (.long x1), (.long x2), (.long x3)])), (ba, .inr (.int, [(.int (0 : Int32)), (.int (1 : Int32)), (.int (2 : Int32)), (.int (3 : Int32))])), (me, .inr (.int, ms)), (ki, .inr (.byte, ks)), (am, .inr (.long, [(.long x0), (.long x1), (.long x2), (.long x3)])), (hd, .inr (.int, [(.int (1 : Int32))]))]) (fun v L' => ∃ (rr ct' : Int32) (c' : Nat) (ms' ks' : List Value) (ls' : Int64), v = some (.int rr) ∧ ct'.toInt = (c' : Int) ∧ own_G c' ms' ks' ∧ c ≤ c' ∧ c' ≤ M ∧ L' = [(t, O_SmallGroups (.ref me) (.ref ki) (.int (4 : Int32)) (.ref ba) (.ref am) (.int mo) (.int (0 : Int32)) .null .null (.int ct') .null .null (.long ls')), (sa, .inr (.long, [(.long x0), (.long x1), (.long x2), (.long x3)])), (ba, .inr (.int, [(.int (0 : Int32)), (.int (1 : Int32)), (.int (2 : Int32)), (.int (3 : Int32))])), (me, .inr (.int, ms')), (ki, .inr (.byte, ks')), (am, .inr (.long, [(.long x0), (.long x1), (.long x2), (.long x3)]))] ∧ ((rr = 1 ∧ c' = c + (own_zn (x1.toInt + x2.toInt + x3.toInt))) ∨ (rr = 0 ∧ M < c + (own_zn (x1.toInt + x2.toInt + x3.toInt))))) := by
  refine Con.of (ws := tables_1) (a0 := a0) pn_9 hw ?_
  intro p e s m below meth cde T kb w
  refine g_entry #[.val (.ref t), .val (.ref hd), .val (.int (2 : Int32)), .val (.long sm), .second, .unset, .unset, .unset, .unset, .unset, .unset, .unset, .unset, .unset] (by first | (simp [entryFrame, mkF, argsToLocals, Value.category]; done) | rfl) ?_
  obtain ⟨A0, A1, A2, A3, A4, N0, N1, N2, N3⟩ := id hA
  have e0 := own_zn_c (x1.toInt + x2.toInt + x3.toInt)
  refine g_iconst w d9_0 (1 : Int32) rfl 1 rfl ?_
  refine g_istore w d9_1 3 rfl rfl #[.val (.ref t), .val (.ref hd), .val (.int (2 : Int32)), .val (.long sm), .second, .val (.int (1 : Int32)), .unset, .unset, .unset, .unset, .unset, .unset, .unset, .unset] rfl ?_
  refine g_iloadN w d9_3 rfl 4 rfl ?_
  refine g_istore w d9_4 6 rfl rfl #[.val (.ref t), .val (.ref hd), .val (.int (2 : Int32)), .val (.long sm), .second, .val (.int (1 : Int32)), .val (.int (2 : Int32)), .unset, .unset, .unset, .unset, .unset, .unset, .unset] rfl ?_
  refine g_aloadN w d9_6 rfl rfl 7 rfl ?_
  refine g_getf w d9_7 0 rfl 2 rfl 24 rfl Via.refl 10 rfl (fun T w => ?_)
  refine g_iconst w d9_10 (1 : Int32) rfl 11 rfl ?_
  refine g_isub w d9_11 12 rfl ?_
  refine g_int (x' := (3 : Int32)) (by decide) ?_
  refine g_istore w d9_12 14 rfl rfl #[.val (.ref t), .val (.ref hd), .val (.int (2 : Int32)), .val (.long sm), .second, .val (.int (1 : Int32)), .val (.int (2 : Int32)), .val (.int (3 : Int32)), .unset, .unset, .unset, .unset, .unset, .unset] rfl ?_
  refine g_iload w d9_14 rfl 16 rfl ?_
  refine g_if_eq w d9_16 291 (by decide) (by decide) 19 rfl (fun h => absurd h (by decide)) (fun hc16 => ?_)
  refine g_iload w d9_19 rfl 21 rfl ?_
  refine g_iload w d9_21 rfl 23 rfl ?_
  refine g_icmp_ge w d9_23 291 (by decide) (by decide) 26 rfl (fun h => absurd (by decide) h) (fun hc23 => ?_)
  refine g_aloadN w d9_26 rfl rfl 27 rfl ?_
  refine g_dup w d9_27 rfl 28 rfl ?_
  refine g_getf w d9_28 0 rfl 12 rfl 57 rfl Via.refl 31 rfl (fun T w => ?_)
  refine g_lconst w d9_31 (1 : Int64) rfl 32 rfl ?_
  refine g_ladd w d9_32 33 rfl ?_
  obtain ⟨v1, hv1⟩ : ∃ own_z, own_z = ((ls + (1 : Int64)) : Int64) := ⟨_, rfl⟩
  refine g_long hv1.symm ?_
  refine g_putf w d9_33 0 rfl 12 rfl 57 rfl Via.refl 58 (Or.inl rfl) 9 rfl (ty := .long) (by decide) rfl rfl 36 rfl (fun T w => ?_)
  replace w := w.to (L' := [(t, O_SmallGroups (.ref me) (.ref ki) (.int (4 : Int32)) (.ref ba) (.ref am) (.int mo) (.int (0 : Int32)) .null .null (.int ct) .null .null (.long v1)), (sa, .inr (.long, [(.long x0), (.long x1), (.long x2), (.long x3)])), (ba, .inr (.int, [(.int (0 : Int32)), (.int (1 : Int32)), (.int (2 : Int32)), (.int (3 : Int32))])), (me, .inr (.int, ms)), (ki, .inr (.byte, ks)), (am, .inr (.long, [(.long x0), (.long x1), (.long x2), (.long x3)])), (hd, .inr (.int, [(.int (1 : Int32))]))]) rfl
  refine g_aloadN w d9_36 rfl rfl 37 rfl ?_
  refine g_getf w d9_37 0 rfl 4 rfl 28 rfl Via.refl 40 rfl (fun T w => ?_)
  refine g_iload w d9_40 rfl 42 rfl ?_
  refine g_laload w d9_42 5 rfl 2 (by decide) rfl 43 rfl ?_
  refine g_aloadN w d9_43 rfl rfl 44 rfl ?_
  refine g_getf w d9_44 0 rfl 4 rfl 28 rfl Via.refl 47 rfl (fun T w => ?_)
  refine g_iload w d9_47 rfl 49 rfl ?_
  refine g_laload w d9_49 5 rfl 3 (by decide) rfl 50 rfl ?_
  refine g_ladd w d9_50 51 rfl ?_
  obtain ⟨v2, hv2⟩ : ∃ own_z, own_z = ((x2 + x3) : Int64) := ⟨_, rfl⟩
  refine g_lstore w d9_51 53 rfl hv2.symm #[.val (.ref t), .val (.ref hd), .val (.int (2 : Int32)), .val (.long sm), .second, .val (.int (1 : Int32)), .val (.int (2 : Int32)), .val (.int (3 : Int32)), .val (.long v2), .second, .unset, .unset, .unset, .unset] rfl ?_
  have hp_v2 : v2.toInt = x2.toInt + x3.toInt := by rw [hv2]; exact own_ladd rfl rfl (by omega) (by omega) (by omega) (by omega)
  refine g_lload w d9_53 rfl 55 rfl ?_
  refine g_lloadN w d9_55 rfl 56 rfl ?_
  refine g_lcmp w d9_56 57 rfl ?_
  refine g_lif_ge w d9_57 66 (by decide) (by decide) 60 rfl (fun hc57 => ?_) (fun hc57 => ?_)
  · -- pc 66 (taken: not v2 < sm)
    have q3 := mt (own_ltL hp_v2 hsm).mpr hc57
    refine g_lload w d9_66 rfl 68 rfl ?_
    refine g_lloadN w d9_68 rfl 69 rfl ?_
    refine g_lcmp w d9_69 70 rfl ?_
    refine g_lif_le w d9_70 79 (by decide) (by decide) 73 rfl (fun hc70 => ?_) (fun hc70 => ?_)
    · -- pc 79 (taken: not sm < v2)
      have q4 := mt (own_ltL hsm hp_v2).mpr hc70
      refine g_aloadN w d9_79 rfl rfl 80 rfl ?_
      refine g_getf w d9_80 0 rfl 4 rfl 28 rfl Via.refl 83 rfl (fun T w => ?_)
      refine g_iload w d9_83 rfl 85 rfl ?_
      refine g_laload w d9_85 5 rfl 2 (by decide) rfl 86 rfl ?_
      refine g_aloadN w d9_86 rfl rfl 87 rfl ?_
      refine g_getf w d9_87 0 rfl 4 rfl 28 rfl Via.refl 90 rfl (fun T w => ?_)
      refine g_iload w d9_90 rfl 92 rfl ?_
      refine g_laload w d9_92 5 rfl 3 (by decide) rfl 93 rfl ?_
      refine g_lcmp w d9_93 94 rfl ?_
      refine g_lif_ne w d9_94 161 (by decide) (by decide) 97 rfl (fun hc94 => ?_) (fun hc94 => ?_)
      · -- pc 161 (taken: not x2 = x3)
        have q5 := mt Int64.toInt_inj.mp hc94
        refine g_iload w d9_161 rfl 163 rfl ?_
        refine g_istore w d9_163 165 rfl rfl #[.val (.ref t), .val (.ref hd), .val (.int (2 : Int32)), .val (.long sm), .second, .val (.int (1 : Int32)), .val (.int (2 : Int32)), .val (.int (3 : Int32)), .val (.long v2), .second, .val (.int (2 : Int32)), .unset, .unset, .unset] rfl ?_
        refine g_aloadN w d9_165 rfl rfl 166 rfl ?_
        refine g_getf w d9_166 0 rfl 4 rfl 28 rfl Via.refl 169 rfl (fun T w => ?_)
        refine g_iload w d9_169 rfl 171 rfl ?_
        refine g_iconst w d9_171 (1 : Int32) rfl 172 rfl ?_
        refine g_iadd w d9_172 173 rfl ?_
        refine g_int (x' := (3 : Int32)) (by decide) ?_
        refine g_laload w d9_173 5 rfl 3 (by decide) rfl 174 rfl ?_
        refine g_aloadN w d9_174 rfl rfl 175 rfl ?_
        refine g_getf w d9_175 0 rfl 4 rfl 28 rfl Via.refl 178 rfl (fun T w => ?_)
        refine g_iload w d9_178 rfl 180 rfl ?_
        refine g_laload w d9_180 5 rfl 2 (by decide) rfl 181 rfl ?_
        refine g_lcmp w d9_181 182 rfl ?_
        refine g_lif_ne w d9_182 191 (by decide) (by decide) 185 rfl (fun hc182 => ?_) (fun hc182 => ?_)
        · -- pc 191 (taken: not x3 = x2)
          have q6 := mt Int64.toInt_inj.mp hc182
          refine g_iload w d9_191 rfl 193 rfl ?_
          refine g_istore w d9_193 195 rfl rfl #[.val (.ref t), .val (.ref hd), .val (.int (2 : Int32)), .val (.long sm), .second, .val (.int (1 : Int32)), .val (.int (2 : Int32)), .val (.int (3 : Int32)), .val (.long v2), .second, .val (.int (2 : Int32)), .val (.int (3 : Int32)), .unset, .unset] rfl ?_
          refine g_aloadN w d9_195 rfl rfl 196 rfl ?_
          refine g_getf w d9_196 0 rfl 4 rfl 28 rfl Via.refl 199 rfl (fun T w => ?_)
          refine g_iload w d9_199 rfl 201 rfl ?_
          refine g_iconst w d9_201 (1 : Int32) rfl 202 rfl ?_
          refine g_isub w d9_202 203 rfl ?_
          refine g_int (x' := (2 : Int32)) (by decide) ?_
          refine g_laload w d9_203 5 rfl 2 (by decide) rfl 204 rfl ?_
          refine g_aloadN w d9_204 rfl rfl 205 rfl ?_
          refine g_getf w d9_205 0 rfl 4 rfl 28 rfl Via.refl 208 rfl (fun T w => ?_)
          refine g_iload w d9_208 rfl 210 rfl ?_
          refine g_laload w d9_210 5 rfl 3 (by decide) rfl 211 rfl ?_
          refine g_lcmp w d9_211 212 rfl ?_
          refine g_lif_ne w d9_212 221 (by decide) (by decide) 215 rfl (fun hc212 => ?_) (fun hc212 => ?_)
          · -- pc 221 (taken: not x2 = x3)
            have q7 := mt Int64.toInt_inj.mp hc212
            refine g_iload w d9_221 rfl 223 rfl ?_
            refine g_istore w d9_223 225 rfl rfl #[.val (.ref t), .val (.ref hd), .val (.int (2 : Int32)), .val (.long sm), .second, .val (.int (1 : Int32)), .val (.int (2 : Int32)), .val (.int (3 : Int32)), .val (.long v2), .second, .val (.int (2 : Int32)), .val (.int (3 : Int32)), .val (.int (2 : Int32)), .unset] rfl ?_
            refine g_iload w d9_225 rfl 227 rfl ?_
            refine g_if_eq w d9_227 276 (by decide) (by decide) 230 rfl (fun h => absurd h (by decide)) (fun hc227 => ?_)
            refine g_iload w d9_230 rfl 232 rfl ?_
            refine g_iload w d9_232 rfl 234 rfl ?_
            refine g_icmp_gt w d9_234 276 (by decide) (by decide) 237 rfl (fun h => absurd h (by decide)) (fun hc234 => ?_)
            refine g_iload w d9_237 rfl 239 rfl ?_
            refine g_istore w d9_239 241 rfl rfl #[.val (.ref t), .val (.ref hd), .val (.int (2 : Int32)), .val (.long sm), .second, .val (.int (1 : Int32)), .val (.int (2 : Int32)), .val (.int (3 : Int32)), .val (.long v2), .second, .val (.int (2 : Int32)), .val (.int (3 : Int32)), .val (.int (2 : Int32)), .val (.int (3 : Int32))] rfl ?_
            refine g_iload w d9_241 rfl 243 rfl ?_
            refine g_if_eq w d9_243 270 (by decide) (by decide) 246 rfl (fun h => absurd h (by decide)) (fun hc243 => ?_)
            refine g_iload w d9_246 rfl 248 rfl ?_
            refine g_iload w d9_248 rfl 250 rfl ?_
            refine g_icmp_gt w d9_250 270 (by decide) (by decide) 253 rfl (fun h => absurd h (by decide)) (fun hc250 => ?_)
            refine g_aloadN w d9_253 rfl rfl 254 rfl ?_
            refine g_aloadN w d9_254 rfl rfl 255 rfl ?_
            refine g_iload w d9_255 rfl 257 rfl ?_
            refine g_iload w d9_257 rfl 259 rfl ?_
            refine g_priv w (argsL := [(.ref hd), (.int (2 : Int32)), (.int (3 : Int32))]) (rest := []) (rm11_1 l Z a0 hw n0 t sa ba me ki am hd x0 x1 x2 x3 mo ct v1 ms ks c M 1 2 3 1 2 3 x1 x2 x3 hmo hM hct (by omega) hG rfl (by decide) rfl rfl N1 rfl (by decide) rfl rfl N2 rfl (by decide) rfl rfl N3 (by omega)) d9_259 0 rfl 77 rfl 78 rfl 10 rfl 80 rfl 79 rfl 9 rfl ⟨by decide, by decide⟩ pd_1 rfl rfl rfl 0 rfl (by decide) (by decide) (by decide) (by decide) 262 rfl (fun T v L w h => ?_)
            obtain ⟨rr, ct_u8, c_u8, ms_u8, ks_u8, rfl, hct_u8, hG_u8, hL, hor⟩ := h
            replace w := w.to hL
            rcases hor with ⟨rfl, hk_u8, hm_u8⟩ | ⟨rfl, hk_u8, hm_u8⟩
            · -- pc 262 room 1
              refine g_istore w d9_262 264 rfl rfl #[.val (.ref t), .val (.ref hd), .val (.int (2 : Int32)), .val (.long sm), .second, .val (.int (1 : Int32)), .val (.int (2 : Int32)), .val (.int (3 : Int32)), .val (.long v2), .second, .val (.int (2 : Int32)), .val (.int (3 : Int32)), .val (.int (2 : Int32)), .val (.int (3 : Int32))] rfl ?_
              refine g_iinc w d9_264 267 rfl rfl (by decide) #[.val (.ref t), .val (.ref hd), .val (.int (2 : Int32)), .val (.long sm), .second, .val (.int (1 : Int32)), .val (.int (2 : Int32)), .val (.int (3 : Int32)), .val (.long v2), .second, .val (.int (2 : Int32)), .val (.int (3 : Int32)), .val (.int (2 : Int32)), .val (.int (4 : Int32))] rfl ?_
              refine g_goto w d9_267 241 (by decide) (by decide) ?_
              refine g_iload w d9_241 rfl 243 rfl ?_
              refine g_if_eq w d9_243 270 (by decide) (by decide) 246 rfl (fun h => absurd h (by decide)) (fun hc243 => ?_)
              refine g_iload w d9_246 rfl 248 rfl ?_
              refine g_iload w d9_248 rfl 250 rfl ?_
              refine g_icmp_gt w d9_250 270 (by decide) (by decide) 253 rfl (fun hc250 => ?_) (fun h => absurd (by decide) h)
              refine g_iinc w d9_270 273 rfl rfl (by decide) #[.val (.ref t), .val (.ref hd), .val (.int (2 : Int32)), .val (.long sm), .second, .val (.int (1 : Int32)), .val (.int (2 : Int32)), .val (.int (3 : Int32)), .val (.long v2), .second, .val (.int (2 : Int32)), .val (.int (3 : Int32)), .val (.int (3 : Int32)), .val (.int (4 : Int32))] rfl ?_
              refine g_goto w d9_273 225 (by decide) (by decide) ?_
              refine g_iload w d9_225 rfl 227 rfl ?_
              refine g_if_eq w d9_227 276 (by decide) (by decide) 230 rfl (fun h => absurd h (by decide)) (fun hc227 => ?_)
              refine g_iload w d9_230 rfl 232 rfl ?_
              refine g_iload w d9_232 rfl 234 rfl ?_
              refine g_icmp_gt w d9_234 276 (by decide) (by decide) 237 rfl (fun hc234 => ?_) (fun h => absurd (by decide) h)
              refine g_iload w d9_276 rfl 278 rfl ?_
              refine g_iconst w d9_278 (1 : Int32) rfl 279 rfl ?_
              refine g_iadd w d9_279 280 rfl ?_
              refine g_int (x' := (3 : Int32)) (by decide) ?_
              refine g_istore w d9_280 282 rfl rfl #[.val (.ref t), .val (.ref hd), .val (.int (2 : Int32)), .val (.long sm), .second, .val (.int (1 : Int32)), .val (.int (3 : Int32)), .val (.int (3 : Int32)), .val (.long v2), .second, .val (.int (2 : Int32)), .val (.int (3 : Int32)), .val (.int (3 : Int32)), .val (.int (4 : Int32))] rfl ?_
              refine g_iload w d9_282 rfl 284 rfl ?_
              refine g_iconst w d9_284 (1 : Int32) rfl 285 rfl ?_
              refine g_isub w d9_285 286 rfl ?_
              refine g_int (x' := (2 : Int32)) (by decide) ?_
              refine g_istore w d9_286 288 rfl rfl #[.val (.ref t), .val (.ref hd), .val (.int (2 : Int32)), .val (.long sm), .second, .val (.int (1 : Int32)), .val (.int (3 : Int32)), .val (.int (2 : Int32)), .val (.long v2), .second, .val (.int (2 : Int32)), .val (.int (3 : Int32)), .val (.int (3 : Int32)), .val (.int (4 : Int32))] rfl ?_
              refine g_goto w d9_288 14 (by decide) (by decide) ?_
              refine g_iload w d9_14 rfl 16 rfl ?_
              refine g_if_eq w d9_16 291 (by decide) (by decide) 19 rfl (fun h => absurd h (by decide)) (fun hc16 => ?_)
              refine g_iload w d9_19 rfl 21 rfl ?_
              refine g_iload w d9_21 rfl 23 rfl ?_
              refine g_icmp_ge w d9_23 291 (by decide) (by decide) 26 rfl (fun hc23 => ?_) (fun h => absurd h (by decide))
              refine g_iload w d9_291 rfl 293 rfl ?_
              replace w := w.cut (L' := [(t, O_SmallGroups (.ref me) (.ref ki) (.int (4 : Int32)) (.ref ba) (.ref am) (.int mo) (.int (0 : Int32)) .null .null (.int ct_u8) .null .null (.long v1)), (sa, .inr (.long, [(.long x0), (.long x1), (.long x2), (.long x3)])), (ba, .inr (.int, [(.int (0 : Int32)), (.int (1 : Int32)), (.int (2 : Int32)), (.int (3 : Int32))])), (me, .inr (.int, ms_u8)), (ki, .inr (.byte, ks_u8)), (am, .inr (.long, [(.long x0), (.long x1), (.long x2), (.long x3)]))]) (R' := [(hd, .inr (.int, [(.int (1 : Int32))]))]) rfl
              exact g_iretn w (by simp) d9_293 (by decide) (by decide) ⟨1, ct_u8, c_u8, ms_u8, ks_u8, v1, rfl, hct_u8, hG_u8, by omega, by omega, rfl, Or.inl ⟨rfl, by omega⟩⟩
            · -- pc 262 room 0
              refine g_istore w d9_262 264 rfl rfl #[.val (.ref t), .val (.ref hd), .val (.int (2 : Int32)), .val (.long sm), .second, .val (.int (0 : Int32)), .val (.int (2 : Int32)), .val (.int (3 : Int32)), .val (.long v2), .second, .val (.int (2 : Int32)), .val (.int (3 : Int32)), .val (.int (2 : Int32)), .val (.int (3 : Int32))] rfl ?_
              refine g_iinc w d9_264 267 rfl rfl (by decide) #[.val (.ref t), .val (.ref hd), .val (.int (2 : Int32)), .val (.long sm), .second, .val (.int (0 : Int32)), .val (.int (2 : Int32)), .val (.int (3 : Int32)), .val (.long v2), .second, .val (.int (2 : Int32)), .val (.int (3 : Int32)), .val (.int (2 : Int32)), .val (.int (4 : Int32))] rfl ?_
              refine g_goto w d9_267 241 (by decide) (by decide) ?_
              refine g_iload w d9_241 rfl 243 rfl ?_
              refine g_if_eq w d9_243 270 (by decide) (by decide) 246 rfl (fun hc243 => ?_) (fun h => absurd (by decide) h)
              refine g_iinc w d9_270 273 rfl rfl (by decide) #[.val (.ref t), .val (.ref hd), .val (.int (2 : Int32)), .val (.long sm), .second, .val (.int (0 : Int32)), .val (.int (2 : Int32)), .val (.int (3 : Int32)), .val (.long v2), .second, .val (.int (2 : Int32)), .val (.int (3 : Int32)), .val (.int (3 : Int32)), .val (.int (4 : Int32))] rfl ?_
              refine g_goto w d9_273 225 (by decide) (by decide) ?_
              refine g_iload w d9_225 rfl 227 rfl ?_
              refine g_if_eq w d9_227 276 (by decide) (by decide) 230 rfl (fun hc227 => ?_) (fun h => absurd (by decide) h)
              refine g_iload w d9_276 rfl 278 rfl ?_
              refine g_iconst w d9_278 (1 : Int32) rfl 279 rfl ?_
              refine g_iadd w d9_279 280 rfl ?_
              refine g_int (x' := (3 : Int32)) (by decide) ?_
              refine g_istore w d9_280 282 rfl rfl #[.val (.ref t), .val (.ref hd), .val (.int (2 : Int32)), .val (.long sm), .second, .val (.int (0 : Int32)), .val (.int (3 : Int32)), .val (.int (3 : Int32)), .val (.long v2), .second, .val (.int (2 : Int32)), .val (.int (3 : Int32)), .val (.int (3 : Int32)), .val (.int (4 : Int32))] rfl ?_
              refine g_iload w d9_282 rfl 284 rfl ?_
              refine g_iconst w d9_284 (1 : Int32) rfl 285 rfl ?_
              refine g_isub w d9_285 286 rfl ?_
              refine g_int (x' := (2 : Int32)) (by decide) ?_
              refine g_istore w d9_286 288 rfl rfl #[.val (.ref t), .val (.ref hd), .val (.int (2 : Int32)), .val (.long sm), .second, .val (.int (0 : Int32)), .val (.int (3 : Int32)), .val (.int (2 : Int32)), .val (.long v2), .second, .val (.int (2 : Int32)), .val (.int (3 : Int32)), .val (.int (3 : Int32)), .val (.int (4 : Int32))] rfl ?_
              refine g_goto w d9_288 14 (by decide) (by decide) ?_
              refine g_iload w d9_14 rfl 16 rfl ?_
              refine g_if_eq w d9_16 291 (by decide) (by decide) 19 rfl (fun hc16 => ?_) (fun h => absurd (by decide) h)
              refine g_iload w d9_291 rfl 293 rfl ?_
              replace w := w.cut (L' := [(t, O_SmallGroups (.ref me) (.ref ki) (.int (4 : Int32)) (.ref ba) (.ref am) (.int mo) (.int (0 : Int32)) .null .null (.int ct_u8) .null .null (.long v1)), (sa, .inr (.long, [(.long x0), (.long x1), (.long x2), (.long x3)])), (ba, .inr (.int, [(.int (0 : Int32)), (.int (1 : Int32)), (.int (2 : Int32)), (.int (3 : Int32))])), (me, .inr (.int, ms_u8)), (ki, .inr (.byte, ks_u8)), (am, .inr (.long, [(.long x0), (.long x1), (.long x2), (.long x3)]))]) (R' := [(hd, .inr (.int, [(.int (1 : Int32))]))]) rfl
              exact g_iretn w (by simp) d9_293 (by decide) (by decide) ⟨0, ct_u8, c_u8, ms_u8, ks_u8, v1, rfl, hct_u8, hG_u8, by omega, by omega, rfl, Or.inr ⟨rfl, by omega⟩⟩
          · -- pc 215 (on: x2 = x3)
            have q9 := congrArg Int64.toInt hc212
            exfalso; omega
        · -- pc 185 (on: x3 = x2)
          have q10 := congrArg Int64.toInt hc182
          exfalso; omega
      · -- pc 97 (on: x2 = x3)
        have q11 := congrArg Int64.toInt hc94
        refine g_iload w d9_97 rfl 99 rfl ?_
        refine g_istore w d9_99 101 rfl rfl #[.val (.ref t), .val (.ref hd), .val (.int (2 : Int32)), .val (.long sm), .second, .val (.int (1 : Int32)), .val (.int (2 : Int32)), .val (.int (3 : Int32)), .val (.long v2), .second, .val (.int (2 : Int32)), .unset, .unset, .unset] rfl ?_
        refine g_iload w d9_101 rfl 103 rfl ?_
        refine g_if_eq w d9_103 154 (by decide) (by decide) 106 rfl (fun h => absurd h (by decide)) (fun hc103 => ?_)
        refine g_iload w d9_106 rfl 108 rfl ?_
        refine g_iload w d9_108 rfl 110 rfl ?_
        refine g_icmp_ge w d9_110 154 (by decide) (by decide) 113 rfl (fun h => absurd (by decide) h) (fun hc110 => ?_)
        refine g_iload w d9_113 rfl 115 rfl ?_
        refine g_iconst w d9_115 (1 : Int32) rfl 116 rfl ?_
        refine g_iadd w d9_116 117 rfl ?_
        refine g_int (x' := (3 : Int32)) (by decide) ?_
        refine g_istore w d9_117 119 rfl rfl #[.val (.ref t), .val (.ref hd), .val (.int (2 : Int32)), .val (.long sm), .second, .val (.int (1 : Int32)), .val (.int (2 : Int32)), .val (.int (3 : Int32)), .val (.long v2), .second, .val (.int (2 : Int32)), .val (.int (3 : Int32)), .unset, .unset] rfl ?_
        refine g_iload w d9_119 rfl 121 rfl ?_
        refine g_if_eq w d9_121 148 (by decide) (by decide) 124 rfl (fun h => absurd h (by decide)) (fun hc121 => ?_)
        refine g_iload w d9_124 rfl 126 rfl ?_
        refine g_iload w d9_126 rfl 128 rfl ?_
        refine g_icmp_gt w d9_128 148 (by decide) (by decide) 131 rfl (fun h => absurd h (by decide)) (fun hc128 => ?_)
        refine g_aloadN w d9_131 rfl rfl 132 rfl ?_
        refine g_aloadN w d9_132 rfl rfl 133 rfl ?_
        refine g_iload w d9_133 rfl 135 rfl ?_
        refine g_iload w d9_135 rfl 137 rfl ?_
        refine g_priv w (argsL := [(.ref hd), (.int (2 : Int32)), (.int (3 : Int32))]) (rest := []) (rm11_1 l Z a0 hw n0 t sa ba me ki am hd x0 x1 x2 x3 mo ct v1 ms ks c M 1 2 3 1 2 3 x1 x2 x3 hmo hM hct (by omega) hG rfl (by decide) rfl rfl N1 rfl (by decide) rfl rfl N2 rfl (by decide) rfl rfl N3 (by omega)) d9_137 0 rfl 77 rfl 78 rfl 10 rfl 80 rfl 79 rfl 9 rfl ⟨by decide, by decide⟩ pd_1 rfl rfl rfl 0 rfl (by decide) (by decide) (by decide) (by decide) 140 rfl (fun T v L w h => ?_)
        obtain ⟨rr, ct_u12, c_u12, ms_u12, ks_u12, rfl, hct_u12, hG_u12, hL, hor⟩ := h
        replace w := w.to hL
        rcases hor with ⟨rfl, hk_u12, hm_u12⟩ | ⟨rfl, hk_u12, hm_u12⟩
        · -- pc 140 room 1
          refine g_istore w d9_140 142 rfl rfl #[.val (.ref t), .val (.ref hd), .val (.int (2 : Int32)), .val (.long sm), .second, .val (.int (1 : Int32)), .val (.int (2 : Int32)), .val (.int (3 : Int32)), .val (.long v2), .second, .val (.int (2 : Int32)), .val (.int (3 : Int32)), .unset, .unset] rfl ?_
          refine g_iinc w d9_142 145 rfl rfl (by decide) #[.val (.ref t), .val (.ref hd), .val (.int (2 : Int32)), .val (.long sm), .second, .val (.int (1 : Int32)), .val (.int (2 : Int32)), .val (.int (3 : Int32)), .val (.long v2), .second, .val (.int (2 : Int32)), .val (.int (4 : Int32)), .unset, .unset] rfl ?_
          refine g_goto w d9_145 119 (by decide) (by decide) ?_
          refine g_iload w d9_119 rfl 121 rfl ?_
          refine g_if_eq w d9_121 148 (by decide) (by decide) 124 rfl (fun h => absurd h (by decide)) (fun hc121 => ?_)
          refine g_iload w d9_124 rfl 126 rfl ?_
          refine g_iload w d9_126 rfl 128 rfl ?_
          refine g_icmp_gt w d9_128 148 (by decide) (by decide) 131 rfl (fun hc128 => ?_) (fun h => absurd (by decide) h)
          refine g_iinc w d9_148 151 rfl rfl (by decide) #[.val (.ref t), .val (.ref hd), .val (.int (2 : Int32)), .val (.long sm), .second, .val (.int (1 : Int32)), .val (.int (2 : Int32)), .val (.int (3 : Int32)), .val (.long v2), .second, .val (.int (3 : Int32)), .val (.int (4 : Int32)), .unset, .unset] rfl ?_
          refine g_goto w d9_151 101 (by decide) (by decide) ?_
          refine g_iload w d9_101 rfl 103 rfl ?_
          refine g_if_eq w d9_103 154 (by decide) (by decide) 106 rfl (fun h => absurd h (by decide)) (fun hc103 => ?_)
          refine g_iload w d9_106 rfl 108 rfl ?_
          refine g_iload w d9_108 rfl 110 rfl ?_
          refine g_icmp_ge w d9_110 154 (by decide) (by decide) 113 rfl (fun hc110 => ?_) (fun h => absurd h (by decide))
          refine g_iload w d9_154 rfl 156 rfl ?_
          refine g_istore w d9_156 158 rfl rfl #[.val (.ref t), .val (.ref hd), .val (.int (2 : Int32)), .val (.long sm), .second, .val (.int (1 : Int32)), .val (.int (3 : Int32)), .val (.int (3 : Int32)), .val (.long v2), .second, .val (.int (3 : Int32)), .val (.int (4 : Int32)), .unset, .unset] rfl ?_
          refine g_goto w d9_158 288 (by decide) (by decide) ?_
          refine g_goto w d9_288 14 (by decide) (by decide) ?_
          refine g_iload w d9_14 rfl 16 rfl ?_
          refine g_if_eq w d9_16 291 (by decide) (by decide) 19 rfl (fun h => absurd h (by decide)) (fun hc16 => ?_)
          refine g_iload w d9_19 rfl 21 rfl ?_
          refine g_iload w d9_21 rfl 23 rfl ?_
          refine g_icmp_ge w d9_23 291 (by decide) (by decide) 26 rfl (fun hc23 => ?_) (fun h => absurd h (by decide))
          refine g_iload w d9_291 rfl 293 rfl ?_
          replace w := w.cut (L' := [(t, O_SmallGroups (.ref me) (.ref ki) (.int (4 : Int32)) (.ref ba) (.ref am) (.int mo) (.int (0 : Int32)) .null .null (.int ct_u12) .null .null (.long v1)), (sa, .inr (.long, [(.long x0), (.long x1), (.long x2), (.long x3)])), (ba, .inr (.int, [(.int (0 : Int32)), (.int (1 : Int32)), (.int (2 : Int32)), (.int (3 : Int32))])), (me, .inr (.int, ms_u12)), (ki, .inr (.byte, ks_u12)), (am, .inr (.long, [(.long x0), (.long x1), (.long x2), (.long x3)]))]) (R' := [(hd, .inr (.int, [(.int (1 : Int32))]))]) rfl
          exact g_iretn w (by simp) d9_293 (by decide) (by decide) ⟨1, ct_u12, c_u12, ms_u12, ks_u12, v1, rfl, hct_u12, hG_u12, by omega, by omega, rfl, Or.inl ⟨rfl, by omega⟩⟩
        · -- pc 140 room 0
          refine g_istore w d9_140 142 rfl rfl #[.val (.ref t), .val (.ref hd), .val (.int (2 : Int32)), .val (.long sm), .second, .val (.int (0 : Int32)), .val (.int (2 : Int32)), .val (.int (3 : Int32)), .val (.long v2), .second, .val (.int (2 : Int32)), .val (.int (3 : Int32)), .unset, .unset] rfl ?_
          refine g_iinc w d9_142 145 rfl rfl (by decide) #[.val (.ref t), .val (.ref hd), .val (.int (2 : Int32)), .val (.long sm), .second, .val (.int (0 : Int32)), .val (.int (2 : Int32)), .val (.int (3 : Int32)), .val (.long v2), .second, .val (.int (2 : Int32)), .val (.int (4 : Int32)), .unset, .unset] rfl ?_
          refine g_goto w d9_145 119 (by decide) (by decide) ?_
          refine g_iload w d9_119 rfl 121 rfl ?_
          refine g_if_eq w d9_121 148 (by decide) (by decide) 124 rfl (fun hc121 => ?_) (fun h => absurd (by decide) h)
          refine g_iinc w d9_148 151 rfl rfl (by decide) #[.val (.ref t), .val (.ref hd), .val (.int (2 : Int32)), .val (.long sm), .second, .val (.int (0 : Int32)), .val (.int (2 : Int32)), .val (.int (3 : Int32)), .val (.long v2), .second, .val (.int (3 : Int32)), .val (.int (4 : Int32)), .unset, .unset] rfl ?_
          refine g_goto w d9_151 101 (by decide) (by decide) ?_
          refine g_iload w d9_101 rfl 103 rfl ?_
          refine g_if_eq w d9_103 154 (by decide) (by decide) 106 rfl (fun hc103 => ?_) (fun h => absurd (by decide) h)
          refine g_iload w d9_154 rfl 156 rfl ?_
          refine g_istore w d9_156 158 rfl rfl #[.val (.ref t), .val (.ref hd), .val (.int (2 : Int32)), .val (.long sm), .second, .val (.int (0 : Int32)), .val (.int (3 : Int32)), .val (.int (3 : Int32)), .val (.long v2), .second, .val (.int (3 : Int32)), .val (.int (4 : Int32)), .unset, .unset] rfl ?_
          refine g_goto w d9_158 288 (by decide) (by decide) ?_
          refine g_goto w d9_288 14 (by decide) (by decide) ?_
          refine g_iload w d9_14 rfl 16 rfl ?_
          refine g_if_eq w d9_16 291 (by decide) (by decide) 19 rfl (fun hc16 => ?_) (fun h => absurd (by decide) h)
          refine g_iload w d9_291 rfl 293 rfl ?_
          replace w := w.cut (L' := [(t, O_SmallGroups (.ref me) (.ref ki) (.int (4 : Int32)) (.ref ba) (.ref am) (.int mo) (.int (0 : Int32)) .null .null (.int ct_u12) .null .null (.long v1)), (sa, .inr (.long, [(.long x0), (.long x1), (.long x2), (.long x3)])), (ba, .inr (.int, [(.int (0 : Int32)), (.int (1 : Int32)), (.int (2 : Int32)), (.int (3 : Int32))])), (me, .inr (.int, ms_u12)), (ki, .inr (.byte, ks_u12)), (am, .inr (.long, [(.long x0), (.long x1), (.long x2), (.long x3)]))]) (R' := [(hd, .inr (.int, [(.int (1 : Int32))]))]) rfl
          exact g_iretn w (by simp) d9_293 (by decide) (by decide) ⟨0, ct_u12, c_u12, ms_u12, ks_u12, v1, rfl, hct_u12, hG_u12, by omega, by omega, rfl, Or.inr ⟨rfl, by omega⟩⟩
    · -- pc 73 (on: sm < v2)
      have q13 := (own_ltL hsm hp_v2).mp hc70
      refine g_iinc w d9_73 76 rfl rfl (by decide) #[.val (.ref t), .val (.ref hd), .val (.int (2 : Int32)), .val (.long sm), .second, .val (.int (1 : Int32)), .val (.int (2 : Int32)), .val (.int (2 : Int32)), .val (.long v2), .second, .unset, .unset, .unset, .unset] rfl ?_
      refine g_goto w d9_76 288 (by decide) (by decide) ?_
      refine g_goto w d9_288 14 (by decide) (by decide) ?_
      refine g_iload w d9_14 rfl 16 rfl ?_
      refine g_if_eq w d9_16 291 (by decide) (by decide) 19 rfl (fun h => absurd h (by decide)) (fun hc16 => ?_)
      refine g_iload w d9_19 rfl 21 rfl ?_
      refine g_iload w d9_21 rfl 23 rfl ?_
      refine g_icmp_ge w d9_23 291 (by decide) (by decide) 26 rfl (fun hc23 => ?_) (fun h => absurd h (by decide))
      refine g_iload w d9_291 rfl 293 rfl ?_
      replace w := w.cut (L' := [(t, O_SmallGroups (.ref me) (.ref ki) (.int (4 : Int32)) (.ref ba) (.ref am) (.int mo) (.int (0 : Int32)) .null .null (.int ct) .null .null (.long v1)), (sa, .inr (.long, [(.long x0), (.long x1), (.long x2), (.long x3)])), (ba, .inr (.int, [(.int (0 : Int32)), (.int (1 : Int32)), (.int (2 : Int32)), (.int (3 : Int32))])), (me, .inr (.int, ms)), (ki, .inr (.byte, ks)), (am, .inr (.long, [(.long x0), (.long x1), (.long x2), (.long x3)]))]) (R' := [(hd, .inr (.int, [(.int (1 : Int32))]))]) rfl
      exact g_iretn w (by simp) d9_293 (by decide) (by decide) ⟨1, ct, c, ms, ks, v1, rfl, hct, hG, by omega, by omega, rfl, Or.inl ⟨rfl, by omega⟩⟩
  · -- pc 60 (on: v2 < sm)
    have q14 := (own_ltL hp_v2 hsm).mp hc57
    refine g_iinc w d9_60 63 rfl rfl (by decide) #[.val (.ref t), .val (.ref hd), .val (.int (2 : Int32)), .val (.long sm), .second, .val (.int (1 : Int32)), .val (.int (3 : Int32)), .val (.int (3 : Int32)), .val (.long v2), .second, .unset, .unset, .unset, .unset] rfl ?_
    refine g_goto w d9_63 288 (by decide) (by decide) ?_
    refine g_goto w d9_288 14 (by decide) (by decide) ?_
    refine g_iload w d9_14 rfl 16 rfl ?_
    refine g_if_eq w d9_16 291 (by decide) (by decide) 19 rfl (fun h => absurd h (by decide)) (fun hc16 => ?_)
    refine g_iload w d9_19 rfl 21 rfl ?_
    refine g_iload w d9_21 rfl 23 rfl ?_
    refine g_icmp_ge w d9_23 291 (by decide) (by decide) 26 rfl (fun hc23 => ?_) (fun h => absurd h (by decide))
    refine g_iload w d9_291 rfl 293 rfl ?_
    replace w := w.cut (L' := [(t, O_SmallGroups (.ref me) (.ref ki) (.int (4 : Int32)) (.ref ba) (.ref am) (.int mo) (.int (0 : Int32)) .null .null (.int ct) .null .null (.long v1)), (sa, .inr (.long, [(.long x0), (.long x1), (.long x2), (.long x3)])), (ba, .inr (.int, [(.int (0 : Int32)), (.int (1 : Int32)), (.int (2 : Int32)), (.int (3 : Int32))])), (me, .inr (.int, ms)), (ki, .inr (.byte, ks)), (am, .inr (.long, [(.long x0), (.long x1), (.long x2), (.long x3)]))]) (R' := [(hd, .inr (.int, [(.int (1 : Int32))]))]) rfl
    exact g_iretn w (by simp) d9_293 (by decide) (by decide) ⟨1, ct, c, ms, ks, v1, rfl, hct, hG, by omega, by omega, rfl, Or.inl ⟨rfl, by omega⟩⟩
set_option maxRecDepth 65536 in
set_option maxHeartbeats 40000000 in
theorem rm9_01 (l : Launch) (Z : State) (a0 : Array Value) (hw : ∀ d ∈ tables_1, d.before a0 Z = true) (n0 : Nat) (t sa ba me ki am hd : Addr) (x0 x1 x2 x3 : Int64) (mo ct : Int32) (ls : Int64) (ms ks : List Value) (c M : Nat) (sm : Int64) (hmo : mo.toInt = (M : Int)) (hM : M ≤ 7) (hct : ct.toInt = (c : Int)) (hcM : c ≤ M) (hG : own_G c ms ks) (hA : own_A x0 x1 x2 x3) (hsm : sm.toInt = -x0.toInt - x1.toInt) :
    Con l (⟨"com/example/cangdan/cangdan/fewest/SmallGroups", "pairs", "([IIJ)Z"⟩ : MethodName) prog_29_method_15_code 14 (some .boolean) ({ frames := 2, cells := 0, slots := 0, locals := 36 } : Room) Z n0 #[(.ref t), (.ref hd), (.int (2 : Int32)), (.long sm)] ([(t, O_SmallGroups (.ref me) (.ref ki) (.int (4 : Int32)) (.ref ba) (.ref am) (.int mo) (.int (0 : Int32)) .null .null (.int ct) .null .null (.long ls)), (sa, .inr (.long, [(.long x0), (.long x1), (.long x2), (.long x3)])), (ba, .inr (.int, [(.int (0 : Int32)), (.int (1 : Int32)), (.int (2 : Int32)), (.int (3 : Int32))])), (me, .inr (.int, ms)), (ki, .inr (.byte, ks)), (am, .inr (.long, [(.long x0), (.long x1), (.long x2), (.long x3)])), (hd, .inr (.int, [(.int (0 : Int32)), (.int (1 : Int32))]))]) (fun v L' => ∃ (rr ct' : Int32) (c' : Nat) (ms' ks' : List Value) (ls' : Int64), v = some (.int rr) ∧ ct'.toInt = (c' : Int) ∧ own_G c' ms' ks' ∧ c ≤ c' ∧ c' ≤ M ∧ L' = [(t, O_SmallGroups (.ref me) (.ref ki) (.int (4 : Int32)) (.ref ba) (.ref am) (.int mo) (.int (0 : Int32)) .null .null (.int ct') .null .null (.long ls')), (sa, .inr (.long, [(.long x0), (.long x1), (.long x2), (.long x3)])), (ba, .inr (.int, [(.int (0 : Int32)), (.int (1 : Int32)), (.int (2 : Int32)), (.int (3 : Int32))])), (me, .inr (.int, ms')), (ki, .inr (.byte, ks')), (am, .inr (.long, [(.long x0), (.long x1), (.long x2), (.long x3)]))] ∧ ((rr = 1 ∧ c' = c + (own_zn (x0.toInt + x1.toInt + x2.toInt + x3.toInt))) ∨ (rr = 0 ∧ M < c + (own_zn (x0.toInt + x1.toInt + x2.toInt + x3.toInt))))) := by
  refine Con.of (ws := tables_1) (a0 := a0) pn_9 hw ?_
  intro p e s m below meth cde T kb w
  refine g_entry #[.val (.ref t), .val (.ref hd), .val (.int (2 : Int32)), .val (.long sm), .second, .unset, .unset, .unset, .unset, .unset, .unset, .unset, .unset, .unset] (by first | (simp [entryFrame, mkF, argsToLocals, Value.category]; done) | rfl) ?_
  obtain ⟨A0, A1, A2, A3, A4, N0, N1, N2, N3⟩ := id hA
  have e0 := own_zn_c (x0.toInt + x1.toInt + x2.toInt + x3.toInt)
  refine g_iconst w d9_0 (1 : Int32) rfl 1 rfl ?_
  refine g_istore w d9_1 3 rfl rfl #[.val (.ref t), .val (.ref hd), .val (.int (2 : Int32)), .val (.long sm), .second, .val (.int (1 : Int32)), .unset, .unset, .unset, .unset, .unset, .unset, .unset, .unset] rfl ?_
  refine g_iloadN w d9_3 rfl 4 rfl ?_
  refine g_istore w d9_4 6 rfl rfl #[.val (.ref t), .val (.ref hd), .val (.int (2 : Int32)), .val (.long sm), .second, .val (.int (1 : Int32)), .val (.int (2 : Int32)), .unset, .unset, .unset, .unset, .unset, .unset, .unset] rfl ?_
  refine g_aloadN w d9_6 rfl rfl 7 rfl ?_
  refine g_getf w d9_7 0 rfl 2 rfl 24 rfl Via.refl 10 rfl (fun T w => ?_)
  refine g_iconst w d9_10 (1 : Int32) rfl 11 rfl ?_
  refine g_isub w d9_11 12 rfl ?_
  refine g_int (x' := (3 : Int32)) (by decide) ?_
  refine g_istore w d9_12 14 rfl rfl #[.val (.ref t), .val (.ref hd), .val (.int (2 : Int32)), .val (.long sm), .second, .val (.int (1 : Int32)), .val (.int (2 : Int32)), .val (.int (3 : Int32)), .unset, .unset, .unset, .unset, .unset, .unset] rfl ?_
  refine g_iload w d9_14 rfl 16 rfl ?_
  refine g_if_eq w d9_16 291 (by decide) (by decide) 19 rfl (fun h => absurd h (by decide)) (fun hc16 => ?_)
  refine g_iload w d9_19 rfl 21 rfl ?_
  refine g_iload w d9_21 rfl 23 rfl ?_
  refine g_icmp_ge w d9_23 291 (by decide) (by decide) 26 rfl (fun h => absurd (by decide) h) (fun hc23 => ?_)
  refine g_aloadN w d9_26 rfl rfl 27 rfl ?_
  refine g_dup w d9_27 rfl 28 rfl ?_
  refine g_getf w d9_28 0 rfl 12 rfl 57 rfl Via.refl 31 rfl (fun T w => ?_)
  refine g_lconst w d9_31 (1 : Int64) rfl 32 rfl ?_
  refine g_ladd w d9_32 33 rfl ?_
  obtain ⟨v1, hv1⟩ : ∃ own_z, own_z = ((ls + (1 : Int64)) : Int64) := ⟨_, rfl⟩
  refine g_long hv1.symm ?_
  refine g_putf w d9_33 0 rfl 12 rfl 57 rfl Via.refl 58 (Or.inl rfl) 9 rfl (ty := .long) (by decide) rfl rfl 36 rfl (fun T w => ?_)
  replace w := w.to (L' := [(t, O_SmallGroups (.ref me) (.ref ki) (.int (4 : Int32)) (.ref ba) (.ref am) (.int mo) (.int (0 : Int32)) .null .null (.int ct) .null .null (.long v1)), (sa, .inr (.long, [(.long x0), (.long x1), (.long x2), (.long x3)])), (ba, .inr (.int, [(.int (0 : Int32)), (.int (1 : Int32)), (.int (2 : Int32)), (.int (3 : Int32))])), (me, .inr (.int, ms)), (ki, .inr (.byte, ks)), (am, .inr (.long, [(.long x0), (.long x1), (.long x2), (.long x3)])), (hd, .inr (.int, [(.int (0 : Int32)), (.int (1 : Int32))]))]) rfl
  refine g_aloadN w d9_36 rfl rfl 37 rfl ?_
  refine g_getf w d9_37 0 rfl 4 rfl 28 rfl Via.refl 40 rfl (fun T w => ?_)
  refine g_iload w d9_40 rfl 42 rfl ?_
  refine g_laload w d9_42 5 rfl 2 (by decide) rfl 43 rfl ?_
  refine g_aloadN w d9_43 rfl rfl 44 rfl ?_
  refine g_getf w d9_44 0 rfl 4 rfl 28 rfl Via.refl 47 rfl (fun T w => ?_)
  refine g_iload w d9_47 rfl 49 rfl ?_
  refine g_laload w d9_49 5 rfl 3 (by decide) rfl 50 rfl ?_
  refine g_ladd w d9_50 51 rfl ?_
  obtain ⟨v2, hv2⟩ : ∃ own_z, own_z = ((x2 + x3) : Int64) := ⟨_, rfl⟩
  refine g_lstore w d9_51 53 rfl hv2.symm #[.val (.ref t), .val (.ref hd), .val (.int (2 : Int32)), .val (.long sm), .second, .val (.int (1 : Int32)), .val (.int (2 : Int32)), .val (.int (3 : Int32)), .val (.long v2), .second, .unset, .unset, .unset, .unset] rfl ?_
  have hp_v2 : v2.toInt = x2.toInt + x3.toInt := by rw [hv2]; exact own_ladd rfl rfl (by omega) (by omega) (by omega) (by omega)
  refine g_lload w d9_53 rfl 55 rfl ?_
  refine g_lloadN w d9_55 rfl 56 rfl ?_
  refine g_lcmp w d9_56 57 rfl ?_
  refine g_lif_ge w d9_57 66 (by decide) (by decide) 60 rfl (fun hc57 => ?_) (fun hc57 => ?_)
  · -- pc 66 (taken: not v2 < sm)
    have q3 := mt (own_ltL hp_v2 hsm).mpr hc57
    refine g_lload w d9_66 rfl 68 rfl ?_
    refine g_lloadN w d9_68 rfl 69 rfl ?_
    refine g_lcmp w d9_69 70 rfl ?_
    refine g_lif_le w d9_70 79 (by decide) (by decide) 73 rfl (fun hc70 => ?_) (fun hc70 => ?_)
    · -- pc 79 (taken: not sm < v2)
      have q4 := mt (own_ltL hsm hp_v2).mpr hc70
      refine g_aloadN w d9_79 rfl rfl 80 rfl ?_
      refine g_getf w d9_80 0 rfl 4 rfl 28 rfl Via.refl 83 rfl (fun T w => ?_)
      refine g_iload w d9_83 rfl 85 rfl ?_
      refine g_laload w d9_85 5 rfl 2 (by decide) rfl 86 rfl ?_
      refine g_aloadN w d9_86 rfl rfl 87 rfl ?_
      refine g_getf w d9_87 0 rfl 4 rfl 28 rfl Via.refl 90 rfl (fun T w => ?_)
      refine g_iload w d9_90 rfl 92 rfl ?_
      refine g_laload w d9_92 5 rfl 3 (by decide) rfl 93 rfl ?_
      refine g_lcmp w d9_93 94 rfl ?_
      refine g_lif_ne w d9_94 161 (by decide) (by decide) 97 rfl (fun hc94 => ?_) (fun hc94 => ?_)
      · -- pc 161 (taken: not x2 = x3)
        have q5 := mt Int64.toInt_inj.mp hc94
        refine g_iload w d9_161 rfl 163 rfl ?_
        refine g_istore w d9_163 165 rfl rfl #[.val (.ref t), .val (.ref hd), .val (.int (2 : Int32)), .val (.long sm), .second, .val (.int (1 : Int32)), .val (.int (2 : Int32)), .val (.int (3 : Int32)), .val (.long v2), .second, .val (.int (2 : Int32)), .unset, .unset, .unset] rfl ?_
        refine g_aloadN w d9_165 rfl rfl 166 rfl ?_
        refine g_getf w d9_166 0 rfl 4 rfl 28 rfl Via.refl 169 rfl (fun T w => ?_)
        refine g_iload w d9_169 rfl 171 rfl ?_
        refine g_iconst w d9_171 (1 : Int32) rfl 172 rfl ?_
        refine g_iadd w d9_172 173 rfl ?_
        refine g_int (x' := (3 : Int32)) (by decide) ?_
        refine g_laload w d9_173 5 rfl 3 (by decide) rfl 174 rfl ?_
        refine g_aloadN w d9_174 rfl rfl 175 rfl ?_
        refine g_getf w d9_175 0 rfl 4 rfl 28 rfl Via.refl 178 rfl (fun T w => ?_)
        refine g_iload w d9_178 rfl 180 rfl ?_
        refine g_laload w d9_180 5 rfl 2 (by decide) rfl 181 rfl ?_
        refine g_lcmp w d9_181 182 rfl ?_
        refine g_lif_ne w d9_182 191 (by decide) (by decide) 185 rfl (fun hc182 => ?_) (fun hc182 => ?_)
        · -- pc 191 (taken: not x3 = x2)
          have q6 := mt Int64.toInt_inj.mp hc182
          refine g_iload w d9_191 rfl 193 rfl ?_
          refine g_istore w d9_193 195 rfl rfl #[.val (.ref t), .val (.ref hd), .val (.int (2 : Int32)), .val (.long sm), .second, .val (.int (1 : Int32)), .val (.int (2 : Int32)), .val (.int (3 : Int32)), .val (.long v2), .second, .val (.int (2 : Int32)), .val (.int (3 : Int32)), .unset, .unset] rfl ?_
          refine g_aloadN w d9_195 rfl rfl 196 rfl ?_
          refine g_getf w d9_196 0 rfl 4 rfl 28 rfl Via.refl 199 rfl (fun T w => ?_)
          refine g_iload w d9_199 rfl 201 rfl ?_
          refine g_iconst w d9_201 (1 : Int32) rfl 202 rfl ?_
          refine g_isub w d9_202 203 rfl ?_
          refine g_int (x' := (2 : Int32)) (by decide) ?_
          refine g_laload w d9_203 5 rfl 2 (by decide) rfl 204 rfl ?_
          refine g_aloadN w d9_204 rfl rfl 205 rfl ?_
          refine g_getf w d9_205 0 rfl 4 rfl 28 rfl Via.refl 208 rfl (fun T w => ?_)
          refine g_iload w d9_208 rfl 210 rfl ?_
          refine g_laload w d9_210 5 rfl 3 (by decide) rfl 211 rfl ?_
          refine g_lcmp w d9_211 212 rfl ?_
          refine g_lif_ne w d9_212 221 (by decide) (by decide) 215 rfl (fun hc212 => ?_) (fun hc212 => ?_)
          · -- pc 221 (taken: not x2 = x3)
            have q7 := mt Int64.toInt_inj.mp hc212
            refine g_iload w d9_221 rfl 223 rfl ?_
            refine g_istore w d9_223 225 rfl rfl #[.val (.ref t), .val (.ref hd), .val (.int (2 : Int32)), .val (.long sm), .second, .val (.int (1 : Int32)), .val (.int (2 : Int32)), .val (.int (3 : Int32)), .val (.long v2), .second, .val (.int (2 : Int32)), .val (.int (3 : Int32)), .val (.int (2 : Int32)), .unset] rfl ?_
            refine g_iload w d9_225 rfl 227 rfl ?_
            refine g_if_eq w d9_227 276 (by decide) (by decide) 230 rfl (fun h => absurd h (by decide)) (fun hc227 => ?_)
            refine g_iload w d9_230 rfl 232 rfl ?_
            refine g_iload w d9_232 rfl 234 rfl ?_
            refine g_icmp_gt w d9_234 276 (by decide) (by decide) 237 rfl (fun h => absurd h (by decide)) (fun hc234 => ?_)
            refine g_iload w d9_237 rfl 239 rfl ?_
            refine g_istore w d9_239 241 rfl rfl #[.val (.ref t), .val (.ref hd), .val (.int (2 : Int32)), .val (.long sm), .second, .val (.int (1 : Int32)), .val (.int (2 : Int32)), .val (.int (3 : Int32)), .val (.long v2), .second, .val (.int (2 : Int32)), .val (.int (3 : Int32)), .val (.int (2 : Int32)), .val (.int (3 : Int32))] rfl ?_
            refine g_iload w d9_241 rfl 243 rfl ?_
            refine g_if_eq w d9_243 270 (by decide) (by decide) 246 rfl (fun h => absurd h (by decide)) (fun hc243 => ?_)
            refine g_iload w d9_246 rfl 248 rfl ?_
            refine g_iload w d9_248 rfl 250 rfl ?_
            refine g_icmp_gt w d9_250 270 (by decide) (by decide) 253 rfl (fun h => absurd h (by decide)) (fun hc250 => ?_)
            refine g_aloadN w d9_253 rfl rfl 254 rfl ?_
            refine g_aloadN w d9_254 rfl rfl 255 rfl ?_
            refine g_iload w d9_255 rfl 257 rfl ?_
            refine g_iload w d9_257 rfl 259 rfl ?_
            refine g_priv w (argsL := [(.ref hd), (.int (2 : Int32)), (.int (3 : Int32))]) (rest := []) (rm11_2 l Z a0 hw n0 t sa ba me ki am hd x0 x1 x2 x3 mo ct v1 ms ks c M 0 1 2 3 0 1 2 3 x0 x1 x2 x3 hmo hM hct (by omega) hG rfl (by decide) rfl rfl N0 rfl (by decide) rfl rfl N1 rfl (by decide) rfl rfl N2 rfl (by decide) rfl rfl N3 (by omega)) d9_259 0 rfl 77 rfl 78 rfl 10 rfl 80 rfl 79 rfl 9 rfl ⟨by decide, by decide⟩ pd_1 rfl rfl rfl 0 rfl (by decide) (by decide) (by decide) (by decide) 262 rfl (fun T v L w h => ?_)
            obtain ⟨rr, ct_u8, c_u8, ms_u8, ks_u8, rfl, hct_u8, hG_u8, hL, hor⟩ := h
            replace w := w.to hL
            rcases hor with ⟨rfl, hk_u8, hm_u8⟩ | ⟨rfl, hk_u8, hm_u8⟩
            · -- pc 262 room 1
              refine g_istore w d9_262 264 rfl rfl #[.val (.ref t), .val (.ref hd), .val (.int (2 : Int32)), .val (.long sm), .second, .val (.int (1 : Int32)), .val (.int (2 : Int32)), .val (.int (3 : Int32)), .val (.long v2), .second, .val (.int (2 : Int32)), .val (.int (3 : Int32)), .val (.int (2 : Int32)), .val (.int (3 : Int32))] rfl ?_
              refine g_iinc w d9_264 267 rfl rfl (by decide) #[.val (.ref t), .val (.ref hd), .val (.int (2 : Int32)), .val (.long sm), .second, .val (.int (1 : Int32)), .val (.int (2 : Int32)), .val (.int (3 : Int32)), .val (.long v2), .second, .val (.int (2 : Int32)), .val (.int (3 : Int32)), .val (.int (2 : Int32)), .val (.int (4 : Int32))] rfl ?_
              refine g_goto w d9_267 241 (by decide) (by decide) ?_
              refine g_iload w d9_241 rfl 243 rfl ?_
              refine g_if_eq w d9_243 270 (by decide) (by decide) 246 rfl (fun h => absurd h (by decide)) (fun hc243 => ?_)
              refine g_iload w d9_246 rfl 248 rfl ?_
              refine g_iload w d9_248 rfl 250 rfl ?_
              refine g_icmp_gt w d9_250 270 (by decide) (by decide) 253 rfl (fun hc250 => ?_) (fun h => absurd (by decide) h)
              refine g_iinc w d9_270 273 rfl rfl (by decide) #[.val (.ref t), .val (.ref hd), .val (.int (2 : Int32)), .val (.long sm), .second, .val (.int (1 : Int32)), .val (.int (2 : Int32)), .val (.int (3 : Int32)), .val (.long v2), .second, .val (.int (2 : Int32)), .val (.int (3 : Int32)), .val (.int (3 : Int32)), .val (.int (4 : Int32))] rfl ?_
              refine g_goto w d9_273 225 (by decide) (by decide) ?_
              refine g_iload w d9_225 rfl 227 rfl ?_
              refine g_if_eq w d9_227 276 (by decide) (by decide) 230 rfl (fun h => absurd h (by decide)) (fun hc227 => ?_)
              refine g_iload w d9_230 rfl 232 rfl ?_
              refine g_iload w d9_232 rfl 234 rfl ?_
              refine g_icmp_gt w d9_234 276 (by decide) (by decide) 237 rfl (fun hc234 => ?_) (fun h => absurd (by decide) h)
              refine g_iload w d9_276 rfl 278 rfl ?_
              refine g_iconst w d9_278 (1 : Int32) rfl 279 rfl ?_
              refine g_iadd w d9_279 280 rfl ?_
              refine g_int (x' := (3 : Int32)) (by decide) ?_
              refine g_istore w d9_280 282 rfl rfl #[.val (.ref t), .val (.ref hd), .val (.int (2 : Int32)), .val (.long sm), .second, .val (.int (1 : Int32)), .val (.int (3 : Int32)), .val (.int (3 : Int32)), .val (.long v2), .second, .val (.int (2 : Int32)), .val (.int (3 : Int32)), .val (.int (3 : Int32)), .val (.int (4 : Int32))] rfl ?_
              refine g_iload w d9_282 rfl 284 rfl ?_
              refine g_iconst w d9_284 (1 : Int32) rfl 285 rfl ?_
              refine g_isub w d9_285 286 rfl ?_
              refine g_int (x' := (2 : Int32)) (by decide) ?_
              refine g_istore w d9_286 288 rfl rfl #[.val (.ref t), .val (.ref hd), .val (.int (2 : Int32)), .val (.long sm), .second, .val (.int (1 : Int32)), .val (.int (3 : Int32)), .val (.int (2 : Int32)), .val (.long v2), .second, .val (.int (2 : Int32)), .val (.int (3 : Int32)), .val (.int (3 : Int32)), .val (.int (4 : Int32))] rfl ?_
              refine g_goto w d9_288 14 (by decide) (by decide) ?_
              refine g_iload w d9_14 rfl 16 rfl ?_
              refine g_if_eq w d9_16 291 (by decide) (by decide) 19 rfl (fun h => absurd h (by decide)) (fun hc16 => ?_)
              refine g_iload w d9_19 rfl 21 rfl ?_
              refine g_iload w d9_21 rfl 23 rfl ?_
              refine g_icmp_ge w d9_23 291 (by decide) (by decide) 26 rfl (fun hc23 => ?_) (fun h => absurd h (by decide))
              refine g_iload w d9_291 rfl 293 rfl ?_
              replace w := w.cut (L' := [(t, O_SmallGroups (.ref me) (.ref ki) (.int (4 : Int32)) (.ref ba) (.ref am) (.int mo) (.int (0 : Int32)) .null .null (.int ct_u8) .null .null (.long v1)), (sa, .inr (.long, [(.long x0), (.long x1), (.long x2), (.long x3)])), (ba, .inr (.int, [(.int (0 : Int32)), (.int (1 : Int32)), (.int (2 : Int32)), (.int (3 : Int32))])), (me, .inr (.int, ms_u8)), (ki, .inr (.byte, ks_u8)), (am, .inr (.long, [(.long x0), (.long x1), (.long x2), (.long x3)]))]) (R' := [(hd, .inr (.int, [(.int (0 : Int32)), (.int (1 : Int32))]))]) rfl
              exact g_iretn w (by simp) d9_293 (by decide) (by decide) ⟨1, ct_u8, c_u8, ms_u8, ks_u8, v1, rfl, hct_u8, hG_u8, by omega, by omega, rfl, Or.inl ⟨rfl, by omega⟩⟩
            · -- pc 262 room 0
              refine g_istore w d9_262 264 rfl rfl #[.val (.ref t), .val (.ref hd), .val (.int (2 : Int32)), .val (.long sm), .second, .val (.int (0 : Int32)), .val (.int (2 : Int32)), .val (.int (3 : Int32)), .val (.long v2), .second, .val (.int (2 : Int32)), .val (.int (3 : Int32)), .val (.int (2 : Int32)), .val (.int (3 : Int32))] rfl ?_
              refine g_iinc w d9_264 267 rfl rfl (by decide) #[.val (.ref t), .val (.ref hd), .val (.int (2 : Int32)), .val (.long sm), .second, .val (.int (0 : Int32)), .val (.int (2 : Int32)), .val (.int (3 : Int32)), .val (.long v2), .second, .val (.int (2 : Int32)), .val (.int (3 : Int32)), .val (.int (2 : Int32)), .val (.int (4 : Int32))] rfl ?_
              refine g_goto w d9_267 241 (by decide) (by decide) ?_
              refine g_iload w d9_241 rfl 243 rfl ?_
              refine g_if_eq w d9_243 270 (by decide) (by decide) 246 rfl (fun hc243 => ?_) (fun h => absurd (by decide) h)
              refine g_iinc w d9_270 273 rfl rfl (by decide) #[.val (.ref t), .val (.ref hd), .val (.int (2 : Int32)), .val (.long sm), .second, .val (.int (0 : Int32)), .val (.int (2 : Int32)), .val (.int (3 : Int32)), .val (.long v2), .second, .val (.int (2 : Int32)), .val (.int (3 : Int32)), .val (.int (3 : Int32)), .val (.int (4 : Int32))] rfl ?_
              refine g_goto w d9_273 225 (by decide) (by decide) ?_
              refine g_iload w d9_225 rfl 227 rfl ?_
              refine g_if_eq w d9_227 276 (by decide) (by decide) 230 rfl (fun hc227 => ?_) (fun h => absurd (by decide) h)
              refine g_iload w d9_276 rfl 278 rfl ?_
              refine g_iconst w d9_278 (1 : Int32) rfl 279 rfl ?_
              refine g_iadd w d9_279 280 rfl ?_
              refine g_int (x' := (3 : Int32)) (by decide) ?_
              refine g_istore w d9_280 282 rfl rfl #[.val (.ref t), .val (.ref hd), .val (.int (2 : Int32)), .val (.long sm), .second, .val (.int (0 : Int32)), .val (.int (3 : Int32)), .val (.int (3 : Int32)), .val (.long v2), .second, .val (.int (2 : Int32)), .val (.int (3 : Int32)), .val (.int (3 : Int32)), .val (.int (4 : Int32))] rfl ?_
              refine g_iload w d9_282 rfl 284 rfl ?_
              refine g_iconst w d9_284 (1 : Int32) rfl 285 rfl ?_
              refine g_isub w d9_285 286 rfl ?_
              refine g_int (x' := (2 : Int32)) (by decide) ?_
              refine g_istore w d9_286 288 rfl rfl #[.val (.ref t), .val (.ref hd), .val (.int (2 : Int32)), .val (.long sm), .second, .val (.int (0 : Int32)), .val (.int (3 : Int32)), .val (.int (2 : Int32)), .val (.long v2), .second, .val (.int (2 : Int32)), .val (.int (3 : Int32)), .val (.int (3 : Int32)), .val (.int (4 : Int32))] rfl ?_
              refine g_goto w d9_288 14 (by decide) (by decide) ?_
              refine g_iload w d9_14 rfl 16 rfl ?_
              refine g_if_eq w d9_16 291 (by decide) (by decide) 19 rfl (fun hc16 => ?_) (fun h => absurd (by decide) h)
              refine g_iload w d9_291 rfl 293 rfl ?_
              replace w := w.cut (L' := [(t, O_SmallGroups (.ref me) (.ref ki) (.int (4 : Int32)) (.ref ba) (.ref am) (.int mo) (.int (0 : Int32)) .null .null (.int ct_u8) .null .null (.long v1)), (sa, .inr (.long, [(.long x0), (.long x1), (.long x2), (.long x3)])), (ba, .inr (.int, [(.int (0 : Int32)), (.int (1 : Int32)), (.int (2 : Int32)), (.int (3 : Int32))])), (me, .inr (.int, ms_u8)), (ki, .inr (.byte, ks_u8)), (am, .inr (.long, [(.long x0), (.long x1), (.long x2), (.long x3)]))]) (R' := [(hd, .inr (.int, [(.int (0 : Int32)), (.int (1 : Int32))]))]) rfl
              exact g_iretn w (by simp) d9_293 (by decide) (by decide) ⟨0, ct_u8, c_u8, ms_u8, ks_u8, v1, rfl, hct_u8, hG_u8, by omega, by omega, rfl, Or.inr ⟨rfl, by omega⟩⟩
          · -- pc 215 (on: x2 = x3)
            have q9 := congrArg Int64.toInt hc212
            exfalso; omega
        · -- pc 185 (on: x3 = x2)
          have q10 := congrArg Int64.toInt hc182
          exfalso; omega
      · -- pc 97 (on: x2 = x3)
        have q11 := congrArg Int64.toInt hc94
        refine g_iload w d9_97 rfl 99 rfl ?_
        refine g_istore w d9_99 101 rfl rfl #[.val (.ref t), .val (.ref hd), .val (.int (2 : Int32)), .val (.long sm), .second, .val (.int (1 : Int32)), .val (.int (2 : Int32)), .val (.int (3 : Int32)), .val (.long v2), .second, .val (.int (2 : Int32)), .unset, .unset, .unset] rfl ?_
        refine g_iload w d9_101 rfl 103 rfl ?_
        refine g_if_eq w d9_103 154 (by decide) (by decide) 106 rfl (fun h => absurd h (by decide)) (fun hc103 => ?_)
        refine g_iload w d9_106 rfl 108 rfl ?_
        refine g_iload w d9_108 rfl 110 rfl ?_
        refine g_icmp_ge w d9_110 154 (by decide) (by decide) 113 rfl (fun h => absurd (by decide) h) (fun hc110 => ?_)
        refine g_iload w d9_113 rfl 115 rfl ?_
        refine g_iconst w d9_115 (1 : Int32) rfl 116 rfl ?_
        refine g_iadd w d9_116 117 rfl ?_
        refine g_int (x' := (3 : Int32)) (by decide) ?_
        refine g_istore w d9_117 119 rfl rfl #[.val (.ref t), .val (.ref hd), .val (.int (2 : Int32)), .val (.long sm), .second, .val (.int (1 : Int32)), .val (.int (2 : Int32)), .val (.int (3 : Int32)), .val (.long v2), .second, .val (.int (2 : Int32)), .val (.int (3 : Int32)), .unset, .unset] rfl ?_
        refine g_iload w d9_119 rfl 121 rfl ?_
        refine g_if_eq w d9_121 148 (by decide) (by decide) 124 rfl (fun h => absurd h (by decide)) (fun hc121 => ?_)
        refine g_iload w d9_124 rfl 126 rfl ?_
        refine g_iload w d9_126 rfl 128 rfl ?_
        refine g_icmp_gt w d9_128 148 (by decide) (by decide) 131 rfl (fun h => absurd h (by decide)) (fun hc128 => ?_)
        refine g_aloadN w d9_131 rfl rfl 132 rfl ?_
        refine g_aloadN w d9_132 rfl rfl 133 rfl ?_
        refine g_iload w d9_133 rfl 135 rfl ?_
        refine g_iload w d9_135 rfl 137 rfl ?_
        refine g_priv w (argsL := [(.ref hd), (.int (2 : Int32)), (.int (3 : Int32))]) (rest := []) (rm11_2 l Z a0 hw n0 t sa ba me ki am hd x0 x1 x2 x3 mo ct v1 ms ks c M 0 1 2 3 0 1 2 3 x0 x1 x2 x3 hmo hM hct (by omega) hG rfl (by decide) rfl rfl N0 rfl (by decide) rfl rfl N1 rfl (by decide) rfl rfl N2 rfl (by decide) rfl rfl N3 (by omega)) d9_137 0 rfl 77 rfl 78 rfl 10 rfl 80 rfl 79 rfl 9 rfl ⟨by decide, by decide⟩ pd_1 rfl rfl rfl 0 rfl (by decide) (by decide) (by decide) (by decide) 140 rfl (fun T v L w h => ?_)
        obtain ⟨rr, ct_u12, c_u12, ms_u12, ks_u12, rfl, hct_u12, hG_u12, hL, hor⟩ := h
        replace w := w.to hL
        rcases hor with ⟨rfl, hk_u12, hm_u12⟩ | ⟨rfl, hk_u12, hm_u12⟩
        · -- pc 140 room 1
          refine g_istore w d9_140 142 rfl rfl #[.val (.ref t), .val (.ref hd), .val (.int (2 : Int32)), .val (.long sm), .second, .val (.int (1 : Int32)), .val (.int (2 : Int32)), .val (.int (3 : Int32)), .val (.long v2), .second, .val (.int (2 : Int32)), .val (.int (3 : Int32)), .unset, .unset] rfl ?_
          refine g_iinc w d9_142 145 rfl rfl (by decide) #[.val (.ref t), .val (.ref hd), .val (.int (2 : Int32)), .val (.long sm), .second, .val (.int (1 : Int32)), .val (.int (2 : Int32)), .val (.int (3 : Int32)), .val (.long v2), .second, .val (.int (2 : Int32)), .val (.int (4 : Int32)), .unset, .unset] rfl ?_
          refine g_goto w d9_145 119 (by decide) (by decide) ?_
          refine g_iload w d9_119 rfl 121 rfl ?_
          refine g_if_eq w d9_121 148 (by decide) (by decide) 124 rfl (fun h => absurd h (by decide)) (fun hc121 => ?_)
          refine g_iload w d9_124 rfl 126 rfl ?_
          refine g_iload w d9_126 rfl 128 rfl ?_
          refine g_icmp_gt w d9_128 148 (by decide) (by decide) 131 rfl (fun hc128 => ?_) (fun h => absurd (by decide) h)
          refine g_iinc w d9_148 151 rfl rfl (by decide) #[.val (.ref t), .val (.ref hd), .val (.int (2 : Int32)), .val (.long sm), .second, .val (.int (1 : Int32)), .val (.int (2 : Int32)), .val (.int (3 : Int32)), .val (.long v2), .second, .val (.int (3 : Int32)), .val (.int (4 : Int32)), .unset, .unset] rfl ?_
          refine g_goto w d9_151 101 (by decide) (by decide) ?_
          refine g_iload w d9_101 rfl 103 rfl ?_
          refine g_if_eq w d9_103 154 (by decide) (by decide) 106 rfl (fun h => absurd h (by decide)) (fun hc103 => ?_)
          refine g_iload w d9_106 rfl 108 rfl ?_
          refine g_iload w d9_108 rfl 110 rfl ?_
          refine g_icmp_ge w d9_110 154 (by decide) (by decide) 113 rfl (fun hc110 => ?_) (fun h => absurd h (by decide))
          refine g_iload w d9_154 rfl 156 rfl ?_
          refine g_istore w d9_156 158 rfl rfl #[.val (.ref t), .val (.ref hd), .val (.int (2 : Int32)), .val (.long sm), .second, .val (.int (1 : Int32)), .val (.int (3 : Int32)), .val (.int (3 : Int32)), .val (.long v2), .second, .val (.int (3 : Int32)), .val (.int (4 : Int32)), .unset, .unset] rfl ?_
          refine g_goto w d9_158 288 (by decide) (by decide) ?_
          refine g_goto w d9_288 14 (by decide) (by decide) ?_
          refine g_iload w d9_14 rfl 16 rfl ?_
          refine g_if_eq w d9_16 291 (by decide) (by decide) 19 rfl (fun h => absurd h (by decide)) (fun hc16 => ?_)
          refine g_iload w d9_19 rfl 21 rfl ?_
          refine g_iload w d9_21 rfl 23 rfl ?_
          refine g_icmp_ge w d9_23 291 (by decide) (by decide) 26 rfl (fun hc23 => ?_) (fun h => absurd h (by decide))
          refine g_iload w d9_291 rfl 293 rfl ?_
          replace w := w.cut (L' := [(t, O_SmallGroups (.ref me) (.ref ki) (.int (4 : Int32)) (.ref ba) (.ref am) (.int mo) (.int (0 : Int32)) .null .null (.int ct_u12) .null .null (.long v1)), (sa, .inr (.long, [(.long x0), (.long x1), (.long x2), (.long x3)])), (ba, .inr (.int, [(.int (0 : Int32)), (.int (1 : Int32)), (.int (2 : Int32)), (.int (3 : Int32))])), (me, .inr (.int, ms_u12)), (ki, .inr (.byte, ks_u12)), (am, .inr (.long, [(.long x0), (.long x1), (.long x2), (.long x3)]))]) (R' := [(hd, .inr (.int, [(.int (0 : Int32)), (.int (1 : Int32))]))]) rfl
          exact g_iretn w (by simp) d9_293 (by decide) (by decide) ⟨1, ct_u12, c_u12, ms_u12, ks_u12, v1, rfl, hct_u12, hG_u12, by omega, by omega, rfl, Or.inl ⟨rfl, by omega⟩⟩
        · -- pc 140 room 0
          refine g_istore w d9_140 142 rfl rfl #[.val (.ref t), .val (.ref hd), .val (.int (2 : Int32)), .val (.long sm), .second, .val (.int (0 : Int32)), .val (.int (2 : Int32)), .val (.int (3 : Int32)), .val (.long v2), .second, .val (.int (2 : Int32)), .val (.int (3 : Int32)), .unset, .unset] rfl ?_
          refine g_iinc w d9_142 145 rfl rfl (by decide) #[.val (.ref t), .val (.ref hd), .val (.int (2 : Int32)), .val (.long sm), .second, .val (.int (0 : Int32)), .val (.int (2 : Int32)), .val (.int (3 : Int32)), .val (.long v2), .second, .val (.int (2 : Int32)), .val (.int (4 : Int32)), .unset, .unset] rfl ?_
          refine g_goto w d9_145 119 (by decide) (by decide) ?_
          refine g_iload w d9_119 rfl 121 rfl ?_
          refine g_if_eq w d9_121 148 (by decide) (by decide) 124 rfl (fun hc121 => ?_) (fun h => absurd (by decide) h)
          refine g_iinc w d9_148 151 rfl rfl (by decide) #[.val (.ref t), .val (.ref hd), .val (.int (2 : Int32)), .val (.long sm), .second, .val (.int (0 : Int32)), .val (.int (2 : Int32)), .val (.int (3 : Int32)), .val (.long v2), .second, .val (.int (3 : Int32)), .val (.int (4 : Int32)), .unset, .unset] rfl ?_
          refine g_goto w d9_151 101 (by decide) (by decide) ?_
          refine g_iload w d9_101 rfl 103 rfl ?_
          refine g_if_eq w d9_103 154 (by decide) (by decide) 106 rfl (fun hc103 => ?_) (fun h => absurd (by decide) h)
          refine g_iload w d9_154 rfl 156 rfl ?_
          refine g_istore w d9_156 158 rfl rfl #[.val (.ref t), .val (.ref hd), .val (.int (2 : Int32)), .val (.long sm), .second, .val (.int (0 : Int32)), .val (.int (3 : Int32)), .val (.int (3 : Int32)), .val (.long v2), .second, .val (.int (3 : Int32)), .val (.int (4 : Int32)), .unset, .unset] rfl ?_
          refine g_goto w d9_158 288 (by decide) (by decide) ?_
          refine g_goto w d9_288 14 (by decide) (by decide) ?_
          refine g_iload w d9_14 rfl 16 rfl ?_
          refine g_if_eq w d9_16 291 (by decide) (by decide) 19 rfl (fun hc16 => ?_) (fun h => absurd (by decide) h)
          refine g_iload w d9_291 rfl 293 rfl ?_
          replace w := w.cut (L' := [(t, O_SmallGroups (.ref me) (.ref ki) (.int (4 : Int32)) (.ref ba) (.ref am) (.int mo) (.int (0 : Int32)) .null .null (.int ct_u12) .null .null (.long v1)), (sa, .inr (.long, [(.long x0), (.long x1), (.long x2), (.long x3)])), (ba, .inr (.int, [(.int (0 : Int32)), (.int (1 : Int32)), (.int (2 : Int32)), (.int (3 : Int32))])), (me, .inr (.int, ms_u12)), (ki, .inr (.byte, ks_u12)), (am, .inr (.long, [(.long x0), (.long x1), (.long x2), (.long x3)]))]) (R' := [(hd, .inr (.int, [(.int (0 : Int32)), (.int (1 : Int32))]))]) rfl
          exact g_iretn w (by simp) d9_293 (by decide) (by decide) ⟨0, ct_u12, c_u12, ms_u12, ks_u12, v1, rfl, hct_u12, hG_u12, by omega, by omega, rfl, Or.inr ⟨rfl, by omega⟩⟩
    · -- pc 73 (on: sm < v2)
      have q13 := (own_ltL hsm hp_v2).mp hc70
      refine g_iinc w d9_73 76 rfl rfl (by decide) #[.val (.ref t), .val (.ref hd), .val (.int (2 : Int32)), .val (.long sm), .second, .val (.int (1 : Int32)), .val (.int (2 : Int32)), .val (.int (2 : Int32)), .val (.long v2), .second, .unset, .unset, .unset, .unset] rfl ?_
      refine g_goto w d9_76 288 (by decide) (by decide) ?_
      refine g_goto w d9_288 14 (by decide) (by decide) ?_
      refine g_iload w d9_14 rfl 16 rfl ?_
      refine g_if_eq w d9_16 291 (by decide) (by decide) 19 rfl (fun h => absurd h (by decide)) (fun hc16 => ?_)
      refine g_iload w d9_19 rfl 21 rfl ?_
      refine g_iload w d9_21 rfl 23 rfl ?_
      refine g_icmp_ge w d9_23 291 (by decide) (by decide) 26 rfl (fun hc23 => ?_) (fun h => absurd h (by decide))
      refine g_iload w d9_291 rfl 293 rfl ?_
      replace w := w.cut (L' := [(t, O_SmallGroups (.ref me) (.ref ki) (.int (4 : Int32)) (.ref ba) (.ref am) (.int mo) (.int (0 : Int32)) .null .null (.int ct) .null .null (.long v1)), (sa, .inr (.long, [(.long x0), (.long x1), (.long x2), (.long x3)])), (ba, .inr (.int, [(.int (0 : Int32)), (.int (1 : Int32)), (.int (2 : Int32)), (.int (3 : Int32))])), (me, .inr (.int, ms)), (ki, .inr (.byte, ks)), (am, .inr (.long, [(.long x0), (.long x1), (.long x2), (.long x3)]))]) (R' := [(hd, .inr (.int, [(.int (0 : Int32)), (.int (1 : Int32))]))]) rfl
      exact g_iretn w (by simp) d9_293 (by decide) (by decide) ⟨1, ct, c, ms, ks, v1, rfl, hct, hG, by omega, by omega, rfl, Or.inl ⟨rfl, by omega⟩⟩
  · -- pc 60 (on: v2 < sm)
    have q14 := (own_ltL hp_v2 hsm).mp hc57
    refine g_iinc w d9_60 63 rfl rfl (by decide) #[.val (.ref t), .val (.ref hd), .val (.int (2 : Int32)), .val (.long sm), .second, .val (.int (1 : Int32)), .val (.int (3 : Int32)), .val (.int (3 : Int32)), .val (.long v2), .second, .unset, .unset, .unset, .unset] rfl ?_
    refine g_goto w d9_63 288 (by decide) (by decide) ?_
    refine g_goto w d9_288 14 (by decide) (by decide) ?_
    refine g_iload w d9_14 rfl 16 rfl ?_
    refine g_if_eq w d9_16 291 (by decide) (by decide) 19 rfl (fun h => absurd h (by decide)) (fun hc16 => ?_)
    refine g_iload w d9_19 rfl 21 rfl ?_
    refine g_iload w d9_21 rfl 23 rfl ?_
    refine g_icmp_ge w d9_23 291 (by decide) (by decide) 26 rfl (fun hc23 => ?_) (fun h => absurd h (by decide))
    refine g_iload w d9_291 rfl 293 rfl ?_
    replace w := w.cut (L' := [(t, O_SmallGroups (.ref me) (.ref ki) (.int (4 : Int32)) (.ref ba) (.ref am) (.int mo) (.int (0 : Int32)) .null .null (.int ct) .null .null (.long v1)), (sa, .inr (.long, [(.long x0), (.long x1), (.long x2), (.long x3)])), (ba, .inr (.int, [(.int (0 : Int32)), (.int (1 : Int32)), (.int (2 : Int32)), (.int (3 : Int32))])), (me, .inr (.int, ms)), (ki, .inr (.byte, ks)), (am, .inr (.long, [(.long x0), (.long x1), (.long x2), (.long x3)]))]) (R' := [(hd, .inr (.int, [(.int (0 : Int32)), (.int (1 : Int32))]))]) rfl
    exact g_iretn w (by simp) d9_293 (by decide) (by decide) ⟨1, ct, c, ms, ks, v1, rfl, hct, hG, by omega, by omega, rfl, Or.inl ⟨rfl, by omega⟩⟩
theorem pd_2 : parseMethodDescriptor "([IIJ)Z" = some ⟨[(.array .int), .int, .long], some .boolean⟩ := by decide +kernel
theorem d8_0 : decode prog_29_method_14_code 0 = .ok (.aload_n 0, 1) := by decide +kernel
theorem d8_1 : decode prog_29_method_14_code 1 = .ok (.getfield 50, 3) := by decide +kernel
theorem d8_4 : decode prog_29_method_14_code 4 = .ok (.istore_n 2, 1) := by decide +kernel
theorem d8_5 : decode prog_29_method_14_code 5 = .ok (.iconst 1, 1) := by decide +kernel
theorem d8_6 : decode prog_29_method_14_code 6 = .ok (.istore_n 3, 1) := by decide +kernel
theorem d8_7 : decode prog_29_method_14_code 7 = .ok (.iconst 0, 1) := by decide +kernel
theorem d8_8 : decode prog_29_method_14_code 8 = .ok (.istore 4, 2) := by decide +kernel
theorem d8_10 : decode prog_29_method_14_code 10 = .ok (.iload_n 3, 1) := by decide +kernel
theorem d8_11 : decode prog_29_method_14_code 11 = .ok (.ifCond .eq 116, 3) := by decide +kernel
theorem d8_14 : decode prog_29_method_14_code 14 = .ok (.iload 4, 2) := by decide +kernel
theorem d8_16 : decode prog_29_method_14_code 16 = .ok (.aload_n 0, 1) := by decide +kernel
theorem d8_17 : decode prog_29_method_14_code 17 = .ok (.getfield 17, 3) := by decide +kernel
theorem d8_20 : decode prog_29_method_14_code 20 = .ok (.if_icmp .ge 107, 3) := by decide +kernel
theorem d8_23 : decode prog_29_method_14_code 23 = .ok (.iload_n 1, 1) := by decide +kernel
theorem d8_24 : decode prog_29_method_14_code 24 = .ok (.iconst 3, 1) := by decide +kernel
theorem d8_25 : decode prog_29_method_14_code 25 = .ok (.if_icmp .ne 28, 3) := by decide +kernel
theorem d8_28 : decode prog_29_method_14_code 28 = .ok (.aload_n 0, 1) := by decide +kernel
theorem d8_29 : decode prog_29_method_14_code 29 = .ok (.iconst 1, 1) := by decide +kernel
theorem d8_30 : decode prog_29_method_14_code 30 = .ok (.newarray .int, 2) := by decide +kernel
theorem d8_32 : decode prog_29_method_14_code 32 = .ok (.dup, 1) := by decide +kernel
theorem d8_33 : decode prog_29_method_14_code 33 = .ok (.iconst 0, 1) := by decide +kernel
theorem d8_34 : decode prog_29_method_14_code 34 = .ok (.iload 4, 2) := by decide +kernel
theorem d8_36 : decode prog_29_method_14_code 36 = .ok (.iastore, 1) := by decide +kernel
theorem d8_37 : decode prog_29_method_14_code 37 = .ok (.iload 4, 2) := by decide +kernel
theorem d8_39 : decode prog_29_method_14_code 39 = .ok (.iconst 1, 1) := by decide +kernel
theorem d8_40 : decode prog_29_method_14_code 40 = .ok (.iadd, 1) := by decide +kernel
theorem d8_41 : decode prog_29_method_14_code 41 = .ok (.aload_n 0, 1) := by decide +kernel
theorem d8_42 : decode prog_29_method_14_code 42 = .ok (.getfield 24, 3) := by decide +kernel
theorem d8_45 : decode prog_29_method_14_code 45 = .ok (.iload 4, 2) := by decide +kernel
theorem d8_47 : decode prog_29_method_14_code 47 = .ok (.laload, 1) := by decide +kernel
theorem d8_48 : decode prog_29_method_14_code 48 = .ok (.lneg, 1) := by decide +kernel
theorem d8_49 : decode prog_29_method_14_code 49 = .ok (.invokevirtual 95, 3) := by decide +kernel
theorem d8_52 : decode prog_29_method_14_code 52 = .ok (.istore_n 3, 1) := by decide +kernel
theorem d8_53 : decode prog_29_method_14_code 53 = .ok (.iload 4, 2) := by decide +kernel
theorem d8_55 : decode prog_29_method_14_code 55 = .ok (.iconst 1, 1) := by decide +kernel
theorem d8_56 : decode prog_29_method_14_code 56 = .ok (.iadd, 1) := by decide +kernel
theorem d8_57 : decode prog_29_method_14_code 57 = .ok (.istore 5, 2) := by decide +kernel
theorem d8_59 : decode prog_29_method_14_code 59 = .ok (.iload_n 3, 1) := by decide +kernel
theorem d8_60 : decode prog_29_method_14_code 60 = .ok (.ifCond .eq 61, 3) := by decide +kernel
theorem d8_63 : decode prog_29_method_14_code 63 = .ok (.iload_n 1, 1) := by decide +kernel
theorem d8_64 : decode prog_29_method_14_code 64 = .ok (.iconst 4, 1) := by decide +kernel
theorem d8_65 : decode prog_29_method_14_code 65 = .ok (.if_icmp .ne 56, 3) := by decide +kernel
theorem d8_68 : decode prog_29_method_14_code 68 = .ok (.iload 5, 2) := by decide +kernel
theorem d8_70 : decode prog_29_method_14_code 70 = .ok (.aload_n 0, 1) := by decide +kernel
theorem d8_71 : decode prog_29_method_14_code 71 = .ok (.getfield 17, 3) := by decide +kernel
theorem d8_74 : decode prog_29_method_14_code 74 = .ok (.if_icmp .ge 47, 3) := by decide +kernel
theorem d8_77 : decode prog_29_method_14_code 77 = .ok (.aload_n 0, 1) := by decide +kernel
theorem d8_78 : decode prog_29_method_14_code 78 = .ok (.iconst 2, 1) := by decide +kernel
theorem d8_79 : decode prog_29_method_14_code 79 = .ok (.newarray .int, 2) := by decide +kernel
theorem d8_81 : decode prog_29_method_14_code 81 = .ok (.dup, 1) := by decide +kernel
theorem d8_82 : decode prog_29_method_14_code 82 = .ok (.iconst 0, 1) := by decide +kernel
theorem d8_83 : decode prog_29_method_14_code 83 = .ok (.iload 4, 2) := by decide +kernel
theorem d8_85 : decode prog_29_method_14_code 85 = .ok (.iastore, 1) := by decide +kernel
theorem d8_86 : decode prog_29_method_14_code 86 = .ok (.dup, 1) := by decide +kernel
theorem d8_87 : decode prog_29_method_14_code 87 = .ok (.iconst 1, 1) := by decide +kernel
theorem d8_88 : decode prog_29_method_14_code 88 = .ok (.iload 5, 2) := by decide +kernel
theorem d8_90 : decode prog_29_method_14_code 90 = .ok (.iastore, 1) := by decide +kernel
theorem d8_91 : decode prog_29_method_14_code 91 = .ok (.iload 5, 2) := by decide +kernel
theorem d8_93 : decode prog_29_method_14_code 93 = .ok (.iconst 1, 1) := by decide +kernel
theorem d8_94 : decode prog_29_method_14_code 94 = .ok (.iadd, 1) := by decide +kernel
theorem d8_95 : decode prog_29_method_14_code 95 = .ok (.aload_n 0, 1) := by decide +kernel
theorem d8_96 : decode prog_29_method_14_code 96 = .ok (.getfield 24, 3) := by decide +kernel
theorem d8_99 : decode prog_29_method_14_code 99 = .ok (.iload 4, 2) := by decide +kernel
theorem d8_101 : decode prog_29_method_14_code 101 = .ok (.laload, 1) := by decide +kernel
theorem d8_102 : decode prog_29_method_14_code 102 = .ok (.lneg, 1) := by decide +kernel
theorem d8_103 : decode prog_29_method_14_code 103 = .ok (.aload_n 0, 1) := by decide +kernel
theorem d8_104 : decode prog_29_method_14_code 104 = .ok (.getfield 24, 3) := by decide +kernel
theorem d8_107 : decode prog_29_method_14_code 107 = .ok (.iload 5, 2) := by decide +kernel
theorem d8_109 : decode prog_29_method_14_code 109 = .ok (.laload, 1) := by decide +kernel
theorem d8_110 : decode prog_29_method_14_code 110 = .ok (.lsub, 1) := by decide +kernel
theorem d8_111 : decode prog_29_method_14_code 111 = .ok (.invokevirtual 95, 3) := by decide +kernel
theorem d8_114 : decode prog_29_method_14_code 114 = .ok (.istore_n 3, 1) := by decide +kernel
theorem d8_115 : decode prog_29_method_14_code 115 = .ok (.iinc 5 1, 3) := by decide +kernel
theorem d8_118 : decode prog_29_method_14_code 118 = .ok (.goto (-59), 3) := by decide +kernel
theorem d8_121 : decode prog_29_method_14_code 121 = .ok (.iinc 4 1, 3) := by decide +kernel
theorem d8_124 : decode prog_29_method_14_code 124 = .ok (.goto (-114), 3) := by decide +kernel
theorem d8_127 : decode prog_29_method_14_code 127 = .ok (.aload_n 0, 1) := by decide +kernel
theorem d8_128 : decode prog_29_method_14_code 128 = .ok (.iload_n 3, 1) := by decide +kernel
theorem d8_129 : decode prog_29_method_14_code 129 = .ok (.ifCond .eq 10, 3) := by decide +kernel
theorem d8_132 : decode prog_29_method_14_code 132 = .ok (.aload_n 0, 1) := by decide +kernel
theorem d8_133 : decode prog_29_method_14_code 133 = .ok (.getfield 50, 3) := by decide +kernel
theorem d8_136 : decode prog_29_method_14_code 136 = .ok (.goto 4, 3) := by decide +kernel
theorem d8_139 : decode prog_29_method_14_code 139 = .ok (.iload_n 2, 1) := by decide +kernel
theorem d8_140 : decode prog_29_method_14_code 140 = .ok (.putfield 50, 3) := by decide +kernel
theorem d8_143 : decode prog_29_method_14_code 143 = .ok (.iload_n 3, 1) := by decide +kernel
theorem d8_144 : decode prog_29_method_14_code 144 = .ok (.ireturn, 1) := by decide +kernel
theorem pn_8 : plainFor (⟨"com/example/cangdan/cangdan/fewest/SmallGroups", "list", "(I)Z"⟩ : MethodName) = true := plainFor_of_name (by first | (simp [plainName, overriddenIn]; done) | decide +kernel)
set_option maxRecDepth 65536 in
set_option maxHeartbeats 40000000 in
theorem rm8_3 (l : Launch) (Z : State) (a0 : Array Value) (hw : ∀ d ∈ tables_1, d.before a0 Z = true) (n0 : Nat) (t sa ba me ki am : Addr) (x0 x1 x2 x3 : Int64) (mo ct : Int32) (ls : Int64) (ms ks : List Value) (c M : Nat) (hmo : mo.toInt = (M : Int)) (hM : M ≤ 7) (hct : ct.toInt = (c : Int)) (hcM : c ≤ M) (hG : own_G c ms ks) (hA : own_A x0 x1 x2 x3) :
    Con l (⟨"com/example/cangdan/cangdan/fewest/SmallGroups", "list", "(I)Z"⟩ : MethodName) prog_29_method_14_code 6 (some .boolean) ({ frames := 3, cells := 4, slots := 4, locals := 61 } : Room) Z n0 #[(.ref t), (.int (3 : Int32))] ([(t, O_SmallGroups (.ref me) (.ref ki) (.int (4 : Int32)) (.ref ba) (.ref am) (.int mo) (.int (0 : Int32)) .null .null (.int ct) .null .null (.long ls)), (sa, .inr (.long, [(.long x0), (.long x1), (.long x2), (.long x3)])), (ba, .inr (.int, [(.int (0 : Int32)), (.int (1 : Int32)), (.int (2 : Int32)), (.int (3 : Int32))])), (me, .inr (.int, ms)), (ki, .inr (.byte, ks)), (am, .inr (.long, [(.long x0), (.long x1), (.long x2), (.long x3)]))]) (fun v L' => ∃ (rr ct' : Int32) (c' : Nat) (ms' ks' : List Value) (ls' : Int64), v = some (.int rr) ∧ ct'.toInt = (c' : Int) ∧ own_G c' ms' ks' ∧ c' ≤ M ∧ L' = [(t, O_SmallGroups (.ref me) (.ref ki) (.int (4 : Int32)) (.ref ba) (.ref am) (.int mo) (.int (0 : Int32)) .null .null (.int ct') .null .null (.long ls')), (sa, .inr (.long, [(.long x0), (.long x1), (.long x2), (.long x3)])), (ba, .inr (.int, [(.int (0 : Int32)), (.int (1 : Int32)), (.int (2 : Int32)), (.int (3 : Int32))])), (me, .inr (.int, ms')), (ki, .inr (.byte, ks')), (am, .inr (.long, [(.long x0), (.long x1), (.long x2), (.long x3)]))] ∧ ((rr = 1 ∧ c' = c + (own_zn (x0.toInt + x1.toInt + x2.toInt) + own_zn (x0.toInt + x1.toInt + x3.toInt) + own_zn (x0.toInt + x2.toInt + x3.toInt) + own_zn (x1.toInt + x2.toInt + x3.toInt))) ∨ (rr = 0 ∧ c' = c ∧ M < c + (own_zn (x0.toInt + x1.toInt + x2.toInt) + own_zn (x0.toInt + x1.toInt + x3.toInt) + own_zn (x0.toInt + x2.toInt + x3.toInt) + own_zn (x1.toInt + x2.toInt + x3.toInt))))) := by
  refine Con.of (ws := tables_1) (a0 := a0) pn_8 hw ?_
  intro p e s m below meth cde T kb w
  refine g_entry #[.val (.ref t), .val (.int (3 : Int32)), .unset, .unset, .unset, .unset] (by first | (simp [entryFrame, mkF, argsToLocals, Value.category]; done) | rfl) ?_
  obtain ⟨A0, A1, A2, A3, A4, N0, N1, N2, N3⟩ := id hA
  refine g_aloadN w d8_0 rfl rfl 1 rfl ?_
  refine g_getf w d8_1 0 rfl 9 rfl 39 rfl Via.refl 4 rfl (fun T w => ?_)
  refine g_istoreN w d8_4 5 rfl rfl #[.val (.ref t), .val (.int (3 : Int32)), .val (.int ct), .unset, .unset, .unset] rfl ?_
  refine g_iconst w d8_5 (1 : Int32) rfl 6 rfl ?_
  refine g_istoreN w d8_6 7 rfl rfl #[.val (.ref t), .val (.int (3 : Int32)), .val (.int ct), .val (.int (1 : Int32)), .unset, .unset] rfl ?_
  refine g_iconst w d8_7 (0 : Int32) rfl 8 rfl ?_
  refine g_istore w d8_8 10 rfl rfl #[.val (.ref t), .val (.int (3 : Int32)), .val (.int ct), .val (.int (1 : Int32)), .val (.int (0 : Int32)), .unset] rfl ?_
  refine g_iloadN w d8_10 rfl 11 rfl ?_
  refine g_if_eq w d8_11 127 (by decide) (by decide) 14 rfl (fun h => absurd h (by decide)) (fun hc11 => ?_)
  refine g_iload w d8_14 rfl 16 rfl ?_
  refine g_aloadN w d8_16 rfl rfl 17 rfl ?_
  refine g_getf w d8_17 0 rfl 2 rfl 24 rfl Via.refl 20 rfl (fun T w => ?_)
  refine g_icmp_ge w d8_20 127 (by decide) (by decide) 23 rfl (fun h => absurd (by decide) h) (fun hc20 => ?_)
  refine g_iloadN w d8_23 rfl 24 rfl ?_
  refine g_iconst w d8_24 (3 : Int32) rfl 25 rfl ?_
  refine g_icmp_ne w d8_25 53 (by decide) (by decide) 28 rfl (fun h => absurd (by decide) h) (fun hc25 => ?_)
  refine g_aloadN w d8_28 rfl rfl 29 rfl ?_
  refine g_iconst w d8_29 (1 : Int32) rfl 30 rfl ?_
  refine g_newarr w d8_30 12 rfl 1 1 (by decide) (by decide) (by decide) [(.int (0 : Int32))] rfl (by decide) (by decide) 32 rfl (fun T b1 w => ?_)
  replace w := w.to (L' := [(t, O_SmallGroups (.ref me) (.ref ki) (.int (4 : Int32)) (.ref ba) (.ref am) (.int mo) (.int (0 : Int32)) .null .null (.int ct) .null .null (.long ls)), (sa, .inr (.long, [(.long x0), (.long x1), (.long x2), (.long x3)])), (ba, .inr (.int, [(.int (0 : Int32)), (.int (1 : Int32)), (.int (2 : Int32)), (.int (3 : Int32))])), (me, .inr (.int, ms)), (ki, .inr (.byte, ks)), (am, .inr (.long, [(.long x0), (.long x1), (.long x2), (.long x3)])), (b1, .inr (.int, [(.int (0 : Int32))]))]) rfl
  refine g_dup w d8_32 rfl 33 rfl ?_
  refine g_iconst w d8_33 (0 : Int32) rfl 34 rfl ?_
  refine g_iload w d8_34 rfl 36 rfl ?_
  refine g_iastore w d8_36 6 rfl 0 (by decide) (Nat.le_of_ble_eq_true rfl) (.int (0 : Int32)) rfl 37 rfl (fun T w => ?_)
  replace w := w.to (L' := [(t, O_SmallGroups (.ref me) (.ref ki) (.int (4 : Int32)) (.ref ba) (.ref am) (.int mo) (.int (0 : Int32)) .null .null (.int ct) .null .null (.long ls)), (sa, .inr (.long, [(.long x0), (.long x1), (.long x2), (.long x3)])), (ba, .inr (.int, [(.int (0 : Int32)), (.int (1 : Int32)), (.int (2 : Int32)), (.int (3 : Int32))])), (me, .inr (.int, ms)), (ki, .inr (.byte, ks)), (am, .inr (.long, [(.long x0), (.long x1), (.long x2), (.long x3)])), (b1, .inr (.int, [(.int (0 : Int32))]))]) rfl
  refine g_iload w d8_37 rfl 39 rfl ?_
  refine g_iconst w d8_39 (1 : Int32) rfl 40 rfl ?_
  refine g_iadd w d8_40 41 rfl ?_
  refine g_int (x' := (1 : Int32)) (by decide) ?_
  refine g_aloadN w d8_41 rfl rfl 42 rfl ?_
  refine g_getf w d8_42 0 rfl 4 rfl 28 rfl Via.refl 45 rfl (fun T w => ?_)
  refine g_iload w d8_45 rfl 47 rfl ?_
  refine g_laload w d8_47 5 rfl 0 (by decide) rfl 48 rfl ?_
  refine g_lneg w d8_48 49 rfl ?_
  refine g_priv w (argsL := [(.ref b1), (.int (1 : Int32)), (.long (-x0))]) (rest := []) (rm9_0 l Z a0 hw n0 t sa ba me ki am b1 x0 x1 x2 x3 mo ct ls ms ks c M (-x0) hmo hM hct hcM hG hA (own_lneg rfl (by omega) (by omega))) d8_49 0 rfl 69 rfl 70 rfl 10 rfl 72 rfl 71 rfl 9 rfl ⟨by decide, by decide⟩ pd_2 rfl rfl rfl 0 rfl (by decide) (by decide) (by decide) (by decide) 52 rfl (fun T v L w h => ?_)
  obtain ⟨rr, ct_u2, c_u2, ms_u2, ks_u2, ls_u2, rfl, hct_u2, hG_u2, hle_u2, hcM_u2, hL, hor⟩ := h
  replace w := w.to hL
  rcases hor with ⟨rfl, hk_u2⟩ | ⟨rfl, hk_u2⟩
  · -- pc 52 room 1
    refine g_istoreN w d8_52 53 rfl rfl #[.val (.ref t), .val (.int (3 : Int32)), .val (.int ct), .val (.int (1 : Int32)), .val (.int (0 : Int32)), .unset] rfl ?_
    refine g_iload w d8_53 rfl 55 rfl ?_
    refine g_iconst w d8_55 (1 : Int32) rfl 56 rfl ?_
    refine g_iadd w d8_56 57 rfl ?_
    refine g_int (x' := (1 : Int32)) (by decide) ?_
    refine g_istore w d8_57 59 rfl rfl #[.val (.ref t), .val (.int (3 : Int32)), .val (.int ct), .val (.int (1 : Int32)), .val (.int (0 : Int32)), .val (.int (1 : Int32))] rfl ?_
    refine g_iloadN w d8_59 rfl 60 rfl ?_
    refine g_if_eq w d8_60 121 (by decide) (by decide) 63 rfl (fun h => absurd h (by decide)) (fun hc60 => ?_)
    refine g_iloadN w d8_63 rfl 64 rfl ?_
    refine g_iconst w d8_64 (4 : Int32) rfl 65 rfl ?_
    refine g_icmp_ne w d8_65 121 (by decide) (by decide) 68 rfl (fun hc65 => ?_) (fun h => absurd h (by decide))
    refine g_iinc w d8_121 124 rfl rfl (by decide) #[.val (.ref t), .val (.int (3 : Int32)), .val (.int ct), .val (.int (1 : Int32)), .val (.int (1 : Int32)), .val (.int (1 : Int32))] rfl ?_
    refine g_goto w d8_124 10 (by decide) (by decide) ?_
    refine g_iloadN w d8_10 rfl 11 rfl ?_
    refine g_if_eq w d8_11 127 (by decide) (by decide) 14 rfl (fun h => absurd h (by decide)) (fun hc11 => ?_)
    refine g_iload w d8_14 rfl 16 rfl ?_
    refine g_aloadN w d8_16 rfl rfl 17 rfl ?_
    refine g_getf w d8_17 0 rfl 2 rfl 24 rfl Via.refl 20 rfl (fun T w => ?_)
    refine g_icmp_ge w d8_20 127 (by decide) (by decide) 23 rfl (fun h => absurd (by decide) h) (fun hc20 => ?_)
    refine g_iloadN w d8_23 rfl 24 rfl ?_
    refine g_iconst w d8_24 (3 : Int32) rfl 25 rfl ?_
    refine g_icmp_ne w d8_25 53 (by decide) (by decide) 28 rfl (fun h => absurd (by decide) h) (fun hc25 => ?_)
    refine g_aloadN w d8_28 rfl rfl 29 rfl ?_
    refine g_iconst w d8_29 (1 : Int32) rfl 30 rfl ?_
    refine g_newarr w d8_30 12 rfl 1 1 (by decide) (by decide) (by decide) [(.int (0 : Int32))] rfl (by decide) (by decide) 32 rfl (fun T b3 w => ?_)
    replace w := w.to (L' := [(t, O_SmallGroups (.ref me) (.ref ki) (.int (4 : Int32)) (.ref ba) (.ref am) (.int mo) (.int (0 : Int32)) .null .null (.int ct_u2) .null .null (.long ls_u2)), (sa, .inr (.long, [(.long x0), (.long x1), (.long x2), (.long x3)])), (ba, .inr (.int, [(.int (0 : Int32)), (.int (1 : Int32)), (.int (2 : Int32)), (.int (3 : Int32))])), (me, .inr (.int, ms_u2)), (ki, .inr (.byte, ks_u2)), (am, .inr (.long, [(.long x0), (.long x1), (.long x2), (.long x3)])), (b3, .inr (.int, [(.int (0 : Int32))]))]) rfl
    refine g_dup w d8_32 rfl 33 rfl ?_
    refine g_iconst w d8_33 (0 : Int32) rfl 34 rfl ?_
    refine g_iload w d8_34 rfl 36 rfl ?_
    refine g_iastore w d8_36 6 rfl 0 (by decide) (Nat.le_of_ble_eq_true rfl) (.int (1 : Int32)) rfl 37 rfl (fun T w => ?_)
    replace w := w.to (L' := [(t, O_SmallGroups (.ref me) (.ref ki) (.int (4 : Int32)) (.ref ba) (.ref am) (.int mo) (.int (0 : Int32)) .null .null (.int ct_u2) .null .null (.long ls_u2)), (sa, .inr (.long, [(.long x0), (.long x1), (.long x2), (.long x3)])), (ba, .inr (.int, [(.int (0 : Int32)), (.int (1 : Int32)), (.int (2 : Int32)), (.int (3 : Int32))])), (me, .inr (.int, ms_u2)), (ki, .inr (.byte, ks_u2)), (am, .inr (.long, [(.long x0), (.long x1), (.long x2), (.long x3)])), (b3, .inr (.int, [(.int (1 : Int32))]))]) rfl
    refine g_iload w d8_37 rfl 39 rfl ?_
    refine g_iconst w d8_39 (1 : Int32) rfl 40 rfl ?_
    refine g_iadd w d8_40 41 rfl ?_
    refine g_int (x' := (2 : Int32)) (by decide) ?_
    refine g_aloadN w d8_41 rfl rfl 42 rfl ?_
    refine g_getf w d8_42 0 rfl 4 rfl 28 rfl Via.refl 45 rfl (fun T w => ?_)
    refine g_iload w d8_45 rfl 47 rfl ?_
    refine g_laload w d8_47 5 rfl 1 (by decide) rfl 48 rfl ?_
    refine g_lneg w d8_48 49 rfl ?_
    refine g_priv w (argsL := [(.ref b3), (.int (2 : Int32)), (.long (-x1))]) (rest := []) (rm9_1 l Z a0 hw n0 t sa ba me ki am b3 x0 x1 x2 x3 mo ct_u2 ls_u2 ms_u2 ks_u2 c_u2 M (-x1) hmo hM hct_u2 hcM_u2 hG_u2 hA (own_lneg rfl (by omega) (by omega))) d8_49 0 rfl 69 rfl 70 rfl 10 rfl 72 rfl 71 rfl 9 rfl ⟨by decide, by decide⟩ pd_2 rfl rfl rfl 0 rfl (by decide) (by decide) (by decide) (by decide) 52 rfl (fun T v L w h => ?_)
    obtain ⟨rr, ct_u4, c_u4, ms_u4, ks_u4, ls_u4, rfl, hct_u4, hG_u4, hle_u4, hcM_u4, hL, hor⟩ := h
    replace w := w.to hL
    rcases hor with ⟨rfl, hk_u4⟩ | ⟨rfl, hk_u4⟩
    · -- pc 52 room 1
      refine g_istoreN w d8_52 53 rfl rfl #[.val (.ref t), .val (.int (3 : Int32)), .val (.int ct), .val (.int (1 : Int32)), .val (.int (1 : Int32)), .val (.int (1 : Int32))] rfl ?_
      refine g_iload w d8_53 rfl 55 rfl ?_
      refine g_iconst w d8_55 (1 : Int32) rfl 56 rfl ?_
      refine g_iadd w d8_56 57 rfl ?_
      refine g_int (x' := (2 : Int32)) (by decide) ?_
      refine g_istore w d8_57 59 rfl rfl #[.val (.ref t), .val (.int (3 : Int32)), .val (.int ct), .val (.int (1 : Int32)), .val (.int (1 : Int32)), .val (.int (2 : Int32))] rfl ?_
      refine g_iloadN w d8_59 rfl 60 rfl ?_
      refine g_if_eq w d8_60 121 (by decide) (by decide) 63 rfl (fun h => absurd h (by decide)) (fun hc60 => ?_)
      refine g_iloadN w d8_63 rfl 64 rfl ?_
      refine g_iconst w d8_64 (4 : Int32) rfl 65 rfl ?_
      refine g_icmp_ne w d8_65 121 (by decide) (by decide) 68 rfl (fun hc65 => ?_) (fun h => absurd h (by decide))
      refine g_iinc w d8_121 124 rfl rfl (by decide) #[.val (.ref t), .val (.int (3 : Int32)), .val (.int ct), .val (.int (1 : Int32)), .val (.int (2 : Int32)), .val (.int (2 : Int32))] rfl ?_
      refine g_goto w d8_124 10 (by decide) (by decide) ?_
      refine g_iloadN w d8_10 rfl 11 rfl ?_
      refine g_if_eq w d8_11 127 (by decide) (by decide) 14 rfl (fun h => absurd h (by decide)) (fun hc11 => ?_)
      refine g_iload w d8_14 rfl 16 rfl ?_
      refine g_aloadN w d8_16 rfl rfl 17 rfl ?_
      refine g_getf w d8_17 0 rfl 2 rfl 24 rfl Via.refl 20 rfl (fun T w => ?_)
      refine g_icmp_ge w d8_20 127 (by decide) (by decide) 23 rfl (fun h => absurd (by decide) h) (fun hc20 => ?_)
      refine g_iloadN w d8_23 rfl 24 rfl ?_
      refine g_iconst w d8_24 (3 : Int32) rfl 25 rfl ?_
      refine g_icmp_ne w d8_25 53 (by decide) (by decide) 28 rfl (fun h => absurd (by decide) h) (fun hc25 => ?_)
      refine g_aloadN w d8_28 rfl rfl 29 rfl ?_
      refine g_iconst w d8_29 (1 : Int32) rfl 30 rfl ?_
      refine g_newarr w d8_30 12 rfl 1 1 (by decide) (by decide) (by decide) [(.int (0 : Int32))] rfl (by decide) (by decide) 32 rfl (fun T b5 w => ?_)
      replace w := w.to (L' := [(t, O_SmallGroups (.ref me) (.ref ki) (.int (4 : Int32)) (.ref ba) (.ref am) (.int mo) (.int (0 : Int32)) .null .null (.int ct_u4) .null .null (.long ls_u4)), (sa, .inr (.long, [(.long x0), (.long x1), (.long x2), (.long x3)])), (ba, .inr (.int, [(.int (0 : Int32)), (.int (1 : Int32)), (.int (2 : Int32)), (.int (3 : Int32))])), (me, .inr (.int, ms_u4)), (ki, .inr (.byte, ks_u4)), (am, .inr (.long, [(.long x0), (.long x1), (.long x2), (.long x3)])), (b5, .inr (.int, [(.int (0 : Int32))]))]) rfl
      refine g_dup w d8_32 rfl 33 rfl ?_
      refine g_iconst w d8_33 (0 : Int32) rfl 34 rfl ?_
      refine g_iload w d8_34 rfl 36 rfl ?_
      refine g_iastore w d8_36 6 rfl 0 (by decide) (Nat.le_of_ble_eq_true rfl) (.int (2 : Int32)) rfl 37 rfl (fun T w => ?_)
      replace w := w.to (L' := [(t, O_SmallGroups (.ref me) (.ref ki) (.int (4 : Int32)) (.ref ba) (.ref am) (.int mo) (.int (0 : Int32)) .null .null (.int ct_u4) .null .null (.long ls_u4)), (sa, .inr (.long, [(.long x0), (.long x1), (.long x2), (.long x3)])), (ba, .inr (.int, [(.int (0 : Int32)), (.int (1 : Int32)), (.int (2 : Int32)), (.int (3 : Int32))])), (me, .inr (.int, ms_u4)), (ki, .inr (.byte, ks_u4)), (am, .inr (.long, [(.long x0), (.long x1), (.long x2), (.long x3)])), (b5, .inr (.int, [(.int (2 : Int32))]))]) rfl
      refine g_iload w d8_37 rfl 39 rfl ?_
      refine g_iconst w d8_39 (1 : Int32) rfl 40 rfl ?_
      refine g_iadd w d8_40 41 rfl ?_
      refine g_int (x' := (3 : Int32)) (by decide) ?_
      refine g_aloadN w d8_41 rfl rfl 42 rfl ?_
      refine g_getf w d8_42 0 rfl 4 rfl 28 rfl Via.refl 45 rfl (fun T w => ?_)
      refine g_iload w d8_45 rfl 47 rfl ?_
      refine g_laload w d8_47 5 rfl 2 (by decide) rfl 48 rfl ?_
      refine g_lneg w d8_48 49 rfl ?_
      refine g_priv w (argsL := [(.ref b5), (.int (3 : Int32)), (.long (-x2))]) (rest := []) (rm9_t l Z a0 hw n0 t sa ba me ki am b5 x0 x1 x2 x3 mo ct_u4 ls_u4 ms_u4 ks_u4 c_u4 M [(.int (2 : Int32))] 3 (-x2) (by decide)) d8_49 0 rfl 69 rfl 70 rfl 10 rfl 72 rfl 71 rfl 9 rfl ⟨by decide, by decide⟩ pd_2 rfl rfl rfl 0 rfl (by decide) (by decide) (by decide) (by decide) 52 rfl (fun T v L w h => ?_)
      obtain ⟨rfl, hL⟩ := h
      replace w := w.to hL
      refine g_istoreN w d8_52 53 rfl rfl #[.val (.ref t), .val (.int (3 : Int32)), .val (.int ct), .val (.int (1 : Int32)), .val (.int (2 : Int32)), .val (.int (2 : Int32))] rfl ?_
      refine g_iload w d8_53 rfl 55 rfl ?_
      refine g_iconst w d8_55 (1 : Int32) rfl 56 rfl ?_
      refine g_iadd w d8_56 57 rfl ?_
      refine g_int (x' := (3 : Int32)) (by decide) ?_
      refine g_istore w d8_57 59 rfl rfl #[.val (.ref t), .val (.int (3 : Int32)), .val (.int ct), .val (.int (1 : Int32)), .val (.int (2 : Int32)), .val (.int (3 : Int32))] rfl ?_
      refine g_iloadN w d8_59 rfl 60 rfl ?_
      refine g_if_eq w d8_60 121 (by decide) (by decide) 63 rfl (fun h => absurd h (by decide)) (fun hc60 => ?_)
      refine g_iloadN w d8_63 rfl 64 rfl ?_
      refine g_iconst w d8_64 (4 : Int32) rfl 65 rfl ?_
      refine g_icmp_ne w d8_65 121 (by decide) (by decide) 68 rfl (fun hc65 => ?_) (fun h => absurd h (by decide))
      refine g_iinc w d8_121 124 rfl rfl (by decide) #[.val (.ref t), .val (.int (3 : Int32)), .val (.int ct), .val (.int (1 : Int32)), .val (.int (3 : Int32)), .val (.int (3 : Int32))] rfl ?_
      refine g_goto w d8_124 10 (by decide) (by decide) ?_
      refine g_iloadN w d8_10 rfl 11 rfl ?_
      refine g_if_eq w d8_11 127 (by decide) (by decide) 14 rfl (fun h => absurd h (by decide)) (fun hc11 => ?_)
      refine g_iload w d8_14 rfl 16 rfl ?_
      refine g_aloadN w d8_16 rfl rfl 17 rfl ?_
      refine g_getf w d8_17 0 rfl 2 rfl 24 rfl Via.refl 20 rfl (fun T w => ?_)
      refine g_icmp_ge w d8_20 127 (by decide) (by decide) 23 rfl (fun h => absurd (by decide) h) (fun hc20 => ?_)
      refine g_iloadN w d8_23 rfl 24 rfl ?_
      refine g_iconst w d8_24 (3 : Int32) rfl 25 rfl ?_
      refine g_icmp_ne w d8_25 53 (by decide) (by decide) 28 rfl (fun h => absurd (by decide) h) (fun hc25 => ?_)
      refine g_aloadN w d8_28 rfl rfl 29 rfl ?_
      refine g_iconst w d8_29 (1 : Int32) rfl 30 rfl ?_
      refine g_newarr w d8_30 12 rfl 1 1 (by decide) (by decide) (by decide) [(.int (0 : Int32))] rfl (by decide) (by decide) 32 rfl (fun T b6 w => ?_)
      replace w := w.to (L' := [(t, O_SmallGroups (.ref me) (.ref ki) (.int (4 : Int32)) (.ref ba) (.ref am) (.int mo) (.int (0 : Int32)) .null .null (.int ct_u4) .null .null (.long ls_u4)), (sa, .inr (.long, [(.long x0), (.long x1), (.long x2), (.long x3)])), (ba, .inr (.int, [(.int (0 : Int32)), (.int (1 : Int32)), (.int (2 : Int32)), (.int (3 : Int32))])), (me, .inr (.int, ms_u4)), (ki, .inr (.byte, ks_u4)), (am, .inr (.long, [(.long x0), (.long x1), (.long x2), (.long x3)])), (b6, .inr (.int, [(.int (0 : Int32))]))]) rfl
      refine g_dup w d8_32 rfl 33 rfl ?_
      refine g_iconst w d8_33 (0 : Int32) rfl 34 rfl ?_
      refine g_iload w d8_34 rfl 36 rfl ?_
      refine g_iastore w d8_36 6 rfl 0 (by decide) (Nat.le_of_ble_eq_true rfl) (.int (3 : Int32)) rfl 37 rfl (fun T w => ?_)
      replace w := w.to (L' := [(t, O_SmallGroups (.ref me) (.ref ki) (.int (4 : Int32)) (.ref ba) (.ref am) (.int mo) (.int (0 : Int32)) .null .null (.int ct_u4) .null .null (.long ls_u4)), (sa, .inr (.long, [(.long x0), (.long x1), (.long x2), (.long x3)])), (ba, .inr (.int, [(.int (0 : Int32)), (.int (1 : Int32)), (.int (2 : Int32)), (.int (3 : Int32))])), (me, .inr (.int, ms_u4)), (ki, .inr (.byte, ks_u4)), (am, .inr (.long, [(.long x0), (.long x1), (.long x2), (.long x3)])), (b6, .inr (.int, [(.int (3 : Int32))]))]) rfl
      refine g_iload w d8_37 rfl 39 rfl ?_
      refine g_iconst w d8_39 (1 : Int32) rfl 40 rfl ?_
      refine g_iadd w d8_40 41 rfl ?_
      refine g_int (x' := (4 : Int32)) (by decide) ?_
      refine g_aloadN w d8_41 rfl rfl 42 rfl ?_
      refine g_getf w d8_42 0 rfl 4 rfl 28 rfl Via.refl 45 rfl (fun T w => ?_)
      refine g_iload w d8_45 rfl 47 rfl ?_
      refine g_laload w d8_47 5 rfl 3 (by decide) rfl 48 rfl ?_
      refine g_lneg w d8_48 49 rfl ?_
      refine g_priv w (argsL := [(.ref b6), (.int (4 : Int32)), (.long (-x3))]) (rest := []) (rm9_t l Z a0 hw n0 t sa ba me ki am b6 x0 x1 x2 x3 mo ct_u4 ls_u4 ms_u4 ks_u4 c_u4 M [(.int (3 : Int32))] 4 (-x3) (by decide)) d8_49 0 rfl 69 rfl 70 rfl 10 rfl 72 rfl 71 rfl 9 rfl ⟨by decide, by decide⟩ pd_2 rfl rfl rfl 0 rfl (by decide) (by decide) (by decide) (by decide) 52 rfl (fun T v L w h => ?_)
      obtain ⟨rfl, hL⟩ := h
      replace w := w.to hL
      refine g_istoreN w d8_52 53 rfl rfl #[.val (.ref t), .val (.int (3 : Int32)), .val (.int ct), .val (.int (1 : Int32)), .val (.int (3 : Int32)), .val (.int (3 : Int32))] rfl ?_
      refine g_iload w d8_53 rfl 55 rfl ?_
      refine g_iconst w d8_55 (1 : Int32) rfl 56 rfl ?_
      refine g_iadd w d8_56 57 rfl ?_
      refine g_int (x' := (4 : Int32)) (by decide) ?_
      refine g_istore w d8_57 59 rfl rfl #[.val (.ref t), .val (.int (3 : Int32)), .val (.int ct), .val (.int (1 : Int32)), .val (.int (3 : Int32)), .val (.int (4 : Int32))] rfl ?_
      refine g_iloadN w d8_59 rfl 60 rfl ?_
      refine g_if_eq w d8_60 121 (by decide) (by decide) 63 rfl (fun h => absurd h (by decide)) (fun hc60 => ?_)
      refine g_iloadN w d8_63 rfl 64 rfl ?_
      refine g_iconst w d8_64 (4 : Int32) rfl 65 rfl ?_
      refine g_icmp_ne w d8_65 121 (by decide) (by decide) 68 rfl (fun hc65 => ?_) (fun h => absurd h (by decide))
      refine g_iinc w d8_121 124 rfl rfl (by decide) #[.val (.ref t), .val (.int (3 : Int32)), .val (.int ct), .val (.int (1 : Int32)), .val (.int (4 : Int32)), .val (.int (4 : Int32))] rfl ?_
      refine g_goto w d8_124 10 (by decide) (by decide) ?_
      refine g_iloadN w d8_10 rfl 11 rfl ?_
      refine g_if_eq w d8_11 127 (by decide) (by decide) 14 rfl (fun h => absurd h (by decide)) (fun hc11 => ?_)
      refine g_iload w d8_14 rfl 16 rfl ?_
      refine g_aloadN w d8_16 rfl rfl 17 rfl ?_
      refine g_getf w d8_17 0 rfl 2 rfl 24 rfl Via.refl 20 rfl (fun T w => ?_)
      refine g_icmp_ge w d8_20 127 (by decide) (by decide) 23 rfl (fun hc20 => ?_) (fun h => absurd h (by decide))
      refine g_aloadN w d8_127 rfl rfl 128 rfl ?_
      refine g_iloadN w d8_128 rfl 129 rfl ?_
      refine g_if_eq w d8_129 139 (by decide) (by decide) 132 rfl (fun h => absurd h (by decide)) (fun hc129 => ?_)
      refine g_aloadN w d8_132 rfl rfl 133 rfl ?_
      refine g_getf w d8_133 0 rfl 9 rfl 39 rfl Via.refl 136 rfl (fun T w => ?_)
      refine g_goto w d8_136 140 (by decide) (by decide) ?_
      refine g_putf w d8_140 0 rfl 9 rfl 39 rfl Via.refl 40 (Or.inl rfl) 9 rfl (ty := .int) (by decide) rfl rfl 143 rfl (fun T w => ?_)
      replace w := w.to (L' := [(t, O_SmallGroups (.ref me) (.ref ki) (.int (4 : Int32)) (.ref ba) (.ref am) (.int mo) (.int (0 : Int32)) .null .null (.int ct_u4) .null .null (.long ls_u4)), (sa, .inr (.long, [(.long x0), (.long x1), (.long x2), (.long x3)])), (ba, .inr (.int, [(.int (0 : Int32)), (.int (1 : Int32)), (.int (2 : Int32)), (.int (3 : Int32))])), (me, .inr (.int, ms_u4)), (ki, .inr (.byte, ks_u4)), (am, .inr (.long, [(.long x0), (.long x1), (.long x2), (.long x3)]))]) rfl
      refine g_iloadN w d8_143 rfl 144 rfl ?_
      exact g_iretn w (by simp) d8_144 (by decide) (by decide) ⟨1, ct_u4, c_u4, ms_u4, ks_u4, ls_u4, rfl, hct_u4, hG_u4, hcM_u4, rfl, Or.inl ⟨rfl, by omega⟩⟩
    · -- pc 52 room 0
      refine g_istoreN w d8_52 53 rfl rfl #[.val (.ref t), .val (.int (3 : Int32)), .val (.int ct), .val (.int (0 : Int32)), .val (.int (1 : Int32)), .val (.int (1 : Int32))] rfl ?_
      refine g_iload w d8_53 rfl 55 rfl ?_
      refine g_iconst w d8_55 (1 : Int32) rfl 56 rfl ?_
      refine g_iadd w d8_56 57 rfl ?_
      refine g_int (x' := (2 : Int32)) (by decide) ?_
      refine g_istore w d8_57 59 rfl rfl #[.val (.ref t), .val (.int (3 : Int32)), .val (.int ct), .val (.int (0 : Int32)), .val (.int (1 : Int32)), .val (.int (2 : Int32))] rfl ?_
      refine g_iloadN w d8_59 rfl 60 rfl ?_
      refine g_if_eq w d8_60 121 (by decide) (by decide) 63 rfl (fun hc60 => ?_) (fun h => absurd (by decide) h)
      refine g_iinc w d8_121 124 rfl rfl (by decide) #[.val (.ref t), .val (.int (3 : Int32)), .val (.int ct), .val (.int (0 : Int32)), .val (.int (2 : Int32)), .val (.int (2 : Int32))] rfl ?_
      refine g_goto w d8_124 10 (by decide) (by decide) ?_
      refine g_iloadN w d8_10 rfl 11 rfl ?_
      refine g_if_eq w d8_11 127 (by decide) (by decide) 14 rfl (fun hc11 => ?_) (fun h => absurd (by decide) h)
      refine g_aloadN w d8_127 rfl rfl 128 rfl ?_
      refine g_iloadN w d8_128 rfl 129 rfl ?_
      refine g_if_eq w d8_129 139 (by decide) (by decide) 132 rfl (fun hc129 => ?_) (fun h => absurd (by decide) h)
      refine g_iloadN w d8_139 rfl 140 rfl ?_
      refine g_putf w d8_140 0 rfl 9 rfl 39 rfl Via.refl 40 (Or.inl rfl) 9 rfl (ty := .int) (by decide) rfl rfl 143 rfl (fun T w => ?_)
      replace w := w.to (L' := [(t, O_SmallGroups (.ref me) (.ref ki) (.int (4 : Int32)) (.ref ba) (.ref am) (.int mo) (.int (0 : Int32)) .null .null (.int ct) .null .null (.long ls_u4)), (sa, .inr (.long, [(.long x0), (.long x1), (.long x2), (.long x3)])), (ba, .inr (.int, [(.int (0 : Int32)), (.int (1 : Int32)), (.int (2 : Int32)), (.int (3 : Int32))])), (me, .inr (.int, ms_u4)), (ki, .inr (.byte, ks_u4)), (am, .inr (.long, [(.long x0), (.long x1), (.long x2), (.long x3)]))]) rfl
      refine g_iloadN w d8_143 rfl 144 rfl ?_
      exact g_iretn w (by simp) d8_144 (by decide) (by decide) ⟨0, ct, c, ms_u4, ks_u4, ls_u4, rfl, hct, own_G_le hG_u4 (by omega), hcM, rfl, Or.inr ⟨rfl, rfl, by omega⟩⟩
  · -- pc 52 room 0
    refine g_istoreN w d8_52 53 rfl rfl #[.val (.ref t), .val (.int (3 : Int32)), .val (.int ct), .val (.int (0 : Int32)), .val (.int (0 : Int32)), .unset] rfl ?_
    refine g_iload w d8_53 rfl 55 rfl ?_
    refine g_iconst w d8_55 (1 : Int32) rfl 56 rfl ?_
    refine g_iadd w d8_56 57 rfl ?_
    refine g_int (x' := (1 : Int32)) (by decide) ?_
    refine g_istore w d8_57 59 rfl rfl #[.val (.ref t), .val (.int (3 : Int32)), .val (.int ct), .val (.int (0 : Int32)), .val (.int (0 : Int32)), .val (.int (1 : Int32))] rfl ?_
    refine g_iloadN w d8_59 rfl 60 rfl ?_
    refine g_if_eq w d8_60 121 (by decide) (by decide) 63 rfl (fun hc60 => ?_) (fun h => absurd (by decide) h)
    refine g_iinc w d8_121 124 rfl rfl (by decide) #[.val (.ref t), .val (.int (3 : Int32)), .val (.int ct), .val (.int (0 : Int32)), .val (.int (1 : Int32)), .val (.int (1 : Int32))] rfl ?_
    refine g_goto w d8_124 10 (by decide) (by decide) ?_
    refine g_iloadN w d8_10 rfl 11 rfl ?_
    refine g_if_eq w d8_11 127 (by decide) (by decide) 14 rfl (fun hc11 => ?_) (fun h => absurd (by decide) h)
    refine g_aloadN w d8_127 rfl rfl 128 rfl ?_
    refine g_iloadN w d8_128 rfl 129 rfl ?_
    refine g_if_eq w d8_129 139 (by decide) (by decide) 132 rfl (fun hc129 => ?_) (fun h => absurd (by decide) h)
    refine g_iloadN w d8_139 rfl 140 rfl ?_
    refine g_putf w d8_140 0 rfl 9 rfl 39 rfl Via.refl 40 (Or.inl rfl) 9 rfl (ty := .int) (by decide) rfl rfl 143 rfl (fun T w => ?_)
    replace w := w.to (L' := [(t, O_SmallGroups (.ref me) (.ref ki) (.int (4 : Int32)) (.ref ba) (.ref am) (.int mo) (.int (0 : Int32)) .null .null (.int ct) .null .null (.long ls_u2)), (sa, .inr (.long, [(.long x0), (.long x1), (.long x2), (.long x3)])), (ba, .inr (.int, [(.int (0 : Int32)), (.int (1 : Int32)), (.int (2 : Int32)), (.int (3 : Int32))])), (me, .inr (.int, ms_u2)), (ki, .inr (.byte, ks_u2)), (am, .inr (.long, [(.long x0), (.long x1), (.long x2), (.long x3)]))]) rfl
    refine g_iloadN w d8_143 rfl 144 rfl ?_
    exact g_iretn w (by simp) d8_144 (by decide) (by decide) ⟨0, ct, c, ms_u2, ks_u2, ls_u2, rfl, hct, own_G_le hG_u2 (by omega), hcM, rfl, Or.inr ⟨rfl, rfl, by omega⟩⟩
set_option maxRecDepth 65536 in
set_option maxHeartbeats 40000000 in
theorem rm8_4 (l : Launch) (Z : State) (a0 : Array Value) (hw : ∀ d ∈ tables_1, d.before a0 Z = true) (n0 : Nat) (t sa ba me ki am : Addr) (x0 x1 x2 x3 : Int64) (mo ct : Int32) (ls : Int64) (ms ks : List Value) (c M : Nat) (hmo : mo.toInt = (M : Int)) (hM : M ≤ 7) (hct : ct.toInt = (c : Int)) (hcM : c ≤ M) (hG : own_G c ms ks) (hA : own_A x0 x1 x2 x3) :
    Con l (⟨"com/example/cangdan/cangdan/fewest/SmallGroups", "list", "(I)Z"⟩ : MethodName) prog_29_method_14_code 6 (some .boolean) ({ frames := 3, cells := 6, slots := 12, locals := 61 } : Room) Z n0 #[(.ref t), (.int (4 : Int32))] ([(t, O_SmallGroups (.ref me) (.ref ki) (.int (4 : Int32)) (.ref ba) (.ref am) (.int mo) (.int (0 : Int32)) .null .null (.int ct) .null .null (.long ls)), (sa, .inr (.long, [(.long x0), (.long x1), (.long x2), (.long x3)])), (ba, .inr (.int, [(.int (0 : Int32)), (.int (1 : Int32)), (.int (2 : Int32)), (.int (3 : Int32))])), (me, .inr (.int, ms)), (ki, .inr (.byte, ks)), (am, .inr (.long, [(.long x0), (.long x1), (.long x2), (.long x3)]))]) (fun v L' => ∃ (rr ct' : Int32) (c' : Nat) (ms' ks' : List Value) (ls' : Int64), v = some (.int rr) ∧ ct'.toInt = (c' : Int) ∧ own_G c' ms' ks' ∧ c' ≤ M ∧ L' = [(t, O_SmallGroups (.ref me) (.ref ki) (.int (4 : Int32)) (.ref ba) (.ref am) (.int mo) (.int (0 : Int32)) .null .null (.int ct') .null .null (.long ls')), (sa, .inr (.long, [(.long x0), (.long x1), (.long x2), (.long x3)])), (ba, .inr (.int, [(.int (0 : Int32)), (.int (1 : Int32)), (.int (2 : Int32)), (.int (3 : Int32))])), (me, .inr (.int, ms')), (ki, .inr (.byte, ks')), (am, .inr (.long, [(.long x0), (.long x1), (.long x2), (.long x3)]))] ∧ ((rr = 1 ∧ c' = c + (own_zn (x0.toInt + x1.toInt + x2.toInt + x3.toInt))) ∨ (rr = 0 ∧ c' = c ∧ M < c + (own_zn (x0.toInt + x1.toInt + x2.toInt + x3.toInt))))) := by
  refine Con.of (ws := tables_1) (a0 := a0) pn_8 hw ?_
  intro p e s m below meth cde T kb w
  refine g_entry #[.val (.ref t), .val (.int (4 : Int32)), .unset, .unset, .unset, .unset] (by first | (simp [entryFrame, mkF, argsToLocals, Value.category]; done) | rfl) ?_
  obtain ⟨A0, A1, A2, A3, A4, N0, N1, N2, N3⟩ := id hA
  refine g_aloadN w d8_0 rfl rfl 1 rfl ?_
  refine g_getf w d8_1 0 rfl 9 rfl 39 rfl Via.refl 4 rfl (fun T w => ?_)
  refine g_istoreN w d8_4 5 rfl rfl #[.val (.ref t), .val (.int (4 : Int32)), .val (.int ct), .unset, .unset, .unset] rfl ?_
  refine g_iconst w d8_5 (1 : Int32) rfl 6 rfl ?_
  refine g_istoreN w d8_6 7 rfl rfl #[.val (.ref t), .val (.int (4 : Int32)), .val (.int ct), .val (.int (1 : Int32)), .unset, .unset] rfl ?_
  refine g_iconst w d8_7 (0 : Int32) rfl 8 rfl ?_
  refine g_istore w d8_8 10 rfl rfl #[.val (.ref t), .val (.int (4 : Int32)), .val (.int ct), .val (.int (1 : Int32)), .val (.int (0 : Int32)), .unset] rfl ?_
  refine g_iloadN w d8_10 rfl 11 rfl ?_
  refine g_if_eq w d8_11 127 (by decide) (by decide) 14 rfl (fun h => absurd h (by decide)) (fun hc11 => ?_)
  refine g_iload w d8_14 rfl 16 rfl ?_
  refine g_aloadN w d8_16 rfl rfl 17 rfl ?_
  refine g_getf w d8_17 0 rfl 2 rfl 24 rfl Via.refl 20 rfl (fun T w => ?_)
  refine g_icmp_ge w d8_20 127 (by decide) (by decide) 23 rfl (fun h => absurd (by decide) h) (fun hc20 => ?_)
  refine g_iloadN w d8_23 rfl 24 rfl ?_
  refine g_iconst w d8_24 (3 : Int32) rfl 25 rfl ?_
  refine g_icmp_ne w d8_25 53 (by decide) (by decide) 28 rfl (fun hc25 => ?_) (fun h => absurd h (by decide))
  refine g_iload w d8_53 rfl 55 rfl ?_
  refine g_iconst w d8_55 (1 : Int32) rfl 56 rfl ?_
  refine g_iadd w d8_56 57 rfl ?_
  refine g_int (x' := (1 : Int32)) (by decide) ?_
  refine g_istore w d8_57 59 rfl rfl #[.val (.ref t), .val (.int (4 : Int32)), .val (.int ct), .val (.int (1 : Int32)), .val (.int (0 : Int32)), .val (.int (1 : Int32))] rfl ?_
  refine g_iloadN w d8_59 rfl 60 rfl ?_
  refine g_if_eq w d8_60 121 (by decide) (by decide) 63 rfl (fun h => absurd h (by decide)) (fun hc60 => ?_)
  refine g_iloadN w d8_63 rfl 64 rfl ?_
  refine g_iconst w d8_64 (4 : Int32) rfl 65 rfl ?_
  refine g_icmp_ne w d8_65 121 (by decide) (by decide) 68 rfl (fun h => absurd (by decide) h) (fun hc65 => ?_)
  refine g_iload w d8_68 rfl 70 rfl ?_
  refine g_aloadN w d8_70 rfl rfl 71 rfl ?_
  refine g_getf w d8_71 0 rfl 2 rfl 24 rfl Via.refl 74 rfl (fun T w => ?_)
  refine g_icmp_ge w d8_74 121 (by decide) (by decide) 77 rfl (fun h => absurd (by decide) h) (fun hc74 => ?_)
  refine g_aloadN w d8_77 rfl rfl 78 rfl ?_
  refine g_iconst w d8_78 (2 : Int32) rfl 79 rfl ?_
  refine g_newarr w d8_79 12 rfl 2 2 (by decide) (by decide) (by decide) [(.int (0 : Int32)), (.int (0 : Int32))] rfl (by decide) (by decide) 81 rfl (fun T b1 w => ?_)
  replace w := w.to (L' := [(t, O_SmallGroups (.ref me) (.ref ki) (.int (4 : Int32)) (.ref ba) (.ref am) (.int mo) (.int (0 : Int32)) .null .null (.int ct) .null .null (.long ls)), (sa, .inr (.long, [(.long x0), (.long x1), (.long x2), (.long x3)])), (ba, .inr (.int, [(.int (0 : Int32)), (.int (1 : Int32)), (.int (2 : Int32)), (.int (3 : Int32))])), (me, .inr (.int, ms)), (ki, .inr (.byte, ks)), (am, .inr (.long, [(.long x0), (.long x1), (.long x2), (.long x3)])), (b1, .inr (.int, [(.int (0 : Int32)), (.int (0 : Int32))]))]) rfl
  refine g_dup w d8_81 rfl 82 rfl ?_
  refine g_iconst w d8_82 (0 : Int32) rfl 83 rfl ?_
  refine g_iload w d8_83 rfl 85 rfl ?_
  refine g_iastore w d8_85 6 rfl 0 (by decide) (Nat.le_of_ble_eq_true rfl) (.int (0 : Int32)) rfl 86 rfl (fun T w => ?_)
  replace w := w.to (L' := [(t, O_SmallGroups (.ref me) (.ref ki) (.int (4 : Int32)) (.ref ba) (.ref am) (.int mo) (.int (0 : Int32)) .null .null (.int ct) .null .null (.long ls)), (sa, .inr (.long, [(.long x0), (.long x1), (.long x2), (.long x3)])), (ba, .inr (.int, [(.int (0 : Int32)), (.int (1 : Int32)), (.int (2 : Int32)), (.int (3 : Int32))])), (me, .inr (.int, ms)), (ki, .inr (.byte, ks)), (am, .inr (.long, [(.long x0), (.long x1), (.long x2), (.long x3)])), (b1, .inr (.int, [(.int (0 : Int32)), (.int (0 : Int32))]))]) rfl
  refine g_dup w d8_86 rfl 87 rfl ?_
  refine g_iconst w d8_87 (1 : Int32) rfl 88 rfl ?_
  refine g_iload w d8_88 rfl 90 rfl ?_
  refine g_iastore w d8_90 6 rfl 1 (by decide) (Nat.le_of_ble_eq_true rfl) (.int (1 : Int32)) rfl 91 rfl (fun T w => ?_)
  replace w := w.to (L' := [(t, O_SmallGroups (.ref me) (.ref ki) (.int (4 : Int32)) (.ref ba) (.ref am) (.int mo) (.int (0 : Int32)) .null .null (.int ct) .null .null (.long ls)), (sa, .inr (.long, [(.long x0), (.long x1), (.long x2), (.long x3)])), (ba, .inr (.int, [(.int (0 : Int32)), (.int (1 : Int32)), (.int (2 : Int32)), (.int (3 : Int32))])), (me, .inr (.int, ms)), (ki, .inr (.byte, ks)), (am, .inr (.long, [(.long x0), (.long x1), (.long x2), (.long x3)])), (b1, .inr (.int, [(.int (0 : Int32)), (.int (1 : Int32))]))]) rfl
  refine g_iload w d8_91 rfl 93 rfl ?_
  refine g_iconst w d8_93 (1 : Int32) rfl 94 rfl ?_
  refine g_iadd w d8_94 95 rfl ?_
  refine g_int (x' := (2 : Int32)) (by decide) ?_
  refine g_aloadN w d8_95 rfl rfl 96 rfl ?_
  refine g_getf w d8_96 0 rfl 4 rfl 28 rfl Via.refl 99 rfl (fun T w => ?_)
  refine g_iload w d8_99 rfl 101 rfl ?_
  refine g_laload w d8_101 5 rfl 0 (by decide) rfl 102 rfl ?_
  refine g_lneg w d8_102 103 rfl ?_
  refine g_aloadN w d8_103 rfl rfl 104 rfl ?_
  refine g_getf w d8_104 0 rfl 4 rfl 28 rfl Via.refl 107 rfl (fun T w => ?_)
  refine g_iload w d8_107 rfl 109 rfl ?_
  refine g_laload w d8_109 5 rfl 1 (by decide) rfl 110 rfl ?_
  refine g_lsub w d8_110 111 rfl ?_
  refine g_priv w (argsL := [(.ref b1), (.int (2 : Int32)), (.long ((-x0) - x1))]) (rest := []) (rm9_01 l Z a0 hw n0 t sa ba me ki am b1 x0 x1 x2 x3 mo ct ls ms ks c M ((-x0) - x1) hmo hM hct hcM hG hA (own_lsub (own_lneg rfl (by omega) (by omega)) rfl (by omega) (by omega) (by omega) (by omega))) d8_111 0 rfl 69 rfl 70 rfl 10 rfl 72 rfl 71 rfl 9 rfl ⟨by decide, by decide⟩ pd_2 rfl rfl rfl 0 rfl (by decide) (by decide) (by decide) (by decide) 114 rfl (fun T v L w h => ?_)
  obtain ⟨rr, ct_u2, c_u2, ms_u2, ks_u2, ls_u2, rfl, hct_u2, hG_u2, hle_u2, hcM_u2, hL, hor⟩ := h
  replace w := w.to hL
  rcases hor with ⟨rfl, hk_u2⟩ | ⟨rfl, hk_u2⟩
  · -- pc 114 room 1
    refine g_istoreN w d8_114 115 rfl rfl #[.val (.ref t), .val (.int (4 : Int32)), .val (.int ct), .val (.int (1 : Int32)), .val (.int (0 : Int32)), .val (.int (1 : Int32))] rfl ?_
    refine g_iinc w d8_115 118 rfl rfl (by decide) #[.val (.ref t), .val (.int (4 : Int32)), .val (.int ct), .val (.int (1 : Int32)), .val (.int (0 : Int32)), .val (.int (2 : Int32))] rfl ?_
    refine g_goto w d8_118 59 (by decide) (by decide) ?_
    refine g_iloadN w d8_59 rfl 60 rfl ?_
    refine g_if_eq w d8_60 121 (by decide) (by decide) 63 rfl (fun h => absurd h (by decide)) (fun hc60 => ?_)
    refine g_iloadN w d8_63 rfl 64 rfl ?_
    refine g_iconst w d8_64 (4 : Int32) rfl 65 rfl ?_
    refine g_icmp_ne w d8_65 121 (by decide) (by decide) 68 rfl (fun h => absurd (by decide) h) (fun hc65 => ?_)
    refine g_iload w d8_68 rfl 70 rfl ?_
    refine g_aloadN w d8_70 rfl rfl 71 rfl ?_
    refine g_getf w d8_71 0 rfl 2 rfl 24 rfl Via.refl 74 rfl (fun T w => ?_)
    refine g_icmp_ge w d8_74 121 (by decide) (by decide) 77 rfl (fun h => absurd (by decide) h) (fun hc74 => ?_)
    refine g_aloadN w d8_77 rfl rfl 78 rfl ?_
    refine g_iconst w d8_78 (2 : Int32) rfl 79 rfl ?_
    refine g_newarr w d8_79 12 rfl 2 2 (by decide) (by decide) (by decide) [(.int (0 : Int32)), (.int (0 : Int32))] rfl (by decide) (by decide) 81 rfl (fun T b3 w => ?_)
    replace w := w.to (L' := [(t, O_SmallGroups (.ref me) (.ref ki) (.int (4 : Int32)) (.ref ba) (.ref am) (.int mo) (.int (0 : Int32)) .null .null (.int ct_u2) .null .null (.long ls_u2)), (sa, .inr (.long, [(.long x0), (.long x1), (.long x2), (.long x3)])), (ba, .inr (.int, [(.int (0 : Int32)), (.int (1 : Int32)), (.int (2 : Int32)), (.int (3 : Int32))])), (me, .inr (.int, ms_u2)), (ki, .inr (.byte, ks_u2)), (am, .inr (.long, [(.long x0), (.long x1), (.long x2), (.long x3)])), (b3, .inr (.int, [(.int (0 : Int32)), (.int (0 : Int32))]))]) rfl
    refine g_dup w d8_81 rfl 82 rfl ?_
    refine g_iconst w d8_82 (0 : Int32) rfl 83 rfl ?_
    refine g_iload w d8_83 rfl 85 rfl ?_
    refine g_iastore w d8_85 6 rfl 0 (by decide) (Nat.le_of_ble_eq_true rfl) (.int (0 : Int32)) rfl 86 rfl (fun T w => ?_)
    replace w := w.to (L' := [(t, O_SmallGroups (.ref me) (.ref ki) (.int (4 : Int32)) (.ref ba) (.ref am) (.int mo) (.int (0 : Int32)) .null .null (.int ct_u2) .null .null (.long ls_u2)), (sa, .inr (.long, [(.long x0), (.long x1), (.long x2), (.long x3)])), (ba, .inr (.int, [(.int (0 : Int32)), (.int (1 : Int32)), (.int (2 : Int32)), (.int (3 : Int32))])), (me, .inr (.int, ms_u2)), (ki, .inr (.byte, ks_u2)), (am, .inr (.long, [(.long x0), (.long x1), (.long x2), (.long x3)])), (b3, .inr (.int, [(.int (0 : Int32)), (.int (0 : Int32))]))]) rfl
    refine g_dup w d8_86 rfl 87 rfl ?_
    refine g_iconst w d8_87 (1 : Int32) rfl 88 rfl ?_
    refine g_iload w d8_88 rfl 90 rfl ?_
    refine g_iastore w d8_90 6 rfl 1 (by decide) (Nat.le_of_ble_eq_true rfl) (.int (2 : Int32)) rfl 91 rfl (fun T w => ?_)
    replace w := w.to (L' := [(t, O_SmallGroups (.ref me) (.ref ki) (.int (4 : Int32)) (.ref ba) (.ref am) (.int mo) (.int (0 : Int32)) .null .null (.int ct_u2) .null .null (.long ls_u2)), (sa, .inr (.long, [(.long x0), (.long x1), (.long x2), (.long x3)])), (ba, .inr (.int, [(.int (0 : Int32)), (.int (1 : Int32)), (.int (2 : Int32)), (.int (3 : Int32))])), (me, .inr (.int, ms_u2)), (ki, .inr (.byte, ks_u2)), (am, .inr (.long, [(.long x0), (.long x1), (.long x2), (.long x3)])), (b3, .inr (.int, [(.int (0 : Int32)), (.int (2 : Int32))]))]) rfl
    refine g_iload w d8_91 rfl 93 rfl ?_
    refine g_iconst w d8_93 (1 : Int32) rfl 94 rfl ?_
    refine g_iadd w d8_94 95 rfl ?_
    refine g_int (x' := (3 : Int32)) (by decide) ?_
    refine g_aloadN w d8_95 rfl rfl 96 rfl ?_
    refine g_getf w d8_96 0 rfl 4 rfl 28 rfl Via.refl 99 rfl (fun T w => ?_)
    refine g_iload w d8_99 rfl 101 rfl ?_
    refine g_laload w d8_101 5 rfl 0 (by decide) rfl 102 rfl ?_
    refine g_lneg w d8_102 103 rfl ?_
    refine g_aloadN w d8_103 rfl rfl 104 rfl ?_
    refine g_getf w d8_104 0 rfl 4 rfl 28 rfl Via.refl 107 rfl (fun T w => ?_)
    refine g_iload w d8_107 rfl 109 rfl ?_
    refine g_laload w d8_109 5 rfl 2 (by decide) rfl 110 rfl ?_
    refine g_lsub w d8_110 111 rfl ?_
    refine g_priv w (argsL := [(.ref b3), (.int (3 : Int32)), (.long ((-x0) - x2))]) (rest := []) (rm9_t l Z a0 hw n0 t sa ba me ki am b3 x0 x1 x2 x3 mo ct_u2 ls_u2 ms_u2 ks_u2 c_u2 M [(.int (0 : Int32)), (.int (2 : Int32))] 3 ((-x0) - x2) (by decide)) d8_111 0 rfl 69 rfl 70 rfl 10 rfl 72 rfl 71 rfl 9 rfl ⟨by decide, by decide⟩ pd_2 rfl rfl rfl 0 rfl (by decide) (by decide) (by decide) (by decide) 114 rfl (fun T v L w h => ?_)
    obtain ⟨rfl, hL⟩ := h
    replace w := w.to hL
    refine g_istoreN w d8_114 115 rfl rfl #[.val (.ref t), .val (.int (4 : Int32)), .val (.int ct), .val (.int (1 : Int32)), .val (.int (0 : Int32)), .val (.int (2 : Int32))] rfl ?_
    refine g_iinc w d8_115 118 rfl rfl (by decide) #[.val (.ref t), .val (.int (4 : Int32)), .val (.int ct), .val (.int (1 : Int32)), .val (.int (0 : Int32)), .val (.int (3 : Int32))] rfl ?_
    refine g_goto w d8_118 59 (by decide) (by decide) ?_
    refine g_iloadN w d8_59 rfl 60 rfl ?_
    refine g_if_eq w d8_60 121 (by decide) (by decide) 63 rfl (fun h => absurd h (by decide)) (fun hc60 => ?_)
    refine g_iloadN w d8_63 rfl 64 rfl ?_
    refine g_iconst w d8_64 (4 : Int32) rfl 65 rfl ?_
    refine g_icmp_ne w d8_65 121 (by decide) (by decide) 68 rfl (fun h => absurd (by decide) h) (fun hc65 => ?_)
    refine g_iload w d8_68 rfl 70 rfl ?_
    refine g_aloadN w d8_70 rfl rfl 71 rfl ?_
    refine g_getf w d8_71 0 rfl 2 rfl 24 rfl Via.refl 74 rfl (fun T w => ?_)
    refine g_icmp_ge w d8_74 121 (by decide) (by decide) 77 rfl (fun h => absurd (by decide) h) (fun hc74 => ?_)
    refine g_aloadN w d8_77 rfl rfl 78 rfl ?_
    refine g_iconst w d8_78 (2 : Int32) rfl 79 rfl ?_
    refine g_newarr w d8_79 12 rfl 2 2 (by decide) (by decide) (by decide) [(.int (0 : Int32)), (.int (0 : Int32))] rfl (by decide) (by decide) 81 rfl (fun T b4 w => ?_)
    replace w := w.to (L' := [(t, O_SmallGroups (.ref me) (.ref ki) (.int (4 : Int32)) (.ref ba) (.ref am) (.int mo) (.int (0 : Int32)) .null .null (.int ct_u2) .null .null (.long ls_u2)), (sa, .inr (.long, [(.long x0), (.long x1), (.long x2), (.long x3)])), (ba, .inr (.int, [(.int (0 : Int32)), (.int (1 : Int32)), (.int (2 : Int32)), (.int (3 : Int32))])), (me, .inr (.int, ms_u2)), (ki, .inr (.byte, ks_u2)), (am, .inr (.long, [(.long x0), (.long x1), (.long x2), (.long x3)])), (b4, .inr (.int, [(.int (0 : Int32)), (.int (0 : Int32))]))]) rfl
    refine g_dup w d8_81 rfl 82 rfl ?_
    refine g_iconst w d8_82 (0 : Int32) rfl 83 rfl ?_
    refine g_iload w d8_83 rfl 85 rfl ?_
    refine g_iastore w d8_85 6 rfl 0 (by decide) (Nat.le_of_ble_eq_true rfl) (.int (0 : Int32)) rfl 86 rfl (fun T w => ?_)
    replace w := w.to (L' := [(t, O_SmallGroups (.ref me) (.ref ki) (.int (4 : Int32)) (.ref ba) (.ref am) (.int mo) (.int (0 : Int32)) .null .null (.int ct_u2) .null .null (.long ls_u2)), (sa, .inr (.long, [(.long x0), (.long x1), (.long x2), (.long x3)])), (ba, .inr (.int, [(.int (0 : Int32)), (.int (1 : Int32)), (.int (2 : Int32)), (.int (3 : Int32))])), (me, .inr (.int, ms_u2)), (ki, .inr (.byte, ks_u2)), (am, .inr (.long, [(.long x0), (.long x1), (.long x2), (.long x3)])), (b4, .inr (.int, [(.int (0 : Int32)), (.int (0 : Int32))]))]) rfl
    refine g_dup w d8_86 rfl 87 rfl ?_
    refine g_iconst w d8_87 (1 : Int32) rfl 88 rfl ?_
    refine g_iload w d8_88 rfl 90 rfl ?_
    refine g_iastore w d8_90 6 rfl 1 (by decide) (Nat.le_of_ble_eq_true rfl) (.int (3 : Int32)) rfl 91 rfl (fun T w => ?_)
    replace w := w.to (L' := [(t, O_SmallGroups (.ref me) (.ref ki) (.int (4 : Int32)) (.ref ba) (.ref am) (.int mo) (.int (0 : Int32)) .null .null (.int ct_u2) .null .null (.long ls_u2)), (sa, .inr (.long, [(.long x0), (.long x1), (.long x2), (.long x3)])), (ba, .inr (.int, [(.int (0 : Int32)), (.int (1 : Int32)), (.int (2 : Int32)), (.int (3 : Int32))])), (me, .inr (.int, ms_u2)), (ki, .inr (.byte, ks_u2)), (am, .inr (.long, [(.long x0), (.long x1), (.long x2), (.long x3)])), (b4, .inr (.int, [(.int (0 : Int32)), (.int (3 : Int32))]))]) rfl
    refine g_iload w d8_91 rfl 93 rfl ?_
    refine g_iconst w d8_93 (1 : Int32) rfl 94 rfl ?_
    refine g_iadd w d8_94 95 rfl ?_
    refine g_int (x' := (4 : Int32)) (by decide) ?_
    refine g_aloadN w d8_95 rfl rfl 96 rfl ?_
    refine g_getf w d8_96 0 rfl 4 rfl 28 rfl Via.refl 99 rfl (fun T w => ?_)
    refine g_iload w d8_99 rfl 101 rfl ?_
    refine g_laload w d8_101 5 rfl 0 (by decide) rfl 102 rfl ?_
    refine g_lneg w d8_102 103 rfl ?_
    refine g_aloadN w d8_103 rfl rfl 104 rfl ?_
    refine g_getf w d8_104 0 rfl 4 rfl 28 rfl Via.refl 107 rfl (fun T w => ?_)
    refine g_iload w d8_107 rfl 109 rfl ?_
    refine g_laload w d8_109 5 rfl 3 (by decide) rfl 110 rfl ?_
    refine g_lsub w d8_110 111 rfl ?_
    refine g_priv w (argsL := [(.ref b4), (.int (4 : Int32)), (.long ((-x0) - x3))]) (rest := []) (rm9_t l Z a0 hw n0 t sa ba me ki am b4 x0 x1 x2 x3 mo ct_u2 ls_u2 ms_u2 ks_u2 c_u2 M [(.int (0 : Int32)), (.int (3 : Int32))] 4 ((-x0) - x3) (by decide)) d8_111 0 rfl 69 rfl 70 rfl 10 rfl 72 rfl 71 rfl 9 rfl ⟨by decide, by decide⟩ pd_2 rfl rfl rfl 0 rfl (by decide) (by decide) (by decide) (by decide) 114 rfl (fun T v L w h => ?_)
    obtain ⟨rfl, hL⟩ := h
    replace w := w.to hL
    refine g_istoreN w d8_114 115 rfl rfl #[.val (.ref t), .val (.int (4 : Int32)), .val (.int ct), .val (.int (1 : Int32)), .val (.int (0 : Int32)), .val (.int (3 : Int32))] rfl ?_
    refine g_iinc w d8_115 118 rfl rfl (by decide) #[.val (.ref t), .val (.int (4 : Int32)), .val (.int ct), .val (.int (1 : Int32)), .val (.int (0 : Int32)), .val (.int (4 : Int32))] rfl ?_
    refine g_goto w d8_118 59 (by decide) (by decide) ?_
    refine g_iloadN w d8_59 rfl 60 rfl ?_
    refine g_if_eq w d8_60 121 (by decide) (by decide) 63 rfl (fun h => absurd h (by decide)) (fun hc60 => ?_)
    refine g_iloadN w d8_63 rfl 64 rfl ?_
    refine g_iconst w d8_64 (4 : Int32) rfl 65 rfl ?_
    refine g_icmp_ne w d8_65 121 (by decide) (by decide) 68 rfl (fun h => absurd (by decide) h) (fun hc65 => ?_)
    refine g_iload w d8_68 rfl 70 rfl ?_
    refine g_aloadN w d8_70 rfl rfl 71 rfl ?_
    refine g_getf w d8_71 0 rfl 2 rfl 24 rfl Via.refl 74 rfl (fun T w => ?_)
    refine g_icmp_ge w d8_74 121 (by decide) (by decide) 77 rfl (fun hc74 => ?_) (fun h => absurd h (by decide))
    refine g_iinc w d8_121 124 rfl rfl (by decide) #[.val (.ref t), .val (.int (4 : Int32)), .val (.int ct), .val (.int (1 : Int32)), .val (.int (1 : Int32)), .val (.int (4 : Int32))] rfl ?_
    refine g_goto w d8_124 10 (by decide) (by decide) ?_
    refine g_iloadN w d8_10 rfl 11 rfl ?_
    refine g_if_eq w d8_11 127 (by decide) (by decide) 14 rfl (fun h => absurd h (by decide)) (fun hc11 => ?_)
    refine g_iload w d8_14 rfl 16 rfl ?_
    refine g_aloadN w d8_16 rfl rfl 17 rfl ?_
    refine g_getf w d8_17 0 rfl 2 rfl 24 rfl Via.refl 20 rfl (fun T w => ?_)
    refine g_icmp_ge w d8_20 127 (by decide) (by decide) 23 rfl (fun h => absurd (by decide) h) (fun hc20 => ?_)
    refine g_iloadN w d8_23 rfl 24 rfl ?_
    refine g_iconst w d8_24 (3 : Int32) rfl 25 rfl ?_
    refine g_icmp_ne w d8_25 53 (by decide) (by decide) 28 rfl (fun hc25 => ?_) (fun h => absurd h (by decide))
    refine g_iload w d8_53 rfl 55 rfl ?_
    refine g_iconst w d8_55 (1 : Int32) rfl 56 rfl ?_
    refine g_iadd w d8_56 57 rfl ?_
    refine g_int (x' := (2 : Int32)) (by decide) ?_
    refine g_istore w d8_57 59 rfl rfl #[.val (.ref t), .val (.int (4 : Int32)), .val (.int ct), .val (.int (1 : Int32)), .val (.int (1 : Int32)), .val (.int (2 : Int32))] rfl ?_
    refine g_iloadN w d8_59 rfl 60 rfl ?_
    refine g_if_eq w d8_60 121 (by decide) (by decide) 63 rfl (fun h => absurd h (by decide)) (fun hc60 => ?_)
    refine g_iloadN w d8_63 rfl 64 rfl ?_
    refine g_iconst w d8_64 (4 : Int32) rfl 65 rfl ?_
    refine g_icmp_ne w d8_65 121 (by decide) (by decide) 68 rfl (fun h => absurd (by decide) h) (fun hc65 => ?_)
    refine g_iload w d8_68 rfl 70 rfl ?_
    refine g_aloadN w d8_70 rfl rfl 71 rfl ?_
    refine g_getf w d8_71 0 rfl 2 rfl 24 rfl Via.refl 74 rfl (fun T w => ?_)
    refine g_icmp_ge w d8_74 121 (by decide) (by decide) 77 rfl (fun h => absurd (by decide) h) (fun hc74 => ?_)
    refine g_aloadN w d8_77 rfl rfl 78 rfl ?_
    refine g_iconst w d8_78 (2 : Int32) rfl 79 rfl ?_
    refine g_newarr w d8_79 12 rfl 2 2 (by decide) (by decide) (by decide) [(.int (0 : Int32)), (.int (0 : Int32))] rfl (by decide) (by decide) 81 rfl (fun T b5 w => ?_)
    replace w := w.to (L' := [(t, O_SmallGroups (.ref me) (.ref ki) (.int (4 : Int32)) (.ref ba) (.ref am) (.int mo) (.int (0 : Int32)) .null .null (.int ct_u2) .null .null (.long ls_u2)), (sa, .inr (.long, [(.long x0), (.long x1), (.long x2), (.long x3)])), (ba, .inr (.int, [(.int (0 : Int32)), (.int (1 : Int32)), (.int (2 : Int32)), (.int (3 : Int32))])), (me, .inr (.int, ms_u2)), (ki, .inr (.byte, ks_u2)), (am, .inr (.long, [(.long x0), (.long x1), (.long x2), (.long x3)])), (b5, .inr (.int, [(.int (0 : Int32)), (.int (0 : Int32))]))]) rfl
    refine g_dup w d8_81 rfl 82 rfl ?_
    refine g_iconst w d8_82 (0 : Int32) rfl 83 rfl ?_
    refine g_iload w d8_83 rfl 85 rfl ?_
    refine g_iastore w d8_85 6 rfl 0 (by decide) (Nat.le_of_ble_eq_true rfl) (.int (1 : Int32)) rfl 86 rfl (fun T w => ?_)
    replace w := w.to (L' := [(t, O_SmallGroups (.ref me) (.ref ki) (.int (4 : Int32)) (.ref ba) (.ref am) (.int mo) (.int (0 : Int32)) .null .null (.int ct_u2) .null .null (.long ls_u2)), (sa, .inr (.long, [(.long x0), (.long x1), (.long x2), (.long x3)])), (ba, .inr (.int, [(.int (0 : Int32)), (.int (1 : Int32)), (.int (2 : Int32)), (.int (3 : Int32))])), (me, .inr (.int, ms_u2)), (ki, .inr (.byte, ks_u2)), (am, .inr (.long, [(.long x0), (.long x1), (.long x2), (.long x3)])), (b5, .inr (.int, [(.int (1 : Int32)), (.int (0 : Int32))]))]) rfl
    refine g_dup w d8_86 rfl 87 rfl ?_
    refine g_iconst w d8_87 (1 : Int32) rfl 88 rfl ?_
    refine g_iload w d8_88 rfl 90 rfl ?_
    refine g_iastore w d8_90 6 rfl 1 (by decide) (Nat.le_of_ble_eq_true rfl) (.int (2 : Int32)) rfl 91 rfl (fun T w => ?_)
    replace w := w.to (L' := [(t, O_SmallGroups (.ref me) (.ref ki) (.int (4 : Int32)) (.ref ba) (.ref am) (.int mo) (.int (0 : Int32)) .null .null (.int ct_u2) .null .null (.long ls_u2)), (sa, .inr (.long, [(.long x0), (.long x1), (.long x2), (.long x3)])), (ba, .inr (.int, [(.int (0 : Int32)), (.int (1 : Int32)), (.int (2 : Int32)), (.int (3 : Int32))])), (me, .inr (.int, ms_u2)), (ki, .inr (.byte, ks_u2)), (am, .inr (.long, [(.long x0), (.long x1), (.long x2), (.long x3)])), (b5, .inr (.int, [(.int (1 : Int32)), (.int (2 : Int32))]))]) rfl
    refine g_iload w d8_91 rfl 93 rfl ?_
    refine g_iconst w d8_93 (1 : Int32) rfl 94 rfl ?_
    refine g_iadd w d8_94 95 rfl ?_
    refine g_int (x' := (3 : Int32)) (by decide) ?_
    refine g_aloadN w d8_95 rfl rfl 96 rfl ?_
    refine g_getf w d8_96 0 rfl 4 rfl 28 rfl Via.refl 99 rfl (fun T w => ?_)
    refine g_iload w d8_99 rfl 101 rfl ?_
    refine g_laload w d8_101 5 rfl 1 (by decide) rfl 102 rfl ?_
    refine g_lneg w d8_102 103 rfl ?_
    refine g_aloadN w d8_103 rfl rfl 104 rfl ?_
    refine g_getf w d8_104 0 rfl 4 rfl 28 rfl Via.refl 107 rfl (fun T w => ?_)
    refine g_iload w d8_107 rfl 109 rfl ?_
    refine g_laload w d8_109 5 rfl 2 (by decide) rfl 110 rfl ?_
    refine g_lsub w d8_110 111 rfl ?_
    refine g_priv w (argsL := [(.ref b5), (.int (3 : Int32)), (.long ((-x1) - x2))]) (rest := []) (rm9_t l Z a0 hw n0 t sa ba me ki am b5 x0 x1 x2 x3 mo ct_u2 ls_u2 ms_u2 ks_u2 c_u2 M [(.int (1 : Int32)), (.int (2 : Int32))] 3 ((-x1) - x2) (by decide)) d8_111 0 rfl 69 rfl 70 rfl 10 rfl 72 rfl 71 rfl 9 rfl ⟨by decide, by decide⟩ pd_2 rfl rfl rfl 0 rfl (by decide) (by decide) (by decide) (by decide) 114 rfl (fun T v L w h => ?_)
    obtain ⟨rfl, hL⟩ := h
    replace w := w.to hL
    refine g_istoreN w d8_114 115 rfl rfl #[.val (.ref t), .val (.int (4 : Int32)), .val (.int ct), .val (.int (1 : Int32)), .val (.int (1 : Int32)), .val (.int (2 : Int32))] rfl ?_
    refine g_iinc w d8_115 118 rfl rfl (by decide) #[.val (.ref t), .val (.int (4 : Int32)), .val (.int ct), .val (.int (1 : Int32)), .val (.int (1 : Int32)), .val (.int (3 : Int32))] rfl ?_
    refine g_goto w d8_118 59 (by decide) (by decide) ?_
    refine g_iloadN w d8_59 rfl 60 rfl ?_
    refine g_if_eq w d8_60 121 (by decide) (by decide) 63 rfl (fun h => absurd h (by decide)) (fun hc60 => ?_)
    refine g_iloadN w d8_63 rfl 64 rfl ?_
    refine g_iconst w d8_64 (4 : Int32) rfl 65 rfl ?_
    refine g_icmp_ne w d8_65 121 (by decide) (by decide) 68 rfl (fun h => absurd (by decide) h) (fun hc65 => ?_)
    refine g_iload w d8_68 rfl 70 rfl ?_
    refine g_aloadN w d8_70 rfl rfl 71 rfl ?_
    refine g_getf w d8_71 0 rfl 2 rfl 24 rfl Via.refl 74 rfl (fun T w => ?_)
    refine g_icmp_ge w d8_74 121 (by decide) (by decide) 77 rfl (fun h => absurd (by decide) h) (fun hc74 => ?_)
    refine g_aloadN w d8_77 rfl rfl 78 rfl ?_
    refine g_iconst w d8_78 (2 : Int32) rfl 79 rfl ?_
    refine g_newarr w d8_79 12 rfl 2 2 (by decide) (by decide) (by decide) [(.int (0 : Int32)), (.int (0 : Int32))] rfl (by decide) (by decide) 81 rfl (fun T b6 w => ?_)
    replace w := w.to (L' := [(t, O_SmallGroups (.ref me) (.ref ki) (.int (4 : Int32)) (.ref ba) (.ref am) (.int mo) (.int (0 : Int32)) .null .null (.int ct_u2) .null .null (.long ls_u2)), (sa, .inr (.long, [(.long x0), (.long x1), (.long x2), (.long x3)])), (ba, .inr (.int, [(.int (0 : Int32)), (.int (1 : Int32)), (.int (2 : Int32)), (.int (3 : Int32))])), (me, .inr (.int, ms_u2)), (ki, .inr (.byte, ks_u2)), (am, .inr (.long, [(.long x0), (.long x1), (.long x2), (.long x3)])), (b6, .inr (.int, [(.int (0 : Int32)), (.int (0 : Int32))]))]) rfl
    refine g_dup w d8_81 rfl 82 rfl ?_
    refine g_iconst w d8_82 (0 : Int32) rfl 83 rfl ?_
    refine g_iload w d8_83 rfl 85 rfl ?_
    refine g_iastore w d8_85 6 rfl 0 (by decide) (Nat.le_of_ble_eq_true rfl) (.int (1 : Int32)) rfl 86 rfl (fun T w => ?_)
    replace w := w.to (L' := [(t, O_SmallGroups (.ref me) (.ref ki) (.int (4 : Int32)) (.ref ba) (.ref am) (.int mo) (.int (0 : Int32)) .null .null (.int ct_u2) .null .null (.long ls_u2)), (sa, .inr (.long, [(.long x0), (.long x1), (.long x2), (.long x3)])), (ba, .inr (.int, [(.int (0 : Int32)), (.int (1 : Int32)), (.int (2 : Int32)), (.int (3 : Int32))])), (me, .inr (.int, ms_u2)), (ki, .inr (.byte, ks_u2)), (am, .inr (.long, [(.long x0), (.long x1), (.long x2), (.long x3)])), (b6, .inr (.int, [(.int (1 : Int32)), (.int (0 : Int32))]))]) rfl
    refine g_dup w d8_86 rfl 87 rfl ?_
    refine g_iconst w d8_87 (1 : Int32) rfl 88 rfl ?_
    refine g_iload w d8_88 rfl 90 rfl ?_
    refine g_iastore w d8_90 6 rfl 1 (by decide) (Nat.le_of_ble_eq_true rfl) (.int (3 : Int32)) rfl 91 rfl (fun T w => ?_)
    replace w := w.to (L' := [(t, O_SmallGroups (.ref me) (.ref ki) (.int (4 : Int32)) (.ref ba) (.ref am) (.int mo) (.int (0 : Int32)) .null .null (.int ct_u2) .null .null (.long ls_u2)), (sa, .inr (.long, [(.long x0), (.long x1), (.long x2), (.long x3)])), (ba, .inr (.int, [(.int (0 : Int32)), (.int (1 : Int32)), (.int (2 : Int32)), (.int (3 : Int32))])), (me, .inr (.int, ms_u2)), (ki, .inr (.byte, ks_u2)), (am, .inr (.long, [(.long x0), (.long x1), (.long x2), (.long x3)])), (b6, .inr (.int, [(.int (1 : Int32)), (.int (3 : Int32))]))]) rfl
    refine g_iload w d8_91 rfl 93 rfl ?_
    refine g_iconst w d8_93 (1 : Int32) rfl 94 rfl ?_
    refine g_iadd w d8_94 95 rfl ?_
    refine g_int (x' := (4 : Int32)) (by decide) ?_
    refine g_aloadN w d8_95 rfl rfl 96 rfl ?_
    refine g_getf w d8_96 0 rfl 4 rfl 28 rfl Via.refl 99 rfl (fun T w => ?_)
    refine g_iload w d8_99 rfl 101 rfl ?_
    refine g_laload w d8_101 5 rfl 1 (by decide) rfl 102 rfl ?_
    refine g_lneg w d8_102 103 rfl ?_
    refine g_aloadN w d8_103 rfl rfl 104 rfl ?_
    refine g_getf w d8_104 0 rfl 4 rfl 28 rfl Via.refl 107 rfl (fun T w => ?_)
    refine g_iload w d8_107 rfl 109 rfl ?_
    refine g_laload w d8_109 5 rfl 3 (by decide) rfl 110 rfl ?_
    refine g_lsub w d8_110 111 rfl ?_
    refine g_priv w (argsL := [(.ref b6), (.int (4 : Int32)), (.long ((-x1) - x3))]) (rest := []) (rm9_t l Z a0 hw n0 t sa ba me ki am b6 x0 x1 x2 x3 mo ct_u2 ls_u2 ms_u2 ks_u2 c_u2 M [(.int (1 : Int32)), (.int (3 : Int32))] 4 ((-x1) - x3) (by decide)) d8_111 0 rfl 69 rfl 70 rfl 10 rfl 72 rfl 71 rfl 9 rfl ⟨by decide, by decide⟩ pd_2 rfl rfl rfl 0 rfl (by decide) (by decide) (by decide) (by decide) 114 rfl (fun T v L w h => ?_)
    obtain ⟨rfl, hL⟩ := h
    replace w := w.to hL
    refine g_istoreN w d8_114 115 rfl rfl #[.val (.ref t), .val (.int (4 : Int32)), .val (.int ct), .val (.int (1 : Int32)), .val (.int (1 : Int32)), .val (.int (3 : Int32))] rfl ?_
    refine g_iinc w d8_115 118 rfl rfl (by decide) #[.val (.ref t), .val (.int (4 : Int32)), .val (.int ct), .val (.int (1 : Int32)), .val (.int (1 : Int32)), .val (.int (4 : Int32))] rfl ?_
    refine g_goto w d8_118 59 (by decide) (by decide) ?_
    refine g_iloadN w d8_59 rfl 60 rfl ?_
    refine g_if_eq w d8_60 121 (by decide) (by decide) 63 rfl (fun h => absurd h (by decide)) (fun hc60 => ?_)
    refine g_iloadN w d8_63 rfl 64 rfl ?_
    refine g_iconst w d8_64 (4 : Int32) rfl 65 rfl ?_
    refine g_icmp_ne w d8_65 121 (by decide) (by decide) 68 rfl (fun h => absurd (by decide) h) (fun hc65 => ?_)
    refine g_iload w d8_68 rfl 70 rfl ?_
    refine g_aloadN w d8_70 rfl rfl 71 rfl ?_
    refine g_getf w d8_71 0 rfl 2 rfl 24 rfl Via.refl 74 rfl (fun T w => ?_)
    refine g_icmp_ge w d8_74 121 (by decide) (by decide) 77 rfl (fun hc74 => ?_) (fun h => absurd h (by decide))
    refine g_iinc w d8_121 124 rfl rfl (by decide) #[.val (.ref t), .val (.int (4 : Int32)), .val (.int ct), .val (.int (1 : Int32)), .val (.int (2 : Int32)), .val (.int (4 : Int32))] rfl ?_
    refine g_goto w d8_124 10 (by decide) (by decide) ?_
    refine g_iloadN w d8_10 rfl 11 rfl ?_
    refine g_if_eq w d8_11 127 (by decide) (by decide) 14 rfl (fun h => absurd h (by decide)) (fun hc11 => ?_)
    refine g_iload w d8_14 rfl 16 rfl ?_
    refine g_aloadN w d8_16 rfl rfl 17 rfl ?_
    refine g_getf w d8_17 0 rfl 2 rfl 24 rfl Via.refl 20 rfl (fun T w => ?_)
    refine g_icmp_ge w d8_20 127 (by decide) (by decide) 23 rfl (fun h => absurd (by decide) h) (fun hc20 => ?_)
    refine g_iloadN w d8_23 rfl 24 rfl ?_
    refine g_iconst w d8_24 (3 : Int32) rfl 25 rfl ?_
    refine g_icmp_ne w d8_25 53 (by decide) (by decide) 28 rfl (fun hc25 => ?_) (fun h => absurd h (by decide))
    refine g_iload w d8_53 rfl 55 rfl ?_
    refine g_iconst w d8_55 (1 : Int32) rfl 56 rfl ?_
    refine g_iadd w d8_56 57 rfl ?_
    refine g_int (x' := (3 : Int32)) (by decide) ?_
    refine g_istore w d8_57 59 rfl rfl #[.val (.ref t), .val (.int (4 : Int32)), .val (.int ct), .val (.int (1 : Int32)), .val (.int (2 : Int32)), .val (.int (3 : Int32))] rfl ?_
    refine g_iloadN w d8_59 rfl 60 rfl ?_
    refine g_if_eq w d8_60 121 (by decide) (by decide) 63 rfl (fun h => absurd h (by decide)) (fun hc60 => ?_)
    refine g_iloadN w d8_63 rfl 64 rfl ?_
    refine g_iconst w d8_64 (4 : Int32) rfl 65 rfl ?_
    refine g_icmp_ne w d8_65 121 (by decide) (by decide) 68 rfl (fun h => absurd (by decide) h) (fun hc65 => ?_)
    refine g_iload w d8_68 rfl 70 rfl ?_
    refine g_aloadN w d8_70 rfl rfl 71 rfl ?_
    refine g_getf w d8_71 0 rfl 2 rfl 24 rfl Via.refl 74 rfl (fun T w => ?_)
    refine g_icmp_ge w d8_74 121 (by decide) (by decide) 77 rfl (fun h => absurd (by decide) h) (fun hc74 => ?_)
    refine g_aloadN w d8_77 rfl rfl 78 rfl ?_
    refine g_iconst w d8_78 (2 : Int32) rfl 79 rfl ?_
    refine g_newarr w d8_79 12 rfl 2 2 (by decide) (by decide) (by decide) [(.int (0 : Int32)), (.int (0 : Int32))] rfl (by decide) (by decide) 81 rfl (fun T b7 w => ?_)
    replace w := w.to (L' := [(t, O_SmallGroups (.ref me) (.ref ki) (.int (4 : Int32)) (.ref ba) (.ref am) (.int mo) (.int (0 : Int32)) .null .null (.int ct_u2) .null .null (.long ls_u2)), (sa, .inr (.long, [(.long x0), (.long x1), (.long x2), (.long x3)])), (ba, .inr (.int, [(.int (0 : Int32)), (.int (1 : Int32)), (.int (2 : Int32)), (.int (3 : Int32))])), (me, .inr (.int, ms_u2)), (ki, .inr (.byte, ks_u2)), (am, .inr (.long, [(.long x0), (.long x1), (.long x2), (.long x3)])), (b7, .inr (.int, [(.int (0 : Int32)), (.int (0 : Int32))]))]) rfl
    refine g_dup w d8_81 rfl 82 rfl ?_
    refine g_iconst w d8_82 (0 : Int32) rfl 83 rfl ?_
    refine g_iload w d8_83 rfl 85 rfl ?_
    refine g_iastore w d8_85 6 rfl 0 (by decide) (Nat.le_of_ble_eq_true rfl) (.int (2 : Int32)) rfl 86 rfl (fun T w => ?_)
    replace w := w.to (L' := [(t, O_SmallGroups (.ref me) (.ref ki) (.int (4 : Int32)) (.ref ba) (.ref am) (.int mo) (.int (0 : Int32)) .null .null (.int ct_u2) .null .null (.long ls_u2)), (sa, .inr (.long, [(.long x0), (.long x1), (.long x2), (.long x3)])), (ba, .inr (.int, [(.int (0 : Int32)), (.int (1 : Int32)), (.int (2 : Int32)), (.int (3 : Int32))])), (me, .inr (.int, ms_u2)), (ki, .inr (.byte, ks_u2)), (am, .inr (.long, [(.long x0), (.long x1), (.long x2), (.long x3)])), (b7, .inr (.int, [(.int (2 : Int32)), (.int (0 : Int32))]))]) rfl
    refine g_dup w d8_86 rfl 87 rfl ?_
    refine g_iconst w d8_87 (1 : Int32) rfl 88 rfl ?_
    refine g_iload w d8_88 rfl 90 rfl ?_
    refine g_iastore w d8_90 6 rfl 1 (by decide) (Nat.le_of_ble_eq_true rfl) (.int (3 : Int32)) rfl 91 rfl (fun T w => ?_)
    replace w := w.to (L' := [(t, O_SmallGroups (.ref me) (.ref ki) (.int (4 : Int32)) (.ref ba) (.ref am) (.int mo) (.int (0 : Int32)) .null .null (.int ct_u2) .null .null (.long ls_u2)), (sa, .inr (.long, [(.long x0), (.long x1), (.long x2), (.long x3)])), (ba, .inr (.int, [(.int (0 : Int32)), (.int (1 : Int32)), (.int (2 : Int32)), (.int (3 : Int32))])), (me, .inr (.int, ms_u2)), (ki, .inr (.byte, ks_u2)), (am, .inr (.long, [(.long x0), (.long x1), (.long x2), (.long x3)])), (b7, .inr (.int, [(.int (2 : Int32)), (.int (3 : Int32))]))]) rfl
    refine g_iload w d8_91 rfl 93 rfl ?_
    refine g_iconst w d8_93 (1 : Int32) rfl 94 rfl ?_
    refine g_iadd w d8_94 95 rfl ?_
    refine g_int (x' := (4 : Int32)) (by decide) ?_
    refine g_aloadN w d8_95 rfl rfl 96 rfl ?_
    refine g_getf w d8_96 0 rfl 4 rfl 28 rfl Via.refl 99 rfl (fun T w => ?_)
    refine g_iload w d8_99 rfl 101 rfl ?_
    refine g_laload w d8_101 5 rfl 2 (by decide) rfl 102 rfl ?_
    refine g_lneg w d8_102 103 rfl ?_
    refine g_aloadN w d8_103 rfl rfl 104 rfl ?_
    refine g_getf w d8_104 0 rfl 4 rfl 28 rfl Via.refl 107 rfl (fun T w => ?_)
    refine g_iload w d8_107 rfl 109 rfl ?_
    refine g_laload w d8_109 5 rfl 3 (by decide) rfl 110 rfl ?_
    refine g_lsub w d8_110 111 rfl ?_
    refine g_priv w (argsL := [(.ref b7), (.int (4 : Int32)), (.long ((-x2) - x3))]) (rest := []) (rm9_t l Z a0 hw n0 t sa ba me ki am b7 x0 x1 x2 x3 mo ct_u2 ls_u2 ms_u2 ks_u2 c_u2 M [(.int (2 : Int32)), (.int (3 : Int32))] 4 ((-x2) - x3) (by decide)) d8_111 0 rfl 69 rfl 70 rfl 10 rfl 72 rfl 71 rfl 9 rfl ⟨by decide, by decide⟩ pd_2 rfl rfl rfl 0 rfl (by decide) (by decide) (by decide) (by decide) 114 rfl (fun T v L w h => ?_)
    obtain ⟨rfl, hL⟩ := h
    replace w := w.to hL
    refine g_istoreN w d8_114 115 rfl rfl #[.val (.ref t), .val (.int (4 : Int32)), .val (.int ct), .val (.int (1 : Int32)), .val (.int (2 : Int32)), .val (.int (3 : Int32))] rfl ?_
    refine g_iinc w d8_115 118 rfl rfl (by decide) #[.val (.ref t), .val (.int (4 : Int32)), .val (.int ct), .val (.int (1 : Int32)), .val (.int (2 : Int32)), .val (.int (4 : Int32))] rfl ?_
    refine g_goto w d8_118 59 (by decide) (by decide) ?_
    refine g_iloadN w d8_59 rfl 60 rfl ?_
    refine g_if_eq w d8_60 121 (by decide) (by decide) 63 rfl (fun h => absurd h (by decide)) (fun hc60 => ?_)
    refine g_iloadN w d8_63 rfl 64 rfl ?_
    refine g_iconst w d8_64 (4 : Int32) rfl 65 rfl ?_
    refine g_icmp_ne w d8_65 121 (by decide) (by decide) 68 rfl (fun h => absurd (by decide) h) (fun hc65 => ?_)
    refine g_iload w d8_68 rfl 70 rfl ?_
    refine g_aloadN w d8_70 rfl rfl 71 rfl ?_
    refine g_getf w d8_71 0 rfl 2 rfl 24 rfl Via.refl 74 rfl (fun T w => ?_)
    refine g_icmp_ge w d8_74 121 (by decide) (by decide) 77 rfl (fun hc74 => ?_) (fun h => absurd h (by decide))
    refine g_iinc w d8_121 124 rfl rfl (by decide) #[.val (.ref t), .val (.int (4 : Int32)), .val (.int ct), .val (.int (1 : Int32)), .val (.int (3 : Int32)), .val (.int (4 : Int32))] rfl ?_
    refine g_goto w d8_124 10 (by decide) (by decide) ?_
    refine g_iloadN w d8_10 rfl 11 rfl ?_
    refine g_if_eq w d8_11 127 (by decide) (by decide) 14 rfl (fun h => absurd h (by decide)) (fun hc11 => ?_)
    refine g_iload w d8_14 rfl 16 rfl ?_
    refine g_aloadN w d8_16 rfl rfl 17 rfl ?_
    refine g_getf w d8_17 0 rfl 2 rfl 24 rfl Via.refl 20 rfl (fun T w => ?_)
    refine g_icmp_ge w d8_20 127 (by decide) (by decide) 23 rfl (fun h => absurd (by decide) h) (fun hc20 => ?_)
    refine g_iloadN w d8_23 rfl 24 rfl ?_
    refine g_iconst w d8_24 (3 : Int32) rfl 25 rfl ?_
    refine g_icmp_ne w d8_25 53 (by decide) (by decide) 28 rfl (fun hc25 => ?_) (fun h => absurd h (by decide))
    refine g_iload w d8_53 rfl 55 rfl ?_
    refine g_iconst w d8_55 (1 : Int32) rfl 56 rfl ?_
    refine g_iadd w d8_56 57 rfl ?_
    refine g_int (x' := (4 : Int32)) (by decide) ?_
    refine g_istore w d8_57 59 rfl rfl #[.val (.ref t), .val (.int (4 : Int32)), .val (.int ct), .val (.int (1 : Int32)), .val (.int (3 : Int32)), .val (.int (4 : Int32))] rfl ?_
    refine g_iloadN w d8_59 rfl 60 rfl ?_
    refine g_if_eq w d8_60 121 (by decide) (by decide) 63 rfl (fun h => absurd h (by decide)) (fun hc60 => ?_)
    refine g_iloadN w d8_63 rfl 64 rfl ?_
    refine g_iconst w d8_64 (4 : Int32) rfl 65 rfl ?_
    refine g_icmp_ne w d8_65 121 (by decide) (by decide) 68 rfl (fun h => absurd (by decide) h) (fun hc65 => ?_)
    refine g_iload w d8_68 rfl 70 rfl ?_
    refine g_aloadN w d8_70 rfl rfl 71 rfl ?_
    refine g_getf w d8_71 0 rfl 2 rfl 24 rfl Via.refl 74 rfl (fun T w => ?_)
    refine g_icmp_ge w d8_74 121 (by decide) (by decide) 77 rfl (fun hc74 => ?_) (fun h => absurd h (by decide))
    refine g_iinc w d8_121 124 rfl rfl (by decide) #[.val (.ref t), .val (.int (4 : Int32)), .val (.int ct), .val (.int (1 : Int32)), .val (.int (4 : Int32)), .val (.int (4 : Int32))] rfl ?_
    refine g_goto w d8_124 10 (by decide) (by decide) ?_
    refine g_iloadN w d8_10 rfl 11 rfl ?_
    refine g_if_eq w d8_11 127 (by decide) (by decide) 14 rfl (fun h => absurd h (by decide)) (fun hc11 => ?_)
    refine g_iload w d8_14 rfl 16 rfl ?_
    refine g_aloadN w d8_16 rfl rfl 17 rfl ?_
    refine g_getf w d8_17 0 rfl 2 rfl 24 rfl Via.refl 20 rfl (fun T w => ?_)
    refine g_icmp_ge w d8_20 127 (by decide) (by decide) 23 rfl (fun hc20 => ?_) (fun h => absurd h (by decide))
    refine g_aloadN w d8_127 rfl rfl 128 rfl ?_
    refine g_iloadN w d8_128 rfl 129 rfl ?_
    refine g_if_eq w d8_129 139 (by decide) (by decide) 132 rfl (fun h => absurd h (by decide)) (fun hc129 => ?_)
    refine g_aloadN w d8_132 rfl rfl 133 rfl ?_
    refine g_getf w d8_133 0 rfl 9 rfl 39 rfl Via.refl 136 rfl (fun T w => ?_)
    refine g_goto w d8_136 140 (by decide) (by decide) ?_
    refine g_putf w d8_140 0 rfl 9 rfl 39 rfl Via.refl 40 (Or.inl rfl) 9 rfl (ty := .int) (by decide) rfl rfl 143 rfl (fun T w => ?_)
    replace w := w.to (L' := [(t, O_SmallGroups (.ref me) (.ref ki) (.int (4 : Int32)) (.ref ba) (.ref am) (.int mo) (.int (0 : Int32)) .null .null (.int ct_u2) .null .null (.long ls_u2)), (sa, .inr (.long, [(.long x0), (.long x1), (.long x2), (.long x3)])), (ba, .inr (.int, [(.int (0 : Int32)), (.int (1 : Int32)), (.int (2 : Int32)), (.int (3 : Int32))])), (me, .inr (.int, ms_u2)), (ki, .inr (.byte, ks_u2)), (am, .inr (.long, [(.long x0), (.long x1), (.long x2), (.long x3)]))]) rfl
    refine g_iloadN w d8_143 rfl 144 rfl ?_
    exact g_iretn w (by simp) d8_144 (by decide) (by decide) ⟨1, ct_u2, c_u2, ms_u2, ks_u2, ls_u2, rfl, hct_u2, hG_u2, hcM_u2, rfl, Or.inl ⟨rfl, by omega⟩⟩
  · -- pc 114 room 0
    refine g_istoreN w d8_114 115 rfl rfl #[.val (.ref t), .val (.int (4 : Int32)), .val (.int ct), .val (.int (0 : Int32)), .val (.int (0 : Int32)), .val (.int (1 : Int32))] rfl ?_
    refine g_iinc w d8_115 118 rfl rfl (by decide) #[.val (.ref t), .val (.int (4 : Int32)), .val (.int ct), .val (.int (0 : Int32)), .val (.int (0 : Int32)), .val (.int (2 : Int32))] rfl ?_
    refine g_goto w d8_118 59 (by decide) (by decide) ?_
    refine g_iloadN w d8_59 rfl 60 rfl ?_
    refine g_if_eq w d8_60 121 (by decide) (by decide) 63 rfl (fun hc60 => ?_) (fun h => absurd (by decide) h)
    refine g_iinc w d8_121 124 rfl rfl (by decide) #[.val (.ref t), .val (.int (4 : Int32)), .val (.int ct), .val (.int (0 : Int32)), .val (.int (1 : Int32)), .val (.int (2 : Int32))] rfl ?_
    refine g_goto w d8_124 10 (by decide) (by decide) ?_
    refine g_iloadN w d8_10 rfl 11 rfl ?_
    refine g_if_eq w d8_11 127 (by decide) (by decide) 14 rfl (fun hc11 => ?_) (fun h => absurd (by decide) h)
    refine g_aloadN w d8_127 rfl rfl 128 rfl ?_
    refine g_iloadN w d8_128 rfl 129 rfl ?_
    refine g_if_eq w d8_129 139 (by decide) (by decide) 132 rfl (fun hc129 => ?_) (fun h => absurd (by decide) h)
    refine g_iloadN w d8_139 rfl 140 rfl ?_
    refine g_putf w d8_140 0 rfl 9 rfl 39 rfl Via.refl 40 (Or.inl rfl) 9 rfl (ty := .int) (by decide) rfl rfl 143 rfl (fun T w => ?_)
    replace w := w.to (L' := [(t, O_SmallGroups (.ref me) (.ref ki) (.int (4 : Int32)) (.ref ba) (.ref am) (.int mo) (.int (0 : Int32)) .null .null (.int ct) .null .null (.long ls_u2)), (sa, .inr (.long, [(.long x0), (.long x1), (.long x2), (.long x3)])), (ba, .inr (.int, [(.int (0 : Int32)), (.int (1 : Int32)), (.int (2 : Int32)), (.int (3 : Int32))])), (me, .inr (.int, ms_u2)), (ki, .inr (.byte, ks_u2)), (am, .inr (.long, [(.long x0), (.long x1), (.long x2), (.long x3)]))]) rfl
    refine g_iloadN w d8_143 rfl 144 rfl ?_
    exact g_iretn w (by simp) d8_144 (by decide) (by decide) ⟨0, ct, c, ms_u2, ks_u2, ls_u2, rfl, hct, own_G_le hG_u2 (by omega), hcM, rfl, Or.inr ⟨rfl, rfl, by omega⟩⟩
theorem d13_0 : decode prog_29_method_13_code 0 = .ok (.aload_n 0, 1) := by decide +kernel
theorem d13_1 : decode prog_29_method_13_code 1 = .ok (.getfield 7, 3) := by decide +kernel
theorem d13_4 : decode prog_29_method_13_code 4 = .ok (.iconst 4, 1) := by decide +kernel
theorem d13_5 : decode prog_29_method_13_code 5 = .ok (.iload_n 1, 1) := by decide +kernel
theorem d13_6 : decode prog_29_method_13_code 6 = .ok (.imul, 1) := by decide +kernel
theorem d13_7 : decode prog_29_method_13_code 7 = .ok (.iconst 3, 1) := by decide +kernel
theorem d13_8 : decode prog_29_method_13_code 8 = .ok (.iadd, 1) := by decide +kernel
theorem d13_9 : decode prog_29_method_13_code 9 = .ok (.iaload, 1) := by decide +kernel
theorem d13_10 : decode prog_29_method_13_code 10 = .ok (.ifCond .ge 7, 3) := by decide +kernel
theorem d13_13 : decode prog_29_method_13_code 13 = .ok (.iconst 3, 1) := by decide +kernel
theorem d13_14 : decode prog_29_method_13_code 14 = .ok (.goto 4, 3) := by decide +kernel
theorem d13_17 : decode prog_29_method_13_code 17 = .ok (.iconst 4, 1) := by decide +kernel
theorem d13_18 : decode prog_29_method_13_code 18 = .ok (.ireturn, 1) := by decide +kernel
theorem pn_13 : plainFor (⟨"com/example/cangdan/cangdan/fewest/SmallGroups", "size", "(I)I"⟩ : MethodName) = true := plainFor_of_name (by first | (simp [plainName, overriddenIn]; done) | decide +kernel)
set_option maxRecDepth 65536 in
set_option maxHeartbeats 40000000 in
theorem rm13 (l : Launch) (Z : State) (a0 : Array Value) (hw : ∀ d ∈ tables_1, d.before a0 Z = true) (n0 : Nat) (t me : Addr) (ms : List Value) (f1 f2 f3 f4 f5 f6 f7 f8 f9 f10 f11 f12 : Value) (L : HL) (it im g : Nat) (gi zv : Int32) (ht : L[it]? = some (t, O_SmallGroups (.ref me) f1 f2 f3 f4 f5 f6 f7 f8 f9 f10 f11 f12)) (hm : L[im]? = some (me, .inr (.int, ms))) (hgi : gi.toInt = (g : Int)) (hg : g < 100) (hv : ms[4 * g + 3]? = some (.int zv)) :
    Con l (⟨"com/example/cangdan/cangdan/fewest/SmallGroups", "size", "(I)I"⟩ : MethodName) prog_29_method_13_code 2 (some .int) ({ frames := 0, cells := 0, slots := 0, locals := 0 } : Room) Z n0 #[(.ref t), (.int gi)] L (fun v L' => v = some (.int (own_szf zv)) ∧ L' = L) := by
  refine Con.of (ws := tables_1) (a0 := a0) pn_13 hw ?_
  intro p e s m below meth cde T kb w
  refine g_entry #[.val (.ref t), .val (.int gi)] (by first | (simp [entryFrame, mkF, argsToLocals, Value.category]; done) | rfl) ?_
  refine g_aloadN w d13_0 rfl rfl 1 rfl ?_
  refine g_getf w d13_1 it ht 0 rfl 19 rfl Via.refl 4 rfl (fun T w => ?_)
  refine g_iconst w d13_4 (4 : Int32) rfl 5 rfl ?_
  refine g_iloadN w d13_5 rfl 6 rfl ?_
  refine g_imul w d13_6 7 rfl ?_
  refine g_iconst w d13_7 (3 : Int32) rfl 8 rfl ?_
  refine g_iadd w d13_8 9 rfl ?_
  refine g_iaload w d13_9 im hm (4 * g + 3) (own_add3 (own_mul4 hgi (by omega)) (by omega)) hv 10 rfl ?_
  refine g_if_ge w d13_10 17 (by decide) (by decide) 13 rfl (fun hc10 => ?_) (fun hc10 => ?_)
  · -- pc 17 (taken: not zv < (0 : Int32))
    refine g_iconst w d13_17 (4 : Int32) rfl 18 rfl ?_
    exact g_ireti w d13_18 (by decide) (by decide) ⟨congrArg (fun z => some (Value.int z)) (by unfold own_szf; rw [if_neg hc10]), rfl⟩
  · -- pc 13 (on: zv < (0 : Int32))
    refine g_iconst w d13_13 (3 : Int32) rfl 14 rfl ?_
    refine g_goto w d13_14 18 (by decide) (by decide) ?_
    exact g_ireti w d13_18 (by decide) (by decide) ⟨congrArg (fun z => some (Value.int z)) (by unfold own_szf; rw [if_pos hc10]), rfl⟩
theorem d6_0 : decode jdk_29_method_69_code 0 = .ok (.iload_n 0, 1) := by decide +kernel
theorem d6_1 : decode jdk_29_method_69_code 1 = .ok (.iload_n 1, 1) := by decide +kernel
theorem d6_2 : decode jdk_29_method_69_code 2 = .ok (.if_icmp .gt 7, 3) := by decide +kernel
theorem d6_5 : decode jdk_29_method_69_code 5 = .ok (.iload_n 0, 1) := by decide +kernel
theorem d6_6 : decode jdk_29_method_69_code 6 = .ok (.goto 4, 3) := by decide +kernel
theorem d6_9 : decode jdk_29_method_69_code 9 = .ok (.iload_n 1, 1) := by decide +kernel
theorem d6_10 : decode jdk_29_method_69_code 10 = .ok (.ireturn, 1) := by decide +kernel
theorem pn_6 : plainFor (⟨"java/lang/Math", "min", "(II)I"⟩ : MethodName) = true := Jvm.Free.JP.mathPlain rfl (by decide +kernel)
set_option maxRecDepth 65536 in
set_option maxHeartbeats 40000000 in
theorem rm6 (l : Launch) (Z : State) (a0 : Array Value) (hw : ∀ d ∈ tables_1, d.before a0 Z = true) (n0 : Nat) (L : HL)  :
    Con l (⟨"java/lang/Math", "min", "(II)I"⟩ : MethodName) jdk_29_method_69_code 2 (some .int) ({ frames := 0, cells := 0, slots := 0, locals := 0 } : Room) Z n0 #[(.int (5 : Int32)), (.int (4 : Int32))] L (fun v L' => v = some (.int 4) ∧ L' = L) := by
  refine Con.of (ws := tables_1) (a0 := a0) pn_6 hw ?_
  intro p e s m below meth cde T kb w
  refine g_entry #[.val (.int (5 : Int32)), .val (.int (4 : Int32))] (by first | (simp [entryFrame, mkF, argsToLocals, Value.category]; done) | rfl) ?_
  refine g_iloadN w d6_0 rfl 1 rfl ?_
  refine g_iloadN w d6_1 rfl 2 rfl ?_
  refine g_icmp_gt w d6_2 9 (by decide) (by decide) 5 rfl (fun hc2 => ?_) (fun h => absurd (by decide) h)
  refine g_iloadN w d6_9 rfl 10 rfl ?_
  exact g_ireti w d6_10 (by decide) (by decide) ⟨rfl, rfl⟩
theorem d5_0 : decode jdk_65_method_123_code 0 = .ok (.iload_n 1, 1) := by decide +kernel
theorem d5_1 : decode jdk_65_method_123_code 1 = .ok (.aload_n 0, 1) := by decide +kernel
theorem d5_2 : decode jdk_65_method_123_code 2 = .ok (.arraylength, 1) := by decide +kernel
theorem d5_3 : decode jdk_65_method_123_code 3 = .ok (.if_icmp .ne 11, 3) := by decide +kernel
theorem d5_6 : decode jdk_65_method_123_code 6 = .ok (.aload_n 0, 1) := by decide +kernel
theorem d5_7 : decode jdk_65_method_123_code 7 = .ok (.invokevirtual 316, 3) := by decide +kernel
theorem d5_10 : decode jdk_65_method_123_code 10 = .ok (.checkcast 317, 3) := by decide +kernel
theorem d5_13 : decode jdk_65_method_123_code 13 = .ok (.areturn, 1) := by decide +kernel
theorem d5_14 : decode jdk_65_method_123_code 14 = .ok (.iload_n 1, 1) := by decide +kernel
theorem d5_15 : decode jdk_65_method_123_code 15 = .ok (.newarray .int, 2) := by decide +kernel
theorem d5_17 : decode jdk_65_method_123_code 17 = .ok (.astore_n 2, 1) := by decide +kernel
theorem d5_18 : decode jdk_65_method_123_code 18 = .ok (.aload_n 0, 1) := by decide +kernel
theorem d5_19 : decode jdk_65_method_123_code 19 = .ok (.iconst 0, 1) := by decide +kernel
theorem d5_20 : decode jdk_65_method_123_code 20 = .ok (.aload_n 2, 1) := by decide +kernel
theorem d5_21 : decode jdk_65_method_123_code 21 = .ok (.iconst 0, 1) := by decide +kernel
theorem d5_22 : decode jdk_65_method_123_code 22 = .ok (.aload_n 0, 1) := by decide +kernel
theorem d5_23 : decode jdk_65_method_123_code 23 = .ok (.arraylength, 1) := by decide +kernel
theorem d5_24 : decode jdk_65_method_123_code 24 = .ok (.iload_n 1, 1) := by decide +kernel
theorem d5_25 : decode jdk_65_method_123_code 25 = .ok (.invokestatic 304, 3) := by decide +kernel
theorem d5_28 : decode jdk_65_method_123_code 28 = .ok (.invokestatic 150, 3) := by decide +kernel
theorem d5_31 : decode jdk_65_method_123_code 31 = .ok (.aload_n 2, 1) := by decide +kernel
theorem d5_32 : decode jdk_65_method_123_code 32 = .ok (.areturn, 1) := by decide +kernel
theorem pn_5 : plainFor (⟨"java/util/Arrays", "copyOf", "([II)[I"⟩ : MethodName) = true := plainFor_of_name (by first | (simp [plainName, overriddenIn]; done) | decide +kernel)
set_option maxRecDepth 65536 in
set_option maxHeartbeats 40000000 in
theorem rm5 (l : Launch) (Z : State) (a0 : Array Value) (hw : ∀ d ∈ tables_1, d.before a0 Z = true) (n0 : Nat) (L0 : HL) (sr : Addr) (is : Nat) (u0 u1 u2 u3 u4 : Int32) (hs : L0[is]? = some (sr, .inr (.int, [(.int u0), (.int u1), (.int u2), (.int u3), (.int u4)]))) :
    Con l (⟨"java/util/Arrays", "copyOf", "([II)[I"⟩ : MethodName) jdk_65_method_123_code 3 (some (.array .int)) ({ frames := 1, cells := 1, slots := 4, locals := 18 } : Room) Z n0 #[(.ref sr), (.int (4 : Int32))] L0 (fun v L' => ∃ nb : Addr, v = some (.ref nb) ∧ L' = L0 ++ [(nb, .inr (.int, [(.int u0), (.int u1), (.int u2), (.int u3)]))]) := by
  refine Con.of (ws := tables_1) (a0 := a0) pn_5 hw ?_
  intro p e s m below meth cde T kb w
  refine g_entry #[.val (.ref sr), .val (.int (4 : Int32)), .unset] (by first | (simp [entryFrame, mkF, argsToLocals, Value.category]; done) | rfl) ?_
  refine g_iloadN w d5_0 rfl 1 rfl ?_
  refine g_aloadN w d5_1 rfl rfl 2 rfl ?_
  refine g_alen w d5_2 is hs (5 : Int32) rfl 3 rfl ?_
  refine g_icmp_ne w d5_3 14 (by decide) (by decide) 6 rfl (fun hc3 => ?_) (fun h => absurd h (by decide))
  refine g_iloadN w d5_14 rfl 15 rfl ?_
  refine g_newarr w d5_15 12 rfl 4 4 (by decide) (by decide) (by decide) [(.int (0 : Int32)), (.int (0 : Int32)), (.int (0 : Int32)), (.int (0 : Int32))] rfl (by decide) (by decide) 17 rfl (fun T nb w => ?_)
  replace w := w.to (L' := (L0 ++ [(nb, .inr (.int, [(.int (0 : Int32)), (.int (0 : Int32)), (.int (0 : Int32)), (.int (0 : Int32))]))])) rfl
  refine g_astoreN w d5_17 18 rfl rfl #[.val (.ref sr), .val (.int (4 : Int32)), .val (.ref nb)] rfl ?_
  refine g_aloadN w d5_18 rfl rfl 19 rfl ?_
  refine g_iconst w d5_19 (0 : Int32) rfl 20 rfl ?_
  refine g_aloadN w d5_20 rfl rfl 21 rfl ?_
  refine g_iconst w d5_21 (0 : Int32) rfl 22 rfl ?_
  refine g_aloadN w d5_22 rfl rfl 23 rfl ?_
  refine g_alen w d5_23 is (own_left hs) (5 : Int32) rfl 24 rfl ?_
  refine g_iloadN w d5_24 rfl 25 rfl ?_
  refine g_static w (argsL := [(.int (5 : Int32)), (.int (4 : Int32))]) (rest := [(.int (0 : Int32)), (.ref nb), (.int (0 : Int32)), (.ref sr)]) (rm6 l Z a0 hw n0 (L0 ++ [(nb, .inr (.int, [(.int (0 : Int32)), (.int (0 : Int32)), (.int (0 : Int32)), (.int (0 : Int32))]))])) d5_25 47 rfl 48 rfl 49 rfl 50 rfl ⟨by decide, by decide⟩ pd_0 rfl rfl rfl 4 rfl (by decide) (by decide) (by decide) (by decide) 28 rfl (fun T v L w h => ?_)
  obtain ⟨rfl, hL⟩ := h
  replace w := w.to hL
  refine g_acopy w d5_28 is (own_left hs) L0.length own_right 51 rfl 54 rfl 52 rfl 53 rfl rfl 4 rfl (Nat.le_of_ble_eq_true rfl) (Nat.le_of_ble_eq_true rfl) (by simp [fits]) (by simp [fits]) rfl (by decide) 0 rfl (by decide) [(.int u0), (.int u1), (.int u2), (.int u3)] rfl 31 rfl (fun T w => ?_)
  replace w := w.to (L' := (L0 ++ [(nb, .inr (.int, [(.int u0), (.int u1), (.int u2), (.int u3)]))])) own_rset
  refine g_aloadN w d5_31 rfl rfl 32 rfl ?_
  exact g_aret w d5_32 rfl rfl rfl (by decide) (by decide) ⟨nb, rfl, rfl⟩
theorem d10_0 : decode prog_29_method_2_code 0 = .ok (.iload_n 0, 1) := by decide +kernel
theorem d10_1 : decode prog_29_method_2_code 1 = .ok (.i2l, 1) := by decide +kernel
theorem d10_2 : decode prog_29_method_2_code 2 = .ok (.iload_n 0, 1) := by decide +kernel
theorem d10_3 : decode prog_29_method_2_code 3 = .ok (.i2l, 1) := by decide +kernel
theorem d10_4 : decode prog_29_method_2_code 4 = .ok (.lmul, 1) := by decide +kernel
theorem d10_5 : decode prog_29_method_2_code 5 = .ok (.iload_n 0, 1) := by decide +kernel
theorem d10_6 : decode prog_29_method_2_code 6 = .ok (.i2l, 1) := by decide +kernel
theorem d10_7 : decode prog_29_method_2_code 7 = .ok (.lmul, 1) := by decide +kernel
theorem d10_8 : decode prog_29_method_2_code 8 = .ok (.ldc2_w 73, 3) := by decide +kernel
theorem d10_11 : decode prog_29_method_2_code 11 = .ok (.ldiv, 1) := by decide +kernel
theorem d10_12 : decode prog_29_method_2_code 12 = .ok (.lreturn, 1) := by decide +kernel
theorem pn_10 : plainFor (⟨"com/example/cangdan/cangdan/fewest/SmallGroups", "foursListing", "(I)J"⟩ : MethodName) = true := plainFor_of_name (by first | (simp [plainName, overriddenIn]; done) | decide +kernel)
set_option maxRecDepth 65536 in
set_option maxHeartbeats 40000000 in
theorem rm10 (l : Launch) (Z : State) (a0 : Array Value) (hw : ∀ d ∈ tables_1, d.before a0 Z = true) (n0 : Nat) (L : HL)  :
    Con l (⟨"com/example/cangdan/cangdan/fewest/SmallGroups", "foursListing", "(I)J"⟩ : MethodName) prog_29_method_2_code 1 (some .long) ({ frames := 0, cells := 0, slots := 0, locals := 0 } : Room) Z n0 #[(.int (4 : Int32))] L (fun v L' => v = some (.long 10) ∧ L' = L) := by
  refine Con.of (ws := tables_1) (a0 := a0) pn_10 hw ?_
  intro p e s m below meth cde T kb w
  refine g_entry #[.val (.int (4 : Int32))] (by first | (simp [entryFrame, mkF, argsToLocals, Value.category]; done) | rfl) ?_
  refine g_iloadN w d10_0 rfl 1 rfl ?_
  refine g_i2l w d10_1 2 rfl ?_
  refine g_long (x' := (4 : Int64)) (by decide) ?_
  refine g_iloadN w d10_2 rfl 3 rfl ?_
  refine g_i2l w d10_3 4 rfl ?_
  refine g_long (x' := (4 : Int64)) (by decide) ?_
  refine g_lmul w d10_4 5 rfl ?_
  refine g_long (x' := (16 : Int64)) (by decide) ?_
  refine g_iloadN w d10_5 rfl 6 rfl ?_
  refine g_i2l w d10_6 7 rfl ?_
  refine g_long (x' := (4 : Int64)) (by decide) ?_
  refine g_lmul w d10_7 8 rfl ?_
  refine g_long (x' := (64 : Int64)) (by decide) ?_
  refine g_ldcl w d10_8 76 rfl 11 rfl ?_
  refine g_ldiv w d10_11 (by decide) 12 rfl ?_
  refine g_long (x' := (10 : Int64)) (by decide) ?_
  exact g_lret w d10_12 (by decide) (by decide) ⟨rfl, rfl⟩
theorem d7_0 : decode prog_29_method_7_code 0 = .ok (.iload_n 1, 1) := by decide +kernel
theorem d7_1 : decode prog_29_method_7_code 1 = .ok (.aload_n 0, 1) := by decide +kernel
theorem d7_2 : decode prog_29_method_7_code 2 = .ok (.getfield 41, 3) := by decide +kernel
theorem d7_5 : decode prog_29_method_7_code 5 = .ok (.if_icmp .gt 7, 3) := by decide +kernel
theorem d7_8 : decode prog_29_method_7_code 8 = .ok (.iconst 1, 1) := by decide +kernel
theorem d7_9 : decode prog_29_method_7_code 9 = .ok (.goto 4, 3) := by decide +kernel
theorem d7_12 : decode prog_29_method_7_code 12 = .ok (.iconst 0, 1) := by decide +kernel
theorem d7_13 : decode prog_29_method_7_code 13 = .ok (.ireturn, 1) := by decide +kernel
theorem pn_7 : plainFor (⟨"com/example/cangdan/cangdan/fewest/SmallGroups", "lists", "(I)Z"⟩ : MethodName) = true := plainFor_of_name (by first | (simp [plainName, overriddenIn]; done) | decide +kernel)
set_option maxRecDepth 65536 in
set_option maxHeartbeats 40000000 in
theorem rm7 (l : Launch) (Z : State) (a0 : Array Value) (hw : ∀ d ∈ tables_1, d.before a0 Z = true) (n0 : Nat) (t : Addr) (f0 f1 f2 f3 f4 f5 f7 f8 f9 f10 f11 f12 : Value) (up si : Int32) (L : HL) (it : Nat) (ht : L[it]? = some (t, O_SmallGroups f0 f1 f2 f3 f4 f5 (.int up) f7 f8 f9 f10 f11 f12)) :
    Con l (⟨"com/example/cangdan/cangdan/fewest/SmallGroups", "lists", "(I)Z"⟩ : MethodName) prog_29_method_7_code 2 (some .boolean) ({ frames := 0, cells := 0, slots := 0, locals := 0 } : Room) Z n0 #[(.ref t), (.int si)] L (fun v L' => v = some (.int (own_le si up)) ∧ L' = L) := by
  refine Con.of (ws := tables_1) (a0 := a0) pn_7 hw ?_
  intro p e s m below meth cde T kb w
  refine g_entry #[.val (.ref t), .val (.int si)] (by first | (simp [entryFrame, mkF, argsToLocals, Value.category]; done) | rfl) ?_
  refine g_iloadN w d7_0 rfl 1 rfl ?_
  refine g_aloadN w d7_1 rfl rfl 2 rfl ?_
  refine g_getf w d7_2 it ht 6 rfl 33 rfl Via.refl 5 rfl (fun T w => ?_)
  refine g_icmp_gt w d7_5 12 (by decide) (by decide) 8 rfl (fun hc5 => ?_) (fun hc5 => ?_)
  · -- pc 12 (taken: up < si)
    refine g_iconst w d7_12 (0 : Int32) rfl 13 rfl ?_
    exact g_iretn w (by simp) d7_13 (by decide) (by decide) ⟨congrArg (fun z => some (Value.int z)) (by unfold own_le; rw [if_pos hc5]; rfl), rfl⟩
  · -- pc 8 (on: not up < si)
    refine g_iconst w d7_8 (1 : Int32) rfl 9 rfl ?_
    refine g_goto w d7_9 13 (by decide) (by decide) ?_
    exact g_iretn w (by simp) d7_13 (by decide) (by decide) ⟨congrArg (fun z => some (Value.int z)) (by unfold own_le; rw [if_neg hc5]; rfl), rfl⟩
theorem d1_0 : decode method_2_code 0 = .ok (.lload_n 0, 1) := by decide +kernel
theorem d1_1 : decode method_2_code 1 = .ok (.lconst 0, 1) := by decide +kernel
theorem d1_2 : decode method_2_code 2 = .ok (.lcmp, 1) := by decide +kernel
theorem d1_3 : decode method_2_code 3 = .ok (.ifCond .ge 7, 3) := by decide +kernel
theorem d1_6 : decode method_2_code 6 = .ok (.lload_n 0, 1) := by decide +kernel
theorem d1_7 : decode method_2_code 7 = .ok (.goto 6, 3) := by decide +kernel
theorem d1_10 : decode method_2_code 10 = .ok (.lload_n 0, 1) := by decide +kernel
theorem d1_11 : decode method_2_code 11 = .ok (.lconst 1, 1) := by decide +kernel
theorem d1_12 : decode method_2_code 12 = .ok (.ladd, 1) := by decide +kernel
theorem d1_13 : decode method_2_code 13 = .ok (.lreturn, 1) := by decide +kernel
theorem pn_1 : plainFor (⟨"com/example/cangdan/cangdan/fewest/SmallGroupsListsPinLaw", "nz", "(J)J"⟩ : MethodName) = true := plainFor_of_name (by first | (simp [plainName, overriddenIn]; done) | decide +kernel)
set_option maxRecDepth 65536 in
set_option maxHeartbeats 40000000 in
theorem rm1 (l : Launch) (Z : State) (a0 : Array Value) (hw : ∀ d ∈ tables_1, d.before a0 Z = true) (n0 : Nat) (a : Int64) (L : HL)  :
    Con l (⟨"com/example/cangdan/cangdan/fewest/SmallGroupsListsPinLaw", "nz", "(J)J"⟩ : MethodName) method_2_code 2 (some .long) ({ frames := 0, cells := 0, slots := 0, locals := 0 } : Room) Z n0 #[(.long a)] L (fun v L' => v = some (.long (own_nzf a)) ∧ L' = L) := by
  refine Con.of (ws := tables_1) (a0 := a0) pn_1 hw ?_
  intro p e s m below meth cde T kb w
  refine g_entry #[.val (.long a), .second] (by first | (simp [entryFrame, mkF, argsToLocals, Value.category]; done) | rfl) ?_
  refine g_lloadN w d1_0 rfl 1 rfl ?_
  refine g_lconst w d1_1 (0 : Int64) rfl 2 rfl ?_
  refine g_lcmp w d1_2 3 rfl ?_
  refine g_lif_ge w d1_3 10 (by decide) (by decide) 6 rfl (fun hc3 => ?_) (fun hc3 => ?_)
  · -- pc 10 (taken: not a < (0 : Int64))
    refine g_lloadN w d1_10 rfl 11 rfl ?_
    refine g_lconst w d1_11 (1 : Int64) rfl 12 rfl ?_
    refine g_ladd w d1_12 13 rfl ?_
    exact g_lret w d1_13 (by decide) (by decide) ⟨congrArg (fun z => some (Value.long z)) (by unfold own_nzf; rw [if_neg hc3]), rfl⟩
  · -- pc 6 (on: a < (0 : Int64))
    refine g_lloadN w d1_6 rfl 7 rfl ?_
    refine g_goto w d1_7 13 (by decide) (by decide) ?_
    exact g_lret w d1_13 (by decide) (by decide) ⟨congrArg (fun z => some (Value.long z)) (by unfold own_nzf; rw [if_pos hc3]), rfl⟩
theorem d2_0 : decode method_3_code 0 = .ok (.lload_n 0, 1) := by decide +kernel
theorem d2_1 : decode method_3_code 1 = .ok (.lconst 0, 1) := by decide +kernel
theorem d2_2 : decode method_3_code 2 = .ok (.lcmp, 1) := by decide +kernel
theorem d2_3 : decode method_3_code 3 = .ok (.ifCond .ne 7, 3) := by decide +kernel
theorem d2_6 : decode method_3_code 6 = .ok (.iconst 1, 1) := by decide +kernel
theorem d2_7 : decode method_3_code 7 = .ok (.goto 4, 3) := by decide +kernel
theorem d2_10 : decode method_3_code 10 = .ok (.iconst 0, 1) := by decide +kernel
theorem d2_11 : decode method_3_code 11 = .ok (.ireturn, 1) := by decide +kernel
theorem pn_2 : plainFor (⟨"com/example/cangdan/cangdan/fewest/SmallGroupsListsPinLaw", "z", "(J)I"⟩ : MethodName) = true := plainFor_of_name (by first | (simp [plainName, overriddenIn]; done) | decide +kernel)
set_option maxRecDepth 65536 in
set_option maxHeartbeats 40000000 in
theorem rm2 (l : Launch) (Z : State) (a0 : Array Value) (hw : ∀ d ∈ tables_1, d.before a0 Z = true) (n0 : Nat) (a : Int64) (L : HL)  :
    Con l (⟨"com/example/cangdan/cangdan/fewest/SmallGroupsListsPinLaw", "z", "(J)I"⟩ : MethodName) method_3_code 2 (some .int) ({ frames := 0, cells := 0, slots := 0, locals := 0 } : Room) Z n0 #[(.long a)] L (fun v L' => v = some (.int (own_zf a)) ∧ L' = L) := by
  refine Con.of (ws := tables_1) (a0 := a0) pn_2 hw ?_
  intro p e s m below meth cde T kb w
  refine g_entry #[.val (.long a), .second] (by first | (simp [entryFrame, mkF, argsToLocals, Value.category]; done) | rfl) ?_
  refine g_lloadN w d2_0 rfl 1 rfl ?_
  refine g_lconst w d2_1 (0 : Int64) rfl 2 rfl ?_
  refine g_lcmp w d2_2 3 rfl ?_
  refine g_lif_ne w d2_3 10 (by decide) (by decide) 6 rfl (fun hc3 => ?_) (fun hc3 => ?_)
  · -- pc 10 (taken: not a = (0 : Int64))
    refine g_iconst w d2_10 (0 : Int32) rfl 11 rfl ?_
    exact g_ireti w d2_11 (by decide) (by decide) ⟨congrArg (fun z => some (Value.int z)) (by unfold own_zf; rw [if_neg hc3]), rfl⟩
  · -- pc 6 (on: a = (0 : Int64))
    refine g_iconst w d2_6 (1 : Int32) rfl 7 rfl ?_
    refine g_goto w d2_7 11 (by decide) (by decide) ?_
    exact g_ireti w d2_11 (by decide) (by decide) ⟨congrArg (fun z => some (Value.int z)) (by unfold own_zf; rw [if_pos hc3]), rfl⟩
theorem pd_3 : parseMethodDescriptor "([II)[I" = some ⟨[(.array .int), .int], some (.array .int)⟩ := by decide +kernel
theorem pd_4 : parseMethodDescriptor "(I)I" = some ⟨[.int], some .int⟩ := by decide +kernel
theorem pd_5 : parseMethodDescriptor "(I)Z" = some ⟨[.int], some .boolean⟩ := by decide +kernel
theorem pd_6 : parseMethodDescriptor "(I)J" = some ⟨[.int], some .long⟩ := by decide +kernel
theorem d3_0 : decode prog_29_method_1_code 0 = .ok (.aload_n 0, 1) := by decide +kernel
theorem d3_1 : decode prog_29_method_1_code 1 = .ok (.invokespecial 1, 3) := by decide +kernel
theorem d3_4 : decode prog_29_method_1_code 4 = .ok (.aload_n 0, 1) := by decide +kernel
theorem d3_5 : decode prog_29_method_1_code 5 = .ok (.bipush 64, 2) := by decide +kernel
theorem d3_7 : decode prog_29_method_1_code 7 = .ok (.newarray .int, 2) := by decide +kernel
theorem d3_9 : decode prog_29_method_1_code 9 = .ok (.putfield 7, 3) := by decide +kernel
theorem d3_12 : decode prog_29_method_1_code 12 = .ok (.aload_n 0, 1) := by decide +kernel
theorem d3_13 : decode prog_29_method_1_code 13 = .ok (.bipush 16, 2) := by decide +kernel
theorem d3_15 : decode prog_29_method_1_code 15 = .ok (.newarray .byte, 2) := by decide +kernel
theorem d3_17 : decode prog_29_method_1_code 17 = .ok (.putfield 13, 3) := by decide +kernel
theorem d3_20 : decode prog_29_method_1_code 20 = .ok (.aload_n 0, 1) := by decide +kernel
theorem d3_21 : decode prog_29_method_1_code 21 = .ok (.aload_n 1, 1) := by decide +kernel
theorem d3_22 : decode prog_29_method_1_code 22 = .ok (.arraylength, 1) := by decide +kernel
theorem d3_23 : decode prog_29_method_1_code 23 = .ok (.putfield 17, 3) := by decide +kernel
theorem d3_26 : decode prog_29_method_1_code 26 = .ok (.aload_n 0, 1) := by decide +kernel
theorem d3_27 : decode prog_29_method_1_code 27 = .ok (.aload_n 2, 1) := by decide +kernel
theorem d3_28 : decode prog_29_method_1_code 28 = .ok (.putfield 21, 3) := by decide +kernel
theorem d3_31 : decode prog_29_method_1_code 31 = .ok (.aload_n 0, 1) := by decide +kernel
theorem d3_32 : decode prog_29_method_1_code 32 = .ok (.aload_n 0, 1) := by decide +kernel
theorem d3_33 : decode prog_29_method_1_code 33 = .ok (.getfield 17, 3) := by decide +kernel
theorem d3_36 : decode prog_29_method_1_code 36 = .ok (.newarray .long, 2) := by decide +kernel
theorem d3_38 : decode prog_29_method_1_code 38 = .ok (.putfield 24, 3) := by decide +kernel
theorem d3_41 : decode prog_29_method_1_code 41 = .ok (.iconst 0, 1) := by decide +kernel
theorem d3_42 : decode prog_29_method_1_code 42 = .ok (.istore 6, 2) := by decide +kernel
theorem d3_44 : decode prog_29_method_1_code 44 = .ok (.iload 6, 2) := by decide +kernel
theorem d3_46 : decode prog_29_method_1_code 46 = .ok (.aload_n 0, 1) := by decide +kernel
theorem d3_47 : decode prog_29_method_1_code 47 = .ok (.getfield 17, 3) := by decide +kernel
theorem d3_50 : decode prog_29_method_1_code 50 = .ok (.if_icmp .ge 22, 3) := by decide +kernel
theorem d3_53 : decode prog_29_method_1_code 53 = .ok (.aload_n 0, 1) := by decide +kernel
theorem d3_54 : decode prog_29_method_1_code 54 = .ok (.getfield 24, 3) := by decide +kernel
theorem d3_57 : decode prog_29_method_1_code 57 = .ok (.iload 6, 2) := by decide +kernel
theorem d3_59 : decode prog_29_method_1_code 59 = .ok (.aload_n 1, 1) := by decide +kernel
theorem d3_60 : decode prog_29_method_1_code 60 = .ok (.aload_n 2, 1) := by decide +kernel
theorem d3_61 : decode prog_29_method_1_code 61 = .ok (.iload 6, 2) := by decide +kernel
theorem d3_63 : decode prog_29_method_1_code 63 = .ok (.iaload, 1) := by decide +kernel
theorem d3_64 : decode prog_29_method_1_code 64 = .ok (.laload, 1) := by decide +kernel
theorem d3_65 : decode prog_29_method_1_code 65 = .ok (.lastore, 1) := by decide +kernel
theorem d3_66 : decode prog_29_method_1_code 66 = .ok (.iinc 6 1, 3) := by decide +kernel
theorem d3_69 : decode prog_29_method_1_code 69 = .ok (.goto (-25), 3) := by decide +kernel
theorem d3_72 : decode prog_29_method_1_code 72 = .ok (.aload_n 0, 1) := by decide +kernel
theorem d3_73 : decode prog_29_method_1_code 73 = .ok (.iload 5, 2) := by decide +kernel
theorem d3_75 : decode prog_29_method_1_code 75 = .ok (.putfield 28, 3) := by decide +kernel
theorem d3_78 : decode prog_29_method_1_code 78 = .ok (.aload_n 0, 1) := by decide +kernel
theorem d3_79 : decode prog_29_method_1_code 79 = .ok (.getfield 17, 3) := by decide +kernel
theorem d3_82 : decode prog_29_method_1_code 82 = .ok (.i2l, 1) := by decide +kernel
theorem d3_83 : decode prog_29_method_1_code 83 = .ok (.aload_n 0, 1) := by decide +kernel
theorem d3_84 : decode prog_29_method_1_code 84 = .ok (.getfield 17, 3) := by decide +kernel
theorem d3_87 : decode prog_29_method_1_code 87 = .ok (.i2l, 1) := by decide +kernel
theorem d3_88 : decode prog_29_method_1_code 88 = .ok (.lmul, 1) := by decide +kernel
theorem d3_89 : decode prog_29_method_1_code 89 = .ok (.lstore 6, 2) := by decide +kernel
theorem d3_91 : decode prog_29_method_1_code 91 = .ok (.iconst 2, 1) := by decide +kernel
theorem d3_92 : decode prog_29_method_1_code 92 = .ok (.istore 8, 2) := by decide +kernel
theorem d3_94 : decode prog_29_method_1_code 94 = .ok (.lload 6, 2) := by decide +kernel
theorem d3_96 : decode prog_29_method_1_code 96 = .ok (.ldc2_w 31, 3) := by decide +kernel
theorem d3_99 : decode prog_29_method_1_code 99 = .ok (.ldiv, 1) := by decide +kernel
theorem d3_100 : decode prog_29_method_1_code 100 = .ok (.lload_n 3, 1) := by decide +kernel
theorem d3_101 : decode prog_29_method_1_code 101 = .ok (.lcmp, 1) := by decide +kernel
theorem d3_102 : decode prog_29_method_1_code 102 = .ok (.ifCond .gt 14, 3) := by decide +kernel
theorem d3_105 : decode prog_29_method_1_code 105 = .ok (.aload_n 0, 1) := by decide +kernel
theorem d3_106 : decode prog_29_method_1_code 106 = .ok (.iconst 3, 1) := by decide +kernel
theorem d3_107 : decode prog_29_method_1_code 107 = .ok (.invokevirtual 33, 3) := by decide +kernel
theorem d3_110 : decode prog_29_method_1_code 110 = .ok (.ifCond .eq 6, 3) := by decide +kernel
theorem d3_113 : decode prog_29_method_1_code 113 = .ok (.iconst 3, 1) := by decide +kernel
theorem d3_114 : decode prog_29_method_1_code 114 = .ok (.istore 8, 2) := by decide +kernel
theorem d3_116 : decode prog_29_method_1_code 116 = .ok (.iload 8, 2) := by decide +kernel
theorem d3_118 : decode prog_29_method_1_code 118 = .ok (.iconst 3, 1) := by decide +kernel
theorem d3_119 : decode prog_29_method_1_code 119 = .ok (.if_icmp .ne 26, 3) := by decide +kernel
theorem d3_122 : decode prog_29_method_1_code 122 = .ok (.aload_n 0, 1) := by decide +kernel
theorem d3_123 : decode prog_29_method_1_code 123 = .ok (.getfield 17, 3) := by decide +kernel
theorem d3_126 : decode prog_29_method_1_code 126 = .ok (.invokestatic 37, 3) := by decide +kernel
theorem d3_129 : decode prog_29_method_1_code 129 = .ok (.lload_n 3, 1) := by decide +kernel
theorem d3_130 : decode prog_29_method_1_code 130 = .ok (.lcmp, 1) := by decide +kernel
theorem d3_131 : decode prog_29_method_1_code 131 = .ok (.ifCond .gt 14, 3) := by decide +kernel
theorem d3_134 : decode prog_29_method_1_code 134 = .ok (.aload_n 0, 1) := by decide +kernel
theorem d3_135 : decode prog_29_method_1_code 135 = .ok (.iconst 4, 1) := by decide +kernel
theorem d3_136 : decode prog_29_method_1_code 136 = .ok (.invokevirtual 33, 3) := by decide +kernel
theorem d3_139 : decode prog_29_method_1_code 139 = .ok (.ifCond .eq 6, 3) := by decide +kernel
theorem d3_142 : decode prog_29_method_1_code 142 = .ok (.iconst 4, 1) := by decide +kernel
theorem d3_143 : decode prog_29_method_1_code 143 = .ok (.istore 8, 2) := by decide +kernel
theorem d3_145 : decode prog_29_method_1_code 145 = .ok (.aload_n 0, 1) := by decide +kernel
theorem d3_146 : decode prog_29_method_1_code 146 = .ok (.iload 8, 2) := by decide +kernel
theorem d3_148 : decode prog_29_method_1_code 148 = .ok (.putfield 41, 3) := by decide +kernel
theorem d3_151 : decode prog_29_method_1_code 151 = .ok (.aload_n 0, 1) := by decide +kernel
theorem d3_152 : decode prog_29_method_1_code 152 = .ok (.aload_n 0, 1) := by decide +kernel
theorem d3_153 : decode prog_29_method_1_code 153 = .ok (.getfield 17, 3) := by decide +kernel
theorem d3_156 : decode prog_29_method_1_code 156 = .ok (.iconst 1, 1) := by decide +kernel
theorem d3_157 : decode prog_29_method_1_code 157 = .ok (.iadd, 1) := by decide +kernel
theorem d3_158 : decode prog_29_method_1_code 158 = .ok (.newarray .int, 2) := by decide +kernel
theorem d3_160 : decode prog_29_method_1_code 160 = .ok (.putfield 44, 3) := by decide +kernel
theorem d3_163 : decode prog_29_method_1_code 163 = .ok (.aload_n 0, 1) := by decide +kernel
theorem d3_164 : decode prog_29_method_1_code 164 = .ok (.iconst 5, 1) := by decide +kernel
theorem d3_165 : decode prog_29_method_1_code 165 = .ok (.aload_n 0, 1) := by decide +kernel
theorem d3_166 : decode prog_29_method_1_code 166 = .ok (.getfield 17, 3) := by decide +kernel
theorem d3_169 : decode prog_29_method_1_code 169 = .ok (.imul, 1) := by decide +kernel
theorem d3_170 : decode prog_29_method_1_code 170 = .ok (.newarray .int, 2) := by decide +kernel
theorem d3_172 : decode prog_29_method_1_code 172 = .ok (.putfield 47, 3) := by decide +kernel
theorem d3_175 : decode prog_29_method_1_code 175 = .ok (.iconst 0, 1) := by decide +kernel
theorem d3_176 : decode prog_29_method_1_code 176 = .ok (.istore 9, 2) := by decide +kernel
theorem d3_178 : decode prog_29_method_1_code 178 = .ok (.iload 9, 2) := by decide +kernel
theorem d3_180 : decode prog_29_method_1_code 180 = .ok (.aload_n 0, 1) := by decide +kernel
theorem d3_181 : decode prog_29_method_1_code 181 = .ok (.getfield 50, 3) := by decide +kernel
theorem d3_184 : decode prog_29_method_1_code 184 = .ok (.if_icmp .ge 81, 3) := by decide +kernel
theorem d3_187 : decode prog_29_method_1_code 187 = .ok (.iconst 4, 1) := by decide +kernel
theorem d3_188 : decode prog_29_method_1_code 188 = .ok (.iload 9, 2) := by decide +kernel
theorem d3_190 : decode prog_29_method_1_code 190 = .ok (.imul, 1) := by decide +kernel
theorem d3_191 : decode prog_29_method_1_code 191 = .ok (.istore 10, 2) := by decide +kernel
theorem d3_193 : decode prog_29_method_1_code 193 = .ok (.iload 10, 2) := by decide +kernel
theorem d3_195 : decode prog_29_method_1_code 195 = .ok (.iconst 4, 1) := by decide +kernel
theorem d3_196 : decode prog_29_method_1_code 196 = .ok (.iload 9, 2) := by decide +kernel
theorem d3_198 : decode prog_29_method_1_code 198 = .ok (.imul, 1) := by decide +kernel
theorem d3_199 : decode prog_29_method_1_code 199 = .ok (.aload_n 0, 1) := by decide +kernel
theorem d3_200 : decode prog_29_method_1_code 200 = .ok (.iload 9, 2) := by decide +kernel
theorem d3_202 : decode prog_29_method_1_code 202 = .ok (.invokevirtual 53, 3) := by decide +kernel
theorem d3_205 : decode prog_29_method_1_code 205 = .ok (.iadd, 1) := by decide +kernel
theorem d3_206 : decode prog_29_method_1_code 206 = .ok (.if_icmp .ge 53, 3) := by decide +kernel
theorem d3_209 : decode prog_29_method_1_code 209 = .ok (.aload_n 0, 1) := by decide +kernel
theorem d3_210 : decode prog_29_method_1_code 210 = .ok (.getfield 44, 3) := by decide +kernel
theorem d3_213 : decode prog_29_method_1_code 213 = .ok (.aload_n 0, 1) := by decide +kernel
theorem d3_214 : decode prog_29_method_1_code 214 = .ok (.getfield 7, 3) := by decide +kernel
theorem d3_217 : decode prog_29_method_1_code 217 = .ok (.iload 10, 2) := by decide +kernel
theorem d3_219 : decode prog_29_method_1_code 219 = .ok (.iaload, 1) := by decide +kernel
theorem d3_220 : decode prog_29_method_1_code 220 = .ok (.iconst 1, 1) := by decide +kernel
theorem d3_221 : decode prog_29_method_1_code 221 = .ok (.iadd, 1) := by decide +kernel
theorem d3_222 : decode prog_29_method_1_code 222 = .ok (.dup2, 1) := by decide +kernel
theorem d3_223 : decode prog_29_method_1_code 223 = .ok (.iaload, 1) := by decide +kernel
theorem d3_224 : decode prog_29_method_1_code 224 = .ok (.iconst 1, 1) := by decide +kernel
theorem d3_225 : decode prog_29_method_1_code 225 = .ok (.iadd, 1) := by decide +kernel
theorem d3_226 : decode prog_29_method_1_code 226 = .ok (.iastore, 1) := by decide +kernel
theorem d3_227 : decode prog_29_method_1_code 227 = .ok (.aload_n 0, 1) := by decide +kernel
theorem d3_228 : decode prog_29_method_1_code 228 = .ok (.getfield 47, 3) := by decide +kernel
theorem d3_231 : decode prog_29_method_1_code 231 = .ok (.iconst 5, 1) := by decide +kernel
theorem d3_232 : decode prog_29_method_1_code 232 = .ok (.aload_n 0, 1) := by decide +kernel
theorem d3_233 : decode prog_29_method_1_code 233 = .ok (.getfield 7, 3) := by decide +kernel
theorem d3_236 : decode prog_29_method_1_code 236 = .ok (.iload 10, 2) := by decide +kernel
theorem d3_238 : decode prog_29_method_1_code 238 = .ok (.iaload, 1) := by decide +kernel
theorem d3_239 : decode prog_29_method_1_code 239 = .ok (.imul, 1) := by decide +kernel
theorem d3_240 : decode prog_29_method_1_code 240 = .ok (.aload_n 0, 1) := by decide +kernel
theorem d3_241 : decode prog_29_method_1_code 241 = .ok (.getfield 13, 3) := by decide +kernel
theorem d3_244 : decode prog_29_method_1_code 244 = .ok (.iload 9, 2) := by decide +kernel
theorem d3_246 : decode prog_29_method_1_code 246 = .ok (.baload, 1) := by decide +kernel
theorem d3_247 : decode prog_29_method_1_code 247 = .ok (.iadd, 1) := by decide +kernel
theorem d3_248 : decode prog_29_method_1_code 248 = .ok (.dup2, 1) := by decide +kernel
theorem d3_249 : decode prog_29_method_1_code 249 = .ok (.iaload, 1) := by decide +kernel
theorem d3_250 : decode prog_29_method_1_code 250 = .ok (.iconst 1, 1) := by decide +kernel
theorem d3_251 : decode prog_29_method_1_code 251 = .ok (.iadd, 1) := by decide +kernel
theorem d3_252 : decode prog_29_method_1_code 252 = .ok (.iastore, 1) := by decide +kernel
theorem d3_253 : decode prog_29_method_1_code 253 = .ok (.iinc 10 1, 3) := by decide +kernel
theorem d3_256 : decode prog_29_method_1_code 256 = .ok (.goto (-63), 3) := by decide +kernel
theorem d3_259 : decode prog_29_method_1_code 259 = .ok (.iinc 9 1, 3) := by decide +kernel
theorem d3_262 : decode prog_29_method_1_code 262 = .ok (.goto (-84), 3) := by decide +kernel
theorem d3_265 : decode prog_29_method_1_code 265 = .ok (.iconst 0, 1) := by decide +kernel
theorem d3_266 : decode prog_29_method_1_code 266 = .ok (.istore 9, 2) := by decide +kernel
theorem d3_268 : decode prog_29_method_1_code 268 = .ok (.iload 9, 2) := by decide +kernel
theorem d3_270 : decode prog_29_method_1_code 270 = .ok (.aload_n 0, 1) := by decide +kernel
theorem d3_271 : decode prog_29_method_1_code 271 = .ok (.getfield 17, 3) := by decide +kernel
theorem d3_274 : decode prog_29_method_1_code 274 = .ok (.if_icmp .ge 28, 3) := by decide +kernel
theorem d3_277 : decode prog_29_method_1_code 277 = .ok (.aload_n 0, 1) := by decide +kernel
theorem d3_278 : decode prog_29_method_1_code 278 = .ok (.getfield 44, 3) := by decide +kernel
theorem d3_281 : decode prog_29_method_1_code 281 = .ok (.iload 9, 2) := by decide +kernel
theorem d3_283 : decode prog_29_method_1_code 283 = .ok (.iconst 1, 1) := by decide +kernel
theorem d3_284 : decode prog_29_method_1_code 284 = .ok (.iadd, 1) := by decide +kernel
theorem d3_285 : decode prog_29_method_1_code 285 = .ok (.dup2, 1) := by decide +kernel
theorem d3_286 : decode prog_29_method_1_code 286 = .ok (.iaload, 1) := by decide +kernel
theorem d3_287 : decode prog_29_method_1_code 287 = .ok (.aload_n 0, 1) := by decide +kernel
theorem d3_288 : decode prog_29_method_1_code 288 = .ok (.getfield 44, 3) := by decide +kernel
theorem d3_291 : decode prog_29_method_1_code 291 = .ok (.iload 9, 2) := by decide +kernel
theorem d3_293 : decode prog_29_method_1_code 293 = .ok (.iaload, 1) := by decide +kernel
theorem d3_294 : decode prog_29_method_1_code 294 = .ok (.iadd, 1) := by decide +kernel
theorem d3_295 : decode prog_29_method_1_code 295 = .ok (.iastore, 1) := by decide +kernel
theorem d3_296 : decode prog_29_method_1_code 296 = .ok (.iinc 9 1, 3) := by decide +kernel
theorem d3_299 : decode prog_29_method_1_code 299 = .ok (.goto (-31), 3) := by decide +kernel
theorem d3_302 : decode prog_29_method_1_code 302 = .ok (.aload_n 0, 1) := by decide +kernel
theorem d3_303 : decode prog_29_method_1_code 303 = .ok (.aload_n 0, 1) := by decide +kernel
theorem d3_304 : decode prog_29_method_1_code 304 = .ok (.getfield 44, 3) := by decide +kernel
theorem d3_307 : decode prog_29_method_1_code 307 = .ok (.aload_n 0, 1) := by decide +kernel
theorem d3_308 : decode prog_29_method_1_code 308 = .ok (.getfield 17, 3) := by decide +kernel
theorem d3_311 : decode prog_29_method_1_code 311 = .ok (.iaload, 1) := by decide +kernel
theorem d3_312 : decode prog_29_method_1_code 312 = .ok (.newarray .int, 2) := by decide +kernel
theorem d3_314 : decode prog_29_method_1_code 314 = .ok (.putfield 57, 3) := by decide +kernel
theorem d3_317 : decode prog_29_method_1_code 317 = .ok (.aload_n 0, 1) := by decide +kernel
theorem d3_318 : decode prog_29_method_1_code 318 = .ok (.getfield 44, 3) := by decide +kernel
theorem d3_321 : decode prog_29_method_1_code 321 = .ok (.aload_n 0, 1) := by decide +kernel
theorem d3_322 : decode prog_29_method_1_code 322 = .ok (.getfield 17, 3) := by decide +kernel
theorem d3_325 : decode prog_29_method_1_code 325 = .ok (.invokestatic 60, 3) := by decide +kernel
theorem d3_328 : decode prog_29_method_1_code 328 = .ok (.astore 9, 2) := by decide +kernel
theorem d3_330 : decode prog_29_method_1_code 330 = .ok (.iconst 0, 1) := by decide +kernel
theorem d3_331 : decode prog_29_method_1_code 331 = .ok (.istore 10, 2) := by decide +kernel
theorem d3_333 : decode prog_29_method_1_code 333 = .ok (.iload 10, 2) := by decide +kernel
theorem d3_335 : decode prog_29_method_1_code 335 = .ok (.aload_n 0, 1) := by decide +kernel
theorem d3_336 : decode prog_29_method_1_code 336 = .ok (.getfield 50, 3) := by decide +kernel
theorem d3_339 : decode prog_29_method_1_code 339 = .ok (.if_icmp .ge 59, 3) := by decide +kernel
theorem d3_342 : decode prog_29_method_1_code 342 = .ok (.iconst 4, 1) := by decide +kernel
theorem d3_343 : decode prog_29_method_1_code 343 = .ok (.iload 10, 2) := by decide +kernel
theorem d3_345 : decode prog_29_method_1_code 345 = .ok (.imul, 1) := by decide +kernel
theorem d3_346 : decode prog_29_method_1_code 346 = .ok (.istore 11, 2) := by decide +kernel
theorem d3_348 : decode prog_29_method_1_code 348 = .ok (.iload 11, 2) := by decide +kernel
theorem d3_350 : decode prog_29_method_1_code 350 = .ok (.iconst 4, 1) := by decide +kernel
theorem d3_351 : decode prog_29_method_1_code 351 = .ok (.iload 10, 2) := by decide +kernel
theorem d3_353 : decode prog_29_method_1_code 353 = .ok (.imul, 1) := by decide +kernel
theorem d3_354 : decode prog_29_method_1_code 354 = .ok (.aload_n 0, 1) := by decide +kernel
theorem d3_355 : decode prog_29_method_1_code 355 = .ok (.iload 10, 2) := by decide +kernel
theorem d3_357 : decode prog_29_method_1_code 357 = .ok (.invokevirtual 53, 3) := by decide +kernel
theorem d3_360 : decode prog_29_method_1_code 360 = .ok (.iadd, 1) := by decide +kernel
theorem d3_361 : decode prog_29_method_1_code 361 = .ok (.if_icmp .ge 31, 3) := by decide +kernel
theorem d3_364 : decode prog_29_method_1_code 364 = .ok (.aload_n 0, 1) := by decide +kernel
theorem d3_365 : decode prog_29_method_1_code 365 = .ok (.getfield 57, 3) := by decide +kernel
theorem d3_368 : decode prog_29_method_1_code 368 = .ok (.aload 9, 2) := by decide +kernel
theorem d3_370 : decode prog_29_method_1_code 370 = .ok (.aload_n 0, 1) := by decide +kernel
theorem d3_371 : decode prog_29_method_1_code 371 = .ok (.getfield 7, 3) := by decide +kernel
theorem d3_374 : decode prog_29_method_1_code 374 = .ok (.iload 11, 2) := by decide +kernel
theorem d3_376 : decode prog_29_method_1_code 376 = .ok (.iaload, 1) := by decide +kernel
theorem d3_377 : decode prog_29_method_1_code 377 = .ok (.dup2, 1) := by decide +kernel
theorem d3_378 : decode prog_29_method_1_code 378 = .ok (.iaload, 1) := by decide +kernel
theorem d3_379 : decode prog_29_method_1_code 379 = .ok (.dup_x2, 1) := by decide +kernel
theorem d3_380 : decode prog_29_method_1_code 380 = .ok (.iconst 1, 1) := by decide +kernel
theorem d3_381 : decode prog_29_method_1_code 381 = .ok (.iadd, 1) := by decide +kernel
theorem d3_382 : decode prog_29_method_1_code 382 = .ok (.iastore, 1) := by decide +kernel
theorem d3_383 : decode prog_29_method_1_code 383 = .ok (.iload 10, 2) := by decide +kernel
theorem d3_385 : decode prog_29_method_1_code 385 = .ok (.iastore, 1) := by decide +kernel
theorem d3_386 : decode prog_29_method_1_code 386 = .ok (.iinc 11 1, 3) := by decide +kernel
theorem d3_389 : decode prog_29_method_1_code 389 = .ok (.goto (-41), 3) := by decide +kernel
theorem d3_392 : decode prog_29_method_1_code 392 = .ok (.iinc 10 1, 3) := by decide +kernel
theorem d3_395 : decode prog_29_method_1_code 395 = .ok (.goto (-62), 3) := by decide +kernel
theorem d3_398 : decode prog_29_method_1_code 398 = .ok (.aload_n 0, 1) := by decide +kernel
theorem d3_399 : decode prog_29_method_1_code 399 = .ok (.aload_n 0, 1) := by decide +kernel
theorem d3_400 : decode prog_29_method_1_code 400 = .ok (.getfield 50, 3) := by decide +kernel
theorem d3_403 : decode prog_29_method_1_code 403 = .ok (.newarray .int, 2) := by decide +kernel
theorem d3_405 : decode prog_29_method_1_code 405 = .ok (.putfield 66, 3) := by decide +kernel
theorem d3_408 : decode prog_29_method_1_code 408 = .ok (.aload_n 0, 1) := by decide +kernel
theorem d3_409 : decode prog_29_method_1_code 409 = .ok (.dup, 1) := by decide +kernel
theorem d3_410 : decode prog_29_method_1_code 410 = .ok (.getfield 69, 3) := by decide +kernel
theorem d3_413 : decode prog_29_method_1_code 413 = .ok (.ldc2_w 31, 3) := by decide +kernel
theorem d3_416 : decode prog_29_method_1_code 416 = .ok (.aload_n 0, 1) := by decide +kernel
theorem d3_417 : decode prog_29_method_1_code 417 = .ok (.getfield 57, 3) := by decide +kernel
theorem d3_420 : decode prog_29_method_1_code 420 = .ok (.arraylength, 1) := by decide +kernel
theorem d3_421 : decode prog_29_method_1_code 421 = .ok (.i2l, 1) := by decide +kernel
theorem d3_422 : decode prog_29_method_1_code 422 = .ok (.lmul, 1) := by decide +kernel
theorem d3_423 : decode prog_29_method_1_code 423 = .ok (.ladd, 1) := by decide +kernel
theorem d3_424 : decode prog_29_method_1_code 424 = .ok (.putfield 69, 3) := by decide +kernel
theorem d3_427 : decode prog_29_method_1_code 427 = .ok (.return_, 1) := by decide +kernel
theorem pn_3 : plainFor (⟨"com/example/cangdan/cangdan/fewest/SmallGroups", "<init>", "([J[IJI)V"⟩ : MethodName) = true := plainFor_of_name (by first | (simp [plainName, overriddenIn]; done) | decide +kernel)
set_option maxRecDepth 65536 in
set_option maxHeartbeats 40000000 in
theorem rm3 (l : Launch) (Z : State) (a0 : Array Value) (hw : ∀ d ∈ tables_1, d.before a0 Z = true) (n0 : Nat) (t sa ba : Addr) (x0 x1 x2 x3 sp : Int64) (mo : Int32) (M : Nat) (hmo : mo.toInt = (M : Int)) (hM : M ≤ 7) (hA : own_A x0 x1 x2 x3) :
    Con l (⟨"com/example/cangdan/cangdan/fewest/SmallGroups", "<init>", "([J[IJI)V"⟩ : MethodName) prog_29_method_1_code 12 none ({ frames := 4, cells := 18, slots := 164, locals := 78 } : Room) Z n0 #[(.ref t), (.ref sa), (.ref ba), (.long sp), (.int mo)] ([(t, O_SmallGroups .null .null (.int (0 : Int32)) .null .null (.int (0 : Int32)) (.int (0 : Int32)) .null .null (.int (0 : Int32)) .null .null (.long (0 : Int64))), (sa, .inr (.long, [(.long x0), (.long x1), (.long x2), (.long x3)])), (ba, .inr (.int, [(.int (0 : Int32)), (.int (1 : Int32)), (.int (2 : Int32)), (.int (3 : Int32))]))]) (fun v L' => v = none ∧ ∃ (up : Int32) (f0 f1 f2 f3 f4 f5 f7 f8 f9 f10 f11 f12 : Value), own_up sp M x0 x1 x2 x3 up ∧ L' = [(t, O_SmallGroups f0 f1 f2 f3 f4 f5 (.int up) f7 f8 f9 f10 f11 f12)]) := by
  refine Con.of (ws := tables_1) (a0 := a0) pn_3 hw ?_
  intro p e s m below meth cde T kb w
  refine g_entry #[.val (.ref t), .val (.ref sa), .val (.ref ba), .val (.long sp), .second, .val (.int mo), .unset, .unset, .unset, .unset, .unset, .unset] (by first | (simp [entryFrame, mkF, argsToLocals, Value.category]; done) | rfl) ?_
  refine g_aloadN w d3_0 rfl rfl 1 rfl ?_
  refine g_initO w d3_1 16 rfl 17 rfl 18 rfl rfl (by decide) 0 rfl (by decide) 4 rfl (fun T w => ?_)
  refine g_aloadN w d3_4 rfl rfl 5 rfl ?_
  refine g_bipush w d3_5 (64 : Int32) rfl 7 rfl ?_
  refine g_newarr w d3_7 12 rfl 64 64 (by decide) (by decide) (by decide) (List.replicate 64 (.int (0 : Int32))) rfl (by decide) (by decide) 9 rfl (fun T me w => ?_)
  replace w := w.to (L' := [(t, O_SmallGroups .null .null (.int (0 : Int32)) .null .null (.int (0 : Int32)) (.int (0 : Int32)) .null .null (.int (0 : Int32)) .null .null (.long (0 : Int64))), (sa, .inr (.long, [(.long x0), (.long x1), (.long x2), (.long x3)])), (ba, .inr (.int, [(.int (0 : Int32)), (.int (1 : Int32)), (.int (2 : Int32)), (.int (3 : Int32))])), (me, .inr (.int, (List.replicate 64 (.int (0 : Int32)))))]) rfl
  refine g_putf w d3_9 0 rfl 0 rfl 19 rfl Via.refl 20 (Or.inl rfl) 9 rfl (ty := (.array .int)) (by decide) rfl rfl 12 rfl (fun T w => ?_)
  replace w := w.to (L' := [(t, O_SmallGroups (.ref me) .null (.int (0 : Int32)) .null .null (.int (0 : Int32)) (.int (0 : Int32)) .null .null (.int (0 : Int32)) .null .null (.long (0 : Int64))), (sa, .inr (.long, [(.long x0), (.long x1), (.long x2), (.long x3)])), (ba, .inr (.int, [(.int (0 : Int32)), (.int (1 : Int32)), (.int (2 : Int32)), (.int (3 : Int32))])), (me, .inr (.int, (List.replicate 64 (.int (0 : Int32)))))]) rfl
  refine g_aloadN w d3_12 rfl rfl 13 rfl ?_
  refine g_bipush w d3_13 (16 : Int32) rfl 15 rfl ?_
  refine g_newarr w d3_15 21 rfl 16 16 (by decide) (by decide) (by decide) (List.replicate 16 (.int (0 : Int32))) rfl (by decide) (by decide) 17 rfl (fun T ki w => ?_)
  replace w := w.to (L' := [(t, O_SmallGroups (.ref me) .null (.int (0 : Int32)) .null .null (.int (0 : Int32)) (.int (0 : Int32)) .null .null (.int (0 : Int32)) .null .null (.long (0 : Int64))), (sa, .inr (.long, [(.long x0), (.long x1), (.long x2), (.long x3)])), (ba, .inr (.int, [(.int (0 : Int32)), (.int (1 : Int32)), (.int (2 : Int32)), (.int (3 : Int32))])), (me, .inr (.int, (List.replicate 64 (.int (0 : Int32))))), (ki, .inr (.byte, (List.replicate 16 (.int (0 : Int32)))))]) rfl
  refine g_putf w d3_17 0 rfl 1 rfl 22 rfl Via.refl 23 (Or.inl rfl) 9 rfl (ty := (.array .byte)) (by decide) rfl rfl 20 rfl (fun T w => ?_)
  replace w := w.to (L' := [(t, O_SmallGroups (.ref me) (.ref ki) (.int (0 : Int32)) .null .null (.int (0 : Int32)) (.int (0 : Int32)) .null .null (.int (0 : Int32)) .null .null (.long (0 : Int64))), (sa, .inr (.long, [(.long x0), (.long x1), (.long x2), (.long x3)])), (ba, .inr (.int, [(.int (0 : Int32)), (.int (1 : Int32)), (.int (2 : Int32)), (.int (3 : Int32))])), (me, .inr (.int, (List.replicate 64 (.int (0 : Int32))))), (ki, .inr (.byte, (List.replicate 16 (.int (0 : Int32)))))]) rfl
  refine g_aloadN w d3_20 rfl rfl 21 rfl ?_
  refine g_aloadN w d3_21 rfl rfl 22 rfl ?_
  refine g_alen w d3_22 1 rfl (4 : Int32) rfl 23 rfl ?_
  refine g_putf w d3_23 0 rfl 2 rfl 24 rfl Via.refl 25 (Or.inr ⟨rfl, rfl, rfl⟩) 9 rfl (ty := .int) (by decide) rfl rfl 26 rfl (fun T w => ?_)
  replace w := w.to (L' := [(t, O_SmallGroups (.ref me) (.ref ki) (.int (4 : Int32)) .null .null (.int (0 : Int32)) (.int (0 : Int32)) .null .null (.int (0 : Int32)) .null .null (.long (0 : Int64))), (sa, .inr (.long, [(.long x0), (.long x1), (.long x2), (.long x3)])), (ba, .inr (.int, [(.int (0 : Int32)), (.int (1 : Int32)), (.int (2 : Int32)), (.int (3 : Int32))])), (me, .inr (.int, (List.replicate 64 (.int (0 : Int32))))), (ki, .inr (.byte, (List.replicate 16 (.int (0 : Int32)))))]) rfl
  refine g_aloadN w d3_26 rfl rfl 27 rfl ?_
  refine g_aloadN w d3_27 rfl rfl 28 rfl ?_
  refine g_putf w d3_28 0 rfl 3 rfl 26 rfl Via.refl 27 (Or.inr ⟨rfl, rfl, rfl⟩) 9 rfl (ty := (.array .int)) (by decide) rfl rfl 31 rfl (fun T w => ?_)
  replace w := w.to (L' := [(t, O_SmallGroups (.ref me) (.ref ki) (.int (4 : Int32)) (.ref ba) .null (.int (0 : Int32)) (.int (0 : Int32)) .null .null (.int (0 : Int32)) .null .null (.long (0 : Int64))), (sa, .inr (.long, [(.long x0), (.long x1), (.long x2), (.long x3)])), (ba, .inr (.int, [(.int (0 : Int32)), (.int (1 : Int32)), (.int (2 : Int32)), (.int (3 : Int32))])), (me, .inr (.int, (List.replicate 64 (.int (0 : Int32))))), (ki, .inr (.byte, (List.replicate 16 (.int (0 : Int32)))))]) rfl
  refine g_aloadN w d3_31 rfl rfl 32 rfl ?_
  refine g_aloadN w d3_32 rfl rfl 33 rfl ?_
  refine g_getf w d3_33 0 rfl 2 rfl 24 rfl Via.refl 36 rfl (fun T w => ?_)
  refine g_newarr w d3_36 11 rfl 4 4 (by decide) (by decide) (by decide) [(.long (0 : Int64)), (.long (0 : Int64)), (.long (0 : Int64)), (.long (0 : Int64))] rfl (by decide) (by decide) 38 rfl (fun T am w => ?_)
  replace w := w.to (L' := [(t, O_SmallGroups (.ref me) (.ref ki) (.int (4 : Int32)) (.ref ba) .null (.int (0 : Int32)) (.int (0 : Int32)) .null .null (.int (0 : Int32)) .null .null (.long (0 : Int64))), (sa, .inr (.long, [(.long x0), (.long x1), (.long x2), (.long x3)])), (ba, .inr (.int, [(.int (0 : Int32)), (.int (1 : Int32)), (.int (2 : Int32)), (.int (3 : Int32))])), (me, .inr (.int, (List.replicate 64 (.int (0 : Int32))))), (ki, .inr (.byte, (List.replicate 16 (.int (0 : Int32))))), (am, .inr (.long, [(.long (0 : Int64)), (.long (0 : Int64)), (.long (0 : Int64)), (.long (0 : Int64))]))]) rfl
  refine g_putf w d3_38 0 rfl 4 rfl 28 rfl Via.refl 29 (Or.inr ⟨rfl, rfl, rfl⟩) 9 rfl (ty := (.array .long)) (by decide) rfl rfl 41 rfl (fun T w => ?_)
  replace w := w.to (L' := [(t, O_SmallGroups (.ref me) (.ref ki) (.int (4 : Int32)) (.ref ba) (.ref am) (.int (0 : Int32)) (.int (0 : Int32)) .null .null (.int (0 : Int32)) .null .null (.long (0 : Int64))), (sa, .inr (.long, [(.long x0), (.long x1), (.long x2), (.long x3)])), (ba, .inr (.int, [(.int (0 : Int32)), (.int (1 : Int32)), (.int (2 : Int32)), (.int (3 : Int32))])), (me, .inr (.int, (List.replicate 64 (.int (0 : Int32))))), (ki, .inr (.byte, (List.replicate 16 (.int (0 : Int32))))), (am, .inr (.long, [(.long (0 : Int64)), (.long (0 : Int64)), (.long (0 : Int64)), (.long (0 : Int64))]))]) rfl
  refine g_iconst w d3_41 (0 : Int32) rfl 42 rfl ?_
  refine g_istore w d3_42 44 rfl rfl #[.val (.ref t), .val (.ref sa), .val (.ref ba), .val (.long sp), .second, .val (.int mo), .val (.int (0 : Int32)), .unset, .unset, .unset, .unset, .unset] rfl ?_
  refine g_iload w d3_44 rfl 46 rfl ?_
  refine g_aloadN w d3_46 rfl rfl 47 rfl ?_
  refine g_getf w d3_47 0 rfl 2 rfl 24 rfl Via.refl 50 rfl (fun T w => ?_)
  refine g_icmp_ge w d3_50 72 (by decide) (by decide) 53 rfl (fun h => absurd (by decide) h) (fun hc50 => ?_)
  refine g_aloadN w d3_53 rfl rfl 54 rfl ?_
  refine g_getf w d3_54 0 rfl 4 rfl 28 rfl Via.refl 57 rfl (fun T w => ?_)
  refine g_iload w d3_57 rfl 59 rfl ?_
  refine g_aloadN w d3_59 rfl rfl 60 rfl ?_
  refine g_aloadN w d3_60 rfl rfl 61 rfl ?_
  refine g_iload w d3_61 rfl 63 rfl ?_
  refine g_iaload w d3_63 2 rfl 0 (by decide) rfl 64 rfl ?_
  refine g_laload w d3_64 1 rfl 0 (by decide) rfl 65 rfl ?_
  refine g_lastore w d3_65 5 rfl 0 (by decide) (Nat.le_of_ble_eq_true rfl) (.long x0) rfl 66 rfl (fun T w => ?_)
  replace w := w.to (L' := [(t, O_SmallGroups (.ref me) (.ref ki) (.int (4 : Int32)) (.ref ba) (.ref am) (.int (0 : Int32)) (.int (0 : Int32)) .null .null (.int (0 : Int32)) .null .null (.long (0 : Int64))), (sa, .inr (.long, [(.long x0), (.long x1), (.long x2), (.long x3)])), (ba, .inr (.int, [(.int (0 : Int32)), (.int (1 : Int32)), (.int (2 : Int32)), (.int (3 : Int32))])), (me, .inr (.int, (List.replicate 64 (.int (0 : Int32))))), (ki, .inr (.byte, (List.replicate 16 (.int (0 : Int32))))), (am, .inr (.long, [(.long x0), (.long (0 : Int64)), (.long (0 : Int64)), (.long (0 : Int64))]))]) rfl
  refine g_iinc w d3_66 69 rfl rfl (by decide) #[.val (.ref t), .val (.ref sa), .val (.ref ba), .val (.long sp), .second, .val (.int mo), .val (.int (1 : Int32)), .unset, .unset, .unset, .unset, .unset] rfl ?_
  refine g_goto w d3_69 44 (by decide) (by decide) ?_
  refine g_iload w d3_44 rfl 46 rfl ?_
  refine g_aloadN w d3_46 rfl rfl 47 rfl ?_
  refine g_getf w d3_47 0 rfl 2 rfl 24 rfl Via.refl 50 rfl (fun T w => ?_)
  refine g_icmp_ge w d3_50 72 (by decide) (by decide) 53 rfl (fun h => absurd (by decide) h) (fun hc50 => ?_)
  refine g_aloadN w d3_53 rfl rfl 54 rfl ?_
  refine g_getf w d3_54 0 rfl 4 rfl 28 rfl Via.refl 57 rfl (fun T w => ?_)
  refine g_iload w d3_57 rfl 59 rfl ?_
  refine g_aloadN w d3_59 rfl rfl 60 rfl ?_
  refine g_aloadN w d3_60 rfl rfl 61 rfl ?_
  refine g_iload w d3_61 rfl 63 rfl ?_
  refine g_iaload w d3_63 2 rfl 1 (by decide) rfl 64 rfl ?_
  refine g_laload w d3_64 1 rfl 1 (by decide) rfl 65 rfl ?_
  refine g_lastore w d3_65 5 rfl 1 (by decide) (Nat.le_of_ble_eq_true rfl) (.long x1) rfl 66 rfl (fun T w => ?_)
  replace w := w.to (L' := [(t, O_SmallGroups (.ref me) (.ref ki) (.int (4 : Int32)) (.ref ba) (.ref am) (.int (0 : Int32)) (.int (0 : Int32)) .null .null (.int (0 : Int32)) .null .null (.long (0 : Int64))), (sa, .inr (.long, [(.long x0), (.long x1), (.long x2), (.long x3)])), (ba, .inr (.int, [(.int (0 : Int32)), (.int (1 : Int32)), (.int (2 : Int32)), (.int (3 : Int32))])), (me, .inr (.int, (List.replicate 64 (.int (0 : Int32))))), (ki, .inr (.byte, (List.replicate 16 (.int (0 : Int32))))), (am, .inr (.long, [(.long x0), (.long x1), (.long (0 : Int64)), (.long (0 : Int64))]))]) rfl
  refine g_iinc w d3_66 69 rfl rfl (by decide) #[.val (.ref t), .val (.ref sa), .val (.ref ba), .val (.long sp), .second, .val (.int mo), .val (.int (2 : Int32)), .unset, .unset, .unset, .unset, .unset] rfl ?_
  refine g_goto w d3_69 44 (by decide) (by decide) ?_
  refine g_iload w d3_44 rfl 46 rfl ?_
  refine g_aloadN w d3_46 rfl rfl 47 rfl ?_
  refine g_getf w d3_47 0 rfl 2 rfl 24 rfl Via.refl 50 rfl (fun T w => ?_)
  refine g_icmp_ge w d3_50 72 (by decide) (by decide) 53 rfl (fun h => absurd (by decide) h) (fun hc50 => ?_)
  refine g_aloadN w d3_53 rfl rfl 54 rfl ?_
  refine g_getf w d3_54 0 rfl 4 rfl 28 rfl Via.refl 57 rfl (fun T w => ?_)
  refine g_iload w d3_57 rfl 59 rfl ?_
  refine g_aloadN w d3_59 rfl rfl 60 rfl ?_
  refine g_aloadN w d3_60 rfl rfl 61 rfl ?_
  refine g_iload w d3_61 rfl 63 rfl ?_
  refine g_iaload w d3_63 2 rfl 2 (by decide) rfl 64 rfl ?_
  refine g_laload w d3_64 1 rfl 2 (by decide) rfl 65 rfl ?_
  refine g_lastore w d3_65 5 rfl 2 (by decide) (Nat.le_of_ble_eq_true rfl) (.long x2) rfl 66 rfl (fun T w => ?_)
  replace w := w.to (L' := [(t, O_SmallGroups (.ref me) (.ref ki) (.int (4 : Int32)) (.ref ba) (.ref am) (.int (0 : Int32)) (.int (0 : Int32)) .null .null (.int (0 : Int32)) .null .null (.long (0 : Int64))), (sa, .inr (.long, [(.long x0), (.long x1), (.long x2), (.long x3)])), (ba, .inr (.int, [(.int (0 : Int32)), (.int (1 : Int32)), (.int (2 : Int32)), (.int (3 : Int32))])), (me, .inr (.int, (List.replicate 64 (.int (0 : Int32))))), (ki, .inr (.byte, (List.replicate 16 (.int (0 : Int32))))), (am, .inr (.long, [(.long x0), (.long x1), (.long x2), (.long (0 : Int64))]))]) rfl
  refine g_iinc w d3_66 69 rfl rfl (by decide) #[.val (.ref t), .val (.ref sa), .val (.ref ba), .val (.long sp), .second, .val (.int mo), .val (.int (3 : Int32)), .unset, .unset, .unset, .unset, .unset] rfl ?_
  refine g_goto w d3_69 44 (by decide) (by decide) ?_
  refine g_iload w d3_44 rfl 46 rfl ?_
  refine g_aloadN w d3_46 rfl rfl 47 rfl ?_
  refine g_getf w d3_47 0 rfl 2 rfl 24 rfl Via.refl 50 rfl (fun T w => ?_)
  refine g_icmp_ge w d3_50 72 (by decide) (by decide) 53 rfl (fun h => absurd (by decide) h) (fun hc50 => ?_)
  refine g_aloadN w d3_53 rfl rfl 54 rfl ?_
  refine g_getf w d3_54 0 rfl 4 rfl 28 rfl Via.refl 57 rfl (fun T w => ?_)
  refine g_iload w d3_57 rfl 59 rfl ?_
  refine g_aloadN w d3_59 rfl rfl 60 rfl ?_
  refine g_aloadN w d3_60 rfl rfl 61 rfl ?_
  refine g_iload w d3_61 rfl 63 rfl ?_
  refine g_iaload w d3_63 2 rfl 3 (by decide) rfl 64 rfl ?_
  refine g_laload w d3_64 1 rfl 3 (by decide) rfl 65 rfl ?_
  refine g_lastore w d3_65 5 rfl 3 (by decide) (Nat.le_of_ble_eq_true rfl) (.long x3) rfl 66 rfl (fun T w => ?_)
  replace w := w.to (L' := [(t, O_SmallGroups (.ref me) (.ref ki) (.int (4 : Int32)) (.ref ba) (.ref am) (.int (0 : Int32)) (.int (0 : Int32)) .null .null (.int (0 : Int32)) .null .null (.long (0 : Int64))), (sa, .inr (.long, [(.long x0), (.long x1), (.long x2), (.long x3)])), (ba, .inr (.int, [(.int (0 : Int32)), (.int (1 : Int32)), (.int (2 : Int32)), (.int (3 : Int32))])), (me, .inr (.int, (List.replicate 64 (.int (0 : Int32))))), (ki, .inr (.byte, (List.replicate 16 (.int (0 : Int32))))), (am, .inr (.long, [(.long x0), (.long x1), (.long x2), (.long x3)]))]) rfl
  refine g_iinc w d3_66 69 rfl rfl (by decide) #[.val (.ref t), .val (.ref sa), .val (.ref ba), .val (.long sp), .second, .val (.int mo), .val (.int (4 : Int32)), .unset, .unset, .unset, .unset, .unset] rfl ?_
  refine g_goto w d3_69 44 (by decide) (by decide) ?_
  refine g_iload w d3_44 rfl 46 rfl ?_
  refine g_aloadN w d3_46 rfl rfl 47 rfl ?_
  refine g_getf w d3_47 0 rfl 2 rfl 24 rfl Via.refl 50 rfl (fun T w => ?_)
  refine g_icmp_ge w d3_50 72 (by decide) (by decide) 53 rfl (fun hc50 => ?_) (fun h => absurd h (by decide))
  refine g_aloadN w d3_72 rfl rfl 73 rfl ?_
  refine g_iload w d3_73 rfl 75 rfl ?_
  refine g_putf w d3_75 0 rfl 5 rfl 30 rfl Via.refl 31 (Or.inr ⟨rfl, rfl, rfl⟩) 9 rfl (ty := .int) (by decide) rfl rfl 78 rfl (fun T w => ?_)
  replace w := w.to (L' := [(t, O_SmallGroups (.ref me) (.ref ki) (.int (4 : Int32)) (.ref ba) (.ref am) (.int mo) (.int (0 : Int32)) .null .null (.int (0 : Int32)) .null .null (.long (0 : Int64))), (sa, .inr (.long, [(.long x0), (.long x1), (.long x2), (.long x3)])), (ba, .inr (.int, [(.int (0 : Int32)), (.int (1 : Int32)), (.int (2 : Int32)), (.int (3 : Int32))])), (me, .inr (.int, (List.replicate 64 (.int (0 : Int32))))), (ki, .inr (.byte, (List.replicate 16 (.int (0 : Int32))))), (am, .inr (.long, [(.long x0), (.long x1), (.long x2), (.long x3)]))]) rfl
  refine g_aloadN w d3_78 rfl rfl 79 rfl ?_
  refine g_getf w d3_79 0 rfl 2 rfl 24 rfl Via.refl 82 rfl (fun T w => ?_)
  refine g_i2l w d3_82 83 rfl ?_
  refine g_long (x' := (4 : Int64)) (by decide) ?_
  refine g_aloadN w d3_83 rfl rfl 84 rfl ?_
  refine g_getf w d3_84 0 rfl 2 rfl 24 rfl Via.refl 87 rfl (fun T w => ?_)
  refine g_i2l w d3_87 88 rfl ?_
  refine g_long (x' := (4 : Int64)) (by decide) ?_
  refine g_lmul w d3_88 89 rfl ?_
  refine g_long (x' := (16 : Int64)) (by decide) ?_
  refine g_lstore w d3_89 91 rfl rfl #[.val (.ref t), .val (.ref sa), .val (.ref ba), .val (.long sp), .second, .val (.int mo), .val (.long (16 : Int64)), .second, .unset, .unset, .unset, .unset] rfl ?_
  refine g_iconst w d3_91 (2 : Int32) rfl 92 rfl ?_
  refine g_istore w d3_92 94 rfl rfl #[.val (.ref t), .val (.ref sa), .val (.ref ba), .val (.long sp), .second, .val (.int mo), .val (.long (16 : Int64)), .second, .val (.int (2 : Int32)), .unset, .unset, .unset] rfl ?_
  replace w := w.to (L' := [(t, O_SmallGroups (.ref me) (.ref ki) (.int (4 : Int32)) (.ref ba) (.ref am) (.int mo) (.int (0 : Int32)) .null .null (.int (0 : Int32)) .null .null (.long (0 : Int64))), (sa, .inr (.long, [(.long x0), (.long x1), (.long x2), (.long x3)])), (ba, .inr (.int, [(.int (0 : Int32)), (.int (1 : Int32)), (.int (2 : Int32)), (.int (3 : Int32))])), (me, .inr (.int, (List.replicate 64 (.int (0 : Int32))))), (ki, .inr (.byte, (List.replicate 16 (.int (0 : Int32))))), (am, .inr (.long, [(.long x0), (.long x1), (.long x2), (.long x3)]))]) rfl
  have J145 : ∀ (T : State) (up ct : Int32) (c : Nat) (ms ks : List Value) (ls : Int64), ct.toInt = (c : Int) → c ≤ M → own_G c ms ks → own_up sp M x0 x1 x2 x3 up → Wd p l e ({ frames := 4, cells := 18, slots := 164, locals := 78 } : Room) s m #[(.ref t), (.ref sa), (.ref ba), (.long sp), (.int mo)] below meth cde Z a0 n0 kb tables_1 (⟨"com/example/cangdan/cangdan/fewest/SmallGroups", "<init>", "([J[IJI)V"⟩ : MethodName) prog_29_method_1_code 12 none T ([(t, O_SmallGroups (.ref me) (.ref ki) (.int (4 : Int32)) (.ref ba) (.ref am) (.int mo) (.int (0 : Int32)) .null .null (.int ct) .null .null (.long ls)), (sa, .inr (.long, [(.long x0), (.long x1), (.long x2), (.long x3)])), (ba, .inr (.int, [(.int (0 : Int32)), (.int (1 : Int32)), (.int (2 : Int32)), (.int (3 : Int32))])), (me, .inr (.int, ms)), (ki, .inr (.byte, ks)), (am, .inr (.long, [(.long x0), (.long x1), (.long x2), (.long x3)]))]) 13 100 → Go p e below Z n0 kb (EndN s ({ frames := 4, cells := 18, slots := 164, locals := 78 } : Room).cells ({ frames := 4, cells := 18, slots := 164, locals := 78 } : Room).slots) (fun v L' => v = none ∧ ∃ (up : Int32) (f0 f1 f2 f3 f4 f5 f7 f8 f9 f10 f11 f12 : Value), own_up sp M x0 x1 x2 x3 up ∧ L' = [(t, O_SmallGroups f0 f1 f2 f3 f4 f5 (.int up) f7 f8 f9 f10 f11 f12)]) T (mkF m 145 #[.val (.ref t), .val (.ref sa), .val (.ref ba), .val (.long sp), .second, .val (.int mo), .val (.long (16 : Int64)), .second, .val (.int up), .unset, .unset, .unset] []) := by
    intro T up ct c ms ks ls hct hcM hG hup w
    refine g_aloadN w d3_145 rfl rfl 146 rfl ?_
    refine g_iload w d3_146 rfl 148 rfl ?_
    refine g_putf w d3_148 0 rfl 6 rfl 33 rfl Via.refl 34 (Or.inr ⟨rfl, rfl, rfl⟩) 9 rfl (ty := .int) (by decide) rfl rfl 151 rfl (fun T w => ?_)
    replace w := w.to (L' := [(t, O_SmallGroups (.ref me) (.ref ki) (.int (4 : Int32)) (.ref ba) (.ref am) (.int mo) (.int up) .null .null (.int ct) .null .null (.long ls)), (sa, .inr (.long, [(.long x0), (.long x1), (.long x2), (.long x3)])), (ba, .inr (.int, [(.int (0 : Int32)), (.int (1 : Int32)), (.int (2 : Int32)), (.int (3 : Int32))])), (me, .inr (.int, ms)), (ki, .inr (.byte, ks)), (am, .inr (.long, [(.long x0), (.long x1), (.long x2), (.long x3)]))]) rfl
    refine g_aloadN w d3_151 rfl rfl 152 rfl ?_
    refine g_aloadN w d3_152 rfl rfl 153 rfl ?_
    refine g_getf w d3_153 0 rfl 2 rfl 24 rfl Via.refl 156 rfl (fun T w => ?_)
    refine g_iconst w d3_156 (1 : Int32) rfl 157 rfl ?_
    refine g_iadd w d3_157 158 rfl ?_
    refine g_int (x' := (5 : Int32)) (by decide) ?_
    refine g_newarr w d3_158 12 rfl 5 5 (by decide) (by decide) (by decide) [(.int (0 : Int32)), (.int (0 : Int32)), (.int (0 : Int32)), (.int (0 : Int32)), (.int (0 : Int32))] rfl (by decide) (by decide) 160 rfl (fun T sr w => ?_)
    replace w := w.to (L' := [(t, O_SmallGroups (.ref me) (.ref ki) (.int (4 : Int32)) (.ref ba) (.ref am) (.int mo) (.int up) .null .null (.int ct) .null .null (.long ls)), (sa, .inr (.long, [(.long x0), (.long x1), (.long x2), (.long x3)])), (ba, .inr (.int, [(.int (0 : Int32)), (.int (1 : Int32)), (.int (2 : Int32)), (.int (3 : Int32))])), (me, .inr (.int, ms)), (ki, .inr (.byte, ks)), (am, .inr (.long, [(.long x0), (.long x1), (.long x2), (.long x3)])), (sr, .inr (.int, [(.int (0 : Int32)), (.int (0 : Int32)), (.int (0 : Int32)), (.int (0 : Int32)), (.int (0 : Int32))]))]) rfl
    refine g_putf w d3_160 0 rfl 7 rfl 35 rfl Via.refl 36 (Or.inr ⟨rfl, rfl, rfl⟩) 9 rfl (ty := (.array .int)) (by decide) rfl rfl 163 rfl (fun T w => ?_)
    replace w := w.to (L' := [(t, O_SmallGroups (.ref me) (.ref ki) (.int (4 : Int32)) (.ref ba) (.ref am) (.int mo) (.int up) (.ref sr) .null (.int ct) .null .null (.long ls)), (sa, .inr (.long, [(.long x0), (.long x1), (.long x2), (.long x3)])), (ba, .inr (.int, [(.int (0 : Int32)), (.int (1 : Int32)), (.int (2 : Int32)), (.int (3 : Int32))])), (me, .inr (.int, ms)), (ki, .inr (.byte, ks)), (am, .inr (.long, [(.long x0), (.long x1), (.long x2), (.long x3)])), (sr, .inr (.int, [(.int (0 : Int32)), (.int (0 : Int32)), (.int (0 : Int32)), (.int (0 : Int32)), (.int (0 : Int32))]))]) rfl
    refine g_aloadN w d3_163 rfl rfl 164 rfl ?_
    refine g_iconst w d3_164 (5 : Int32) rfl 165 rfl ?_
    refine g_aloadN w d3_165 rfl rfl 166 rfl ?_
    refine g_getf w d3_166 0 rfl 2 rfl 24 rfl Via.refl 169 rfl (fun T w => ?_)
    refine g_imul w d3_169 170 rfl ?_
    refine g_int (x' := (20 : Int32)) (by decide) ?_
    refine g_newarr w d3_170 12 rfl 20 20 (by decide) (by decide) (by decide) (List.replicate 20 (.int (0 : Int32))) rfl (by decide) (by decide) 172 rfl (fun T ho w => ?_)
    replace w := w.to (L' := [(t, O_SmallGroups (.ref me) (.ref ki) (.int (4 : Int32)) (.ref ba) (.ref am) (.int mo) (.int up) (.ref sr) .null (.int ct) .null .null (.long ls)), (sa, .inr (.long, [(.long x0), (.long x1), (.long x2), (.long x3)])), (ba, .inr (.int, [(.int (0 : Int32)), (.int (1 : Int32)), (.int (2 : Int32)), (.int (3 : Int32))])), (me, .inr (.int, ms)), (ki, .inr (.byte, ks)), (am, .inr (.long, [(.long x0), (.long x1), (.long x2), (.long x3)])), (sr, .inr (.int, [(.int (0 : Int32)), (.int (0 : Int32)), (.int (0 : Int32)), (.int (0 : Int32)), (.int (0 : Int32))])), (ho, .inr (.int, (List.replicate 20 (.int (0 : Int32)))))]) rfl
    refine g_putf w d3_172 0 rfl 8 rfl 37 rfl Via.refl 38 (Or.inr ⟨rfl, rfl, rfl⟩) 9 rfl (ty := (.array .int)) (by decide) rfl rfl 175 rfl (fun T w => ?_)
    replace w := w.to (L' := [(t, O_SmallGroups (.ref me) (.ref ki) (.int (4 : Int32)) (.ref ba) (.ref am) (.int mo) (.int up) (.ref sr) (.ref ho) (.int ct) .null .null (.long ls)), (sa, .inr (.long, [(.long x0), (.long x1), (.long x2), (.long x3)])), (ba, .inr (.int, [(.int (0 : Int32)), (.int (1 : Int32)), (.int (2 : Int32)), (.int (3 : Int32))])), (me, .inr (.int, ms)), (ki, .inr (.byte, ks)), (am, .inr (.long, [(.long x0), (.long x1), (.long x2), (.long x3)])), (sr, .inr (.int, [(.int (0 : Int32)), (.int (0 : Int32)), (.int (0 : Int32)), (.int (0 : Int32)), (.int (0 : Int32))])), (ho, .inr (.int, (List.replicate 20 (.int (0 : Int32)))))]) rfl
    refine g_iconst w d3_175 (0 : Int32) rfl 176 rfl ?_
    refine g_istore w d3_176 178 rfl rfl #[.val (.ref t), .val (.ref sa), .val (.ref ba), .val (.long sp), .second, .val (.int mo), .val (.long (16 : Int64)), .second, .val (.int up), .val (.int (0 : Int32)), .unset, .unset] rfl ?_
    have LA : ∀ (d : Nat) (T : State) (gi : Int32) (g : Nat) (hv : List Value) (s10 : Slot), gi.toInt = (g : Int) → g + d = c → own_ok hv → (s10 = .unset ∨ ∃ z, s10 = .val (.int z)) → Wd p l e ({ frames := 4, cells := 18, slots := 164, locals := 78 } : Room) s m #[(.ref t), (.ref sa), (.ref ba), (.long sp), (.int mo)] below meth cde Z a0 n0 kb tables_1 (⟨"com/example/cangdan/cangdan/fewest/SmallGroups", "<init>", "([J[IJI)V"⟩ : MethodName) prog_29_method_1_code 12 none T ([(t, O_SmallGroups (.ref me) (.ref ki) (.int (4 : Int32)) (.ref ba) (.ref am) (.int mo) (.int up) (.ref sr) (.ref ho) (.int ct) .null .null (.long ls)), (sa, .inr (.long, [(.long x0), (.long x1), (.long x2), (.long x3)])), (ba, .inr (.int, [(.int (0 : Int32)), (.int (1 : Int32)), (.int (2 : Int32)), (.int (3 : Int32))])), (me, .inr (.int, ms)), (ki, .inr (.byte, ks)), (am, .inr (.long, [(.long x0), (.long x1), (.long x2), (.long x3)])), (sr, .inr (.int, (own_S ms (4 * g)))), (ho, .inr (.int, hv))]) (13 + 1 + 1) (100 + 5 + 20) → Go p e below Z n0 kb (EndN s ({ frames := 4, cells := 18, slots := 164, locals := 78 } : Room).cells ({ frames := 4, cells := 18, slots := 164, locals := 78 } : Room).slots) (fun v L' => v = none ∧ ∃ (up : Int32) (f0 f1 f2 f3 f4 f5 f7 f8 f9 f10 f11 f12 : Value), own_up sp M x0 x1 x2 x3 up ∧ L' = [(t, O_SmallGroups f0 f1 f2 f3 f4 f5 (.int up) f7 f8 f9 f10 f11 f12)]) T (mkF m 178 #[.val (.ref t), .val (.ref sa), .val (.ref ba), .val (.long sp), .second, .val (.int mo), .val (.long (16 : Int64)), .second, .val (.int up), .val (.int gi), s10, .unset] []) := by
      intro d
      induction d with
      | zero =>
        intro T gi g hv s10 hgi hgd hok_hv hs10 w
        have hgc : g = c := by omega
        refine g_iload w d3_178 rfl 180 rfl ?_
        refine g_aloadN w d3_180 rfl rfl 181 rfl ?_
        refine g_getf w d3_181 0 rfl 9 rfl 39 rfl Via.refl 184 rfl (fun T w => ?_)
        refine g_icmp_ge w d3_184 265 (by decide) (by decide) 187 rfl (fun hc184 => ?_) (fun h => absurd h (fun q => by have := (own_ltN hgi hct).mp q; omega))
        obtain ⟨s0, hs0⟩ : ∃ own_z, own_z = Int32.ofNat (own_n ms 0 (4 * c)) := ⟨_, rfl⟩
        obtain ⟨s1, hs1⟩ : ∃ own_z, own_z = Int32.ofNat (own_n ms 1 (4 * c)) := ⟨_, rfl⟩
        obtain ⟨s2, hs2⟩ : ∃ own_z, own_z = Int32.ofNat (own_n ms 2 (4 * c)) := ⟨_, rfl⟩
        obtain ⟨s3, hs3⟩ : ∃ own_z, own_z = Int32.ofNat (own_n ms 3 (4 * c)) := ⟨_, rfl⟩
        replace w := w.to (L' := [(t, O_SmallGroups (.ref me) (.ref ki) (.int (4 : Int32)) (.ref ba) (.ref am) (.int mo) (.int up) (.ref sr) (.ref ho) (.int ct) .null .null (.long ls)), (sa, .inr (.long, [(.long x0), (.long x1), (.long x2), (.long x3)])), (ba, .inr (.int, [(.int (0 : Int32)), (.int (1 : Int32)), (.int (2 : Int32)), (.int (3 : Int32))])), (me, .inr (.int, ms)), (ki, .inr (.byte, ks)), (am, .inr (.long, [(.long x0), (.long x1), (.long x2), (.long x3)])), (sr, .inr (.int, [(.int (0 : Int32)), (.int s0), (.int s1), (.int s2), (.int s3)])), (ho, .inr (.int, hv))]) (by rw [hs0, hs1, hs2, hs3, hgc]; rfl)
        refine g_iconst w d3_265 (0 : Int32) rfl 266 rfl ?_
        refine g_istore w d3_266 268 rfl rfl #[.val (.ref t), .val (.ref sa), .val (.ref ba), .val (.long sp), .second, .val (.int mo), .val (.long (16 : Int64)), .second, .val (.int up), .val (.int (0 : Int32)), s10, .unset] rfl ?_
        refine g_iload w d3_268 rfl 270 rfl ?_
        refine g_aloadN w d3_270 rfl rfl 271 rfl ?_
        refine g_getf w d3_271 0 rfl 2 rfl 24 rfl Via.refl 274 rfl (fun T w => ?_)
        refine g_icmp_ge w d3_274 302 (by decide) (by decide) 277 rfl (fun h => absurd (by decide) h) (fun hc274 => ?_)
        refine g_aloadN w d3_277 rfl rfl 278 rfl ?_
        refine g_getf w d3_278 0 rfl 7 rfl 35 rfl Via.refl 281 rfl (fun T w => ?_)
        refine g_iload w d3_281 rfl 283 rfl ?_
        refine g_iconst w d3_283 (1 : Int32) rfl 284 rfl ?_
        refine g_iadd w d3_284 285 rfl ?_
        refine g_int (x' := (1 : Int32)) (by decide) ?_
        refine g_dup2 w d3_285 rfl rfl 286 rfl ?_
        refine g_iaload w d3_286 6 rfl 1 (by decide) rfl 287 rfl ?_
        refine g_aloadN w d3_287 rfl rfl 288 rfl ?_
        refine g_getf w d3_288 0 rfl 7 rfl 35 rfl Via.refl 291 rfl (fun T w => ?_)
        refine g_iload w d3_291 rfl 293 rfl ?_
        refine g_iaload w d3_293 6 rfl 0 (by decide) rfl 294 rfl ?_
        refine g_iadd w d3_294 295 rfl ?_
        obtain ⟨v1, hv1⟩ : ∃ own_z, own_z = ((s0 + (0 : Int32)) : Int32) := ⟨_, rfl⟩
        refine g_int hv1.symm ?_
        refine g_iastore w d3_295 6 rfl 1 (by decide) (Nat.le_of_ble_eq_true rfl) (.int v1) rfl 296 rfl (fun T w => ?_)
        replace w := w.to (L' := [(t, O_SmallGroups (.ref me) (.ref ki) (.int (4 : Int32)) (.ref ba) (.ref am) (.int mo) (.int up) (.ref sr) (.ref ho) (.int ct) .null .null (.long ls)), (sa, .inr (.long, [(.long x0), (.long x1), (.long x2), (.long x3)])), (ba, .inr (.int, [(.int (0 : Int32)), (.int (1 : Int32)), (.int (2 : Int32)), (.int (3 : Int32))])), (me, .inr (.int, ms)), (ki, .inr (.byte, ks)), (am, .inr (.long, [(.long x0), (.long x1), (.long x2), (.long x3)])), (sr, .inr (.int, [(.int (0 : Int32)), (.int v1), (.int s1), (.int s2), (.int s3)])), (ho, .inr (.int, hv))]) rfl
        refine g_iinc w d3_296 299 rfl rfl (by decide) #[.val (.ref t), .val (.ref sa), .val (.ref ba), .val (.long sp), .second, .val (.int mo), .val (.long (16 : Int64)), .second, .val (.int up), .val (.int (1 : Int32)), s10, .unset] rfl ?_
        refine g_goto w d3_299 268 (by decide) (by decide) ?_
        refine g_iload w d3_268 rfl 270 rfl ?_
        refine g_aloadN w d3_270 rfl rfl 271 rfl ?_
        refine g_getf w d3_271 0 rfl 2 rfl 24 rfl Via.refl 274 rfl (fun T w => ?_)
        refine g_icmp_ge w d3_274 302 (by decide) (by decide) 277 rfl (fun h => absurd (by decide) h) (fun hc274 => ?_)
        refine g_aloadN w d3_277 rfl rfl 278 rfl ?_
        refine g_getf w d3_278 0 rfl 7 rfl 35 rfl Via.refl 281 rfl (fun T w => ?_)
        refine g_iload w d3_281 rfl 283 rfl ?_
        refine g_iconst w d3_283 (1 : Int32) rfl 284 rfl ?_
        refine g_iadd w d3_284 285 rfl ?_
        refine g_int (x' := (2 : Int32)) (by decide) ?_
        refine g_dup2 w d3_285 rfl rfl 286 rfl ?_
        refine g_iaload w d3_286 6 rfl 2 (by decide) rfl 287 rfl ?_
        refine g_aloadN w d3_287 rfl rfl 288 rfl ?_
        refine g_getf w d3_288 0 rfl 7 rfl 35 rfl Via.refl 291 rfl (fun T w => ?_)
        refine g_iload w d3_291 rfl 293 rfl ?_
        refine g_iaload w d3_293 6 rfl 1 (by decide) rfl 294 rfl ?_
        refine g_iadd w d3_294 295 rfl ?_
        obtain ⟨v2, hv2⟩ : ∃ own_z, own_z = ((s1 + v1) : Int32) := ⟨_, rfl⟩
        refine g_int hv2.symm ?_
        refine g_iastore w d3_295 6 rfl 2 (by decide) (Nat.le_of_ble_eq_true rfl) (.int v2) rfl 296 rfl (fun T w => ?_)
        replace w := w.to (L' := [(t, O_SmallGroups (.ref me) (.ref ki) (.int (4 : Int32)) (.ref ba) (.ref am) (.int mo) (.int up) (.ref sr) (.ref ho) (.int ct) .null .null (.long ls)), (sa, .inr (.long, [(.long x0), (.long x1), (.long x2), (.long x3)])), (ba, .inr (.int, [(.int (0 : Int32)), (.int (1 : Int32)), (.int (2 : Int32)), (.int (3 : Int32))])), (me, .inr (.int, ms)), (ki, .inr (.byte, ks)), (am, .inr (.long, [(.long x0), (.long x1), (.long x2), (.long x3)])), (sr, .inr (.int, [(.int (0 : Int32)), (.int v1), (.int v2), (.int s2), (.int s3)])), (ho, .inr (.int, hv))]) rfl
        refine g_iinc w d3_296 299 rfl rfl (by decide) #[.val (.ref t), .val (.ref sa), .val (.ref ba), .val (.long sp), .second, .val (.int mo), .val (.long (16 : Int64)), .second, .val (.int up), .val (.int (2 : Int32)), s10, .unset] rfl ?_
        refine g_goto w d3_299 268 (by decide) (by decide) ?_
        refine g_iload w d3_268 rfl 270 rfl ?_
        refine g_aloadN w d3_270 rfl rfl 271 rfl ?_
        refine g_getf w d3_271 0 rfl 2 rfl 24 rfl Via.refl 274 rfl (fun T w => ?_)
        refine g_icmp_ge w d3_274 302 (by decide) (by decide) 277 rfl (fun h => absurd (by decide) h) (fun hc274 => ?_)
        refine g_aloadN w d3_277 rfl rfl 278 rfl ?_
        refine g_getf w d3_278 0 rfl 7 rfl 35 rfl Via.refl 281 rfl (fun T w => ?_)
        refine g_iload w d3_281 rfl 283 rfl ?_
        refine g_iconst w d3_283 (1 : Int32) rfl 284 rfl ?_
        refine g_iadd w d3_284 285 rfl ?_
        refine g_int (x' := (3 : Int32)) (by decide) ?_
        refine g_dup2 w d3_285 rfl rfl 286 rfl ?_
        refine g_iaload w d3_286 6 rfl 3 (by decide) rfl 287 rfl ?_
        refine g_aloadN w d3_287 rfl rfl 288 rfl ?_
        refine g_getf w d3_288 0 rfl 7 rfl 35 rfl Via.refl 291 rfl (fun T w => ?_)
        refine g_iload w d3_291 rfl 293 rfl ?_
        refine g_iaload w d3_293 6 rfl 2 (by decide) rfl 294 rfl ?_
        refine g_iadd w d3_294 295 rfl ?_
        obtain ⟨v3, hv3⟩ : ∃ own_z, own_z = ((s2 + v2) : Int32) := ⟨_, rfl⟩
        refine g_int hv3.symm ?_
        refine g_iastore w d3_295 6 rfl 3 (by decide) (Nat.le_of_ble_eq_true rfl) (.int v3) rfl 296 rfl (fun T w => ?_)
        replace w := w.to (L' := [(t, O_SmallGroups (.ref me) (.ref ki) (.int (4 : Int32)) (.ref ba) (.ref am) (.int mo) (.int up) (.ref sr) (.ref ho) (.int ct) .null .null (.long ls)), (sa, .inr (.long, [(.long x0), (.long x1), (.long x2), (.long x3)])), (ba, .inr (.int, [(.int (0 : Int32)), (.int (1 : Int32)), (.int (2 : Int32)), (.int (3 : Int32))])), (me, .inr (.int, ms)), (ki, .inr (.byte, ks)), (am, .inr (.long, [(.long x0), (.long x1), (.long x2), (.long x3)])), (sr, .inr (.int, [(.int (0 : Int32)), (.int v1), (.int v2), (.int v3), (.int s3)])), (ho, .inr (.int, hv))]) rfl
        refine g_iinc w d3_296 299 rfl rfl (by decide) #[.val (.ref t), .val (.ref sa), .val (.ref ba), .val (.long sp), .second, .val (.int mo), .val (.long (16 : Int64)), .second, .val (.int up), .val (.int (3 : Int32)), s10, .unset] rfl ?_
        refine g_goto w d3_299 268 (by decide) (by decide) ?_
        refine g_iload w d3_268 rfl 270 rfl ?_
        refine g_aloadN w d3_270 rfl rfl 271 rfl ?_
        refine g_getf w d3_271 0 rfl 2 rfl 24 rfl Via.refl 274 rfl (fun T w => ?_)
        refine g_icmp_ge w d3_274 302 (by decide) (by decide) 277 rfl (fun h => absurd (by decide) h) (fun hc274 => ?_)
        refine g_aloadN w d3_277 rfl rfl 278 rfl ?_
        refine g_getf w d3_278 0 rfl 7 rfl 35 rfl Via.refl 281 rfl (fun T w => ?_)
        refine g_iload w d3_281 rfl 283 rfl ?_
        refine g_iconst w d3_283 (1 : Int32) rfl 284 rfl ?_
        refine g_iadd w d3_284 285 rfl ?_
        refine g_int (x' := (4 : Int32)) (by decide) ?_
        refine g_dup2 w d3_285 rfl rfl 286 rfl ?_
        refine g_iaload w d3_286 6 rfl 4 (by decide) rfl 287 rfl ?_
        refine g_aloadN w d3_287 rfl rfl 288 rfl ?_
        refine g_getf w d3_288 0 rfl 7 rfl 35 rfl Via.refl 291 rfl (fun T w => ?_)
        refine g_iload w d3_291 rfl 293 rfl ?_
        refine g_iaload w d3_293 6 rfl 3 (by decide) rfl 294 rfl ?_
        refine g_iadd w d3_294 295 rfl ?_
        obtain ⟨v4, hv4⟩ : ∃ own_z, own_z = ((s3 + v3) : Int32) := ⟨_, rfl⟩
        refine g_int hv4.symm ?_
        refine g_iastore w d3_295 6 rfl 4 (by decide) (Nat.le_of_ble_eq_true rfl) (.int v4) rfl 296 rfl (fun T w => ?_)
        replace w := w.to (L' := [(t, O_SmallGroups (.ref me) (.ref ki) (.int (4 : Int32)) (.ref ba) (.ref am) (.int mo) (.int up) (.ref sr) (.ref ho) (.int ct) .null .null (.long ls)), (sa, .inr (.long, [(.long x0), (.long x1), (.long x2), (.long x3)])), (ba, .inr (.int, [(.int (0 : Int32)), (.int (1 : Int32)), (.int (2 : Int32)), (.int (3 : Int32))])), (me, .inr (.int, ms)), (ki, .inr (.byte, ks)), (am, .inr (.long, [(.long x0), (.long x1), (.long x2), (.long x3)])), (sr, .inr (.int, [(.int (0 : Int32)), (.int v1), (.int v2), (.int v3), (.int v4)])), (ho, .inr (.int, hv))]) rfl
        refine g_iinc w d3_296 299 rfl rfl (by decide) #[.val (.ref t), .val (.ref sa), .val (.ref ba), .val (.long sp), .second, .val (.int mo), .val (.long (16 : Int64)), .second, .val (.int up), .val (.int (4 : Int32)), s10, .unset] rfl ?_
        refine g_goto w d3_299 268 (by decide) (by decide) ?_
        refine g_iload w d3_268 rfl 270 rfl ?_
        refine g_aloadN w d3_270 rfl rfl 271 rfl ?_
        refine g_getf w d3_271 0 rfl 2 rfl 24 rfl Via.refl 274 rfl (fun T w => ?_)
        refine g_icmp_ge w d3_274 302 (by decide) (by decide) 277 rfl (fun hc274 => ?_) (fun h => absurd h (by decide))
        have b1 : v1 = Int32.ofNat (own_b ms (4 * c) 1) := by rw [hv1]; exact own_bs (j := 0) rfl hs0
        have b2 : v2 = Int32.ofNat (own_b ms (4 * c) 2) := by rw [hv2]; exact own_bs (j := 1) b1 hs1
        have b3 : v3 = Int32.ofNat (own_b ms (4 * c) 3) := by rw [hv3]; exact own_bs (j := 2) b2 hs2
        have b4 : v4 = Int32.ofNat (own_b ms (4 * c) 4) := by rw [hv4]; exact own_bs (j := 3) b3 hs3
        have hb4 := own_b4 ms (4 * c)
        have t4 : v4.toInt = ((own_b ms (4 * c) 4 : Nat) : Int) := by rw [b4]; exact own_nat (by omega)
        refine g_aloadN w d3_302 rfl rfl 303 rfl ?_
        refine g_aloadN w d3_303 rfl rfl 304 rfl ?_
        refine g_getf w d3_304 0 rfl 7 rfl 35 rfl Via.refl 307 rfl (fun T w => ?_)
        refine g_aloadN w d3_307 rfl rfl 308 rfl ?_
        refine g_getf w d3_308 0 rfl 2 rfl 24 rfl Via.refl 311 rfl (fun T w => ?_)
        refine g_iaload w d3_311 6 rfl 4 (by decide) rfl 312 rfl ?_
        refine g_newarr w d3_312 12 rfl (own_b ms (4 * c) 4) 28 t4 (by omega) (by decide) (List.replicate (own_b ms (4 * c) 4) (.int (0 : Int32))) rfl (by decide) (by decide) 314 rfl (fun T go w => ?_)
        replace w := w.to (L' := [(t, O_SmallGroups (.ref me) (.ref ki) (.int (4 : Int32)) (.ref ba) (.ref am) (.int mo) (.int up) (.ref sr) (.ref ho) (.int ct) .null .null (.long ls)), (sa, .inr (.long, [(.long x0), (.long x1), (.long x2), (.long x3)])), (ba, .inr (.int, [(.int (0 : Int32)), (.int (1 : Int32)), (.int (2 : Int32)), (.int (3 : Int32))])), (me, .inr (.int, ms)), (ki, .inr (.byte, ks)), (am, .inr (.long, [(.long x0), (.long x1), (.long x2), (.long x3)])), (sr, .inr (.int, [(.int (0 : Int32)), (.int v1), (.int v2), (.int v3), (.int v4)])), (ho, .inr (.int, hv)), (go, .inr (.int, (List.replicate (own_b ms (4 * c) 4) (.int (0 : Int32)))))]) rfl
        refine g_putf w d3_314 0 rfl 10 rfl 41 rfl Via.refl 42 (Or.inr ⟨rfl, rfl, rfl⟩) 9 rfl (ty := (.array .int)) (by decide) rfl rfl 317 rfl (fun T w => ?_)
        replace w := w.to (L' := [(t, O_SmallGroups (.ref me) (.ref ki) (.int (4 : Int32)) (.ref ba) (.ref am) (.int mo) (.int up) (.ref sr) (.ref ho) (.int ct) (.ref go) .null (.long ls)), (sa, .inr (.long, [(.long x0), (.long x1), (.long x2), (.long x3)])), (ba, .inr (.int, [(.int (0 : Int32)), (.int (1 : Int32)), (.int (2 : Int32)), (.int (3 : Int32))])), (me, .inr (.int, ms)), (ki, .inr (.byte, ks)), (am, .inr (.long, [(.long x0), (.long x1), (.long x2), (.long x3)])), (sr, .inr (.int, [(.int (0 : Int32)), (.int v1), (.int v2), (.int v3), (.int v4)])), (ho, .inr (.int, hv)), (go, .inr (.int, (List.replicate (own_b ms (4 * c) 4) (.int (0 : Int32)))))]) rfl
        refine g_aloadN w d3_317 rfl rfl 318 rfl ?_
        refine g_getf w d3_318 0 rfl 7 rfl 35 rfl Via.refl 321 rfl (fun T w => ?_)
        refine g_aloadN w d3_321 rfl rfl 322 rfl ?_
        refine g_getf w d3_322 0 rfl 2 rfl 24 rfl Via.refl 325 rfl (fun T w => ?_)
        refine g_static w (argsL := [(.ref sr), (.int (4 : Int32))]) (rest := []) (rm5 l Z a0 hw n0 [(t, O_SmallGroups (.ref me) (.ref ki) (.int (4 : Int32)) (.ref ba) (.ref am) (.int mo) (.int up) (.ref sr) (.ref ho) (.int ct) (.ref go) .null (.long ls)), (sa, .inr (.long, [(.long x0), (.long x1), (.long x2), (.long x3)])), (ba, .inr (.int, [(.int (0 : Int32)), (.int (1 : Int32)), (.int (2 : Int32)), (.int (3 : Int32))])), (me, .inr (.int, ms)), (ki, .inr (.byte, ks)), (am, .inr (.long, [(.long x0), (.long x1), (.long x2), (.long x3)])), (sr, .inr (.int, [(.int (0 : Int32)), (.int v1), (.int v2), (.int v3), (.int v4)])), (ho, .inr (.int, hv)), (go, .inr (.int, (List.replicate (own_b ms (4 * c) 4) (.int (0 : Int32)))))] sr 6 (0 : Int32) v1 v2 v3 v4 rfl) d3_325 43 rfl 44 rfl 45 rfl 46 rfl ⟨by decide, by decide⟩ pd_3 rfl rfl rfl 0 rfl (by decide) (by decide) (by decide) (by decide) 328 rfl (fun T v L w h => ?_)
        obtain ⟨nx, rfl, hL⟩ := h
        replace w := w.to hL
        replace w := w.to (L' := [(t, O_SmallGroups (.ref me) (.ref ki) (.int (4 : Int32)) (.ref ba) (.ref am) (.int mo) (.int up) (.ref sr) (.ref ho) (.int ct) (.ref go) .null (.long ls)), (sa, .inr (.long, [(.long x0), (.long x1), (.long x2), (.long x3)])), (ba, .inr (.int, [(.int (0 : Int32)), (.int (1 : Int32)), (.int (2 : Int32)), (.int (3 : Int32))])), (me, .inr (.int, ms)), (ki, .inr (.byte, ks)), (am, .inr (.long, [(.long x0), (.long x1), (.long x2), (.long x3)])), (sr, .inr (.int, [(.int (0 : Int32)), (.int v1), (.int v2), (.int v3), (.int v4)])), (ho, .inr (.int, hv)), (go, .inr (.int, (List.replicate (own_b ms (4 * c) 4) (.int (0 : Int32))))), (nx, .inr (.int, [(.int (0 : Int32)), (.int v1), (.int v2), (.int v3)]))]) rfl
        refine g_astore w d3_328 330 rfl rfl #[.val (.ref t), .val (.ref sa), .val (.ref ba), .val (.long sp), .second, .val (.int mo), .val (.long (16 : Int64)), .second, .val (.int up), .val (.ref nx), s10, .unset] rfl ?_
        refine g_iconst w d3_330 (0 : Int32) rfl 331 rfl ?_
        refine g_istore w d3_331 333 rfl rfl #[.val (.ref t), .val (.ref sa), .val (.ref ba), .val (.long sp), .second, .val (.int mo), .val (.long (16 : Int64)), .second, .val (.int up), .val (.ref nx), .val (.int (0 : Int32)), .unset] (by rcases hs10 with rfl | ⟨z, rfl⟩ <;> rfl) ?_
        have LB : ∀ (d : Nat) (T : State) (gi : Int32) (g : Nat) (gs : List Value) (s11 : Slot), gi.toInt = (g : Int) → g + d = c → gs.length = own_b ms (4 * c) 4 → (s11 = .unset ∨ ∃ z, s11 = .val (.int z)) → Wd p l e ({ frames := 4, cells := 18, slots := 164, locals := 78 } : Room) s m #[(.ref t), (.ref sa), (.ref ba), (.long sp), (.int mo)] below meth cde Z a0 n0 kb tables_1 (⟨"com/example/cangdan/cangdan/fewest/SmallGroups", "<init>", "([J[IJI)V"⟩ : MethodName) prog_29_method_1_code 12 none T ([(t, O_SmallGroups (.ref me) (.ref ki) (.int (4 : Int32)) (.ref ba) (.ref am) (.int mo) (.int up) (.ref sr) (.ref ho) (.int ct) (.ref go) .null (.long ls)), (sa, .inr (.long, [(.long x0), (.long x1), (.long x2), (.long x3)])), (ba, .inr (.int, [(.int (0 : Int32)), (.int (1 : Int32)), (.int (2 : Int32)), (.int (3 : Int32))])), (me, .inr (.int, ms)), (ki, .inr (.byte, ks)), (am, .inr (.long, [(.long x0), (.long x1), (.long x2), (.long x3)])), (sr, .inr (.int, [(.int (0 : Int32)), (.int v1), (.int v2), (.int v3), (.int v4)])), (ho, .inr (.int, hv)), (go, .inr (.int, gs)), (nx, .inr (.int, (own_X ms (4 * c) (4 * g))))]) (13 + 1 + 1 + 1 + 1) (100 + 5 + 20 + 28 + 4) → Go p e below Z n0 kb (EndN s ({ frames := 4, cells := 18, slots := 164, locals := 78 } : Room).cells ({ frames := 4, cells := 18, slots := 164, locals := 78 } : Room).slots) (fun v L' => v = none ∧ ∃ (up : Int32) (f0 f1 f2 f3 f4 f5 f7 f8 f9 f10 f11 f12 : Value), own_up sp M x0 x1 x2 x3 up ∧ L' = [(t, O_SmallGroups f0 f1 f2 f3 f4 f5 (.int up) f7 f8 f9 f10 f11 f12)]) T (mkF m 333 #[.val (.ref t), .val (.ref sa), .val (.ref ba), .val (.long sp), .second, .val (.int mo), .val (.long (16 : Int64)), .second, .val (.int up), .val (.ref nx), .val (.int gi), s11] []) := by
          intro d
          induction d with
          | zero =>
            intro T gi g gs s11 hgi hgd hlen_gs hs11 w
            refine g_iload w d3_333 rfl 335 rfl ?_
            refine g_aloadN w d3_335 rfl rfl 336 rfl ?_
            refine g_getf w d3_336 0 rfl 9 rfl 39 rfl Via.refl 339 rfl (fun T w => ?_)
            refine g_icmp_ge w d3_339 398 (by decide) (by decide) 342 rfl (fun hc339 => ?_) (fun h => absurd h (fun q => by have := (own_ltN hgi hct).mp q; omega))
            refine g_aloadN w d3_398 rfl rfl 399 rfl ?_
            refine g_aloadN w d3_399 rfl rfl 400 rfl ?_
            refine g_getf w d3_400 0 rfl 9 rfl 39 rfl Via.refl 403 rfl (fun T w => ?_)
            refine g_newarr w d3_403 12 rfl c 7 hct (by omega) (by decide) (List.replicate c (.int (0 : Int32))) rfl (by decide) (by decide) 405 rfl (fun T gn w => ?_)
            replace w := w.to (L' := [(t, O_SmallGroups (.ref me) (.ref ki) (.int (4 : Int32)) (.ref ba) (.ref am) (.int mo) (.int up) (.ref sr) (.ref ho) (.int ct) (.ref go) .null (.long ls)), (sa, .inr (.long, [(.long x0), (.long x1), (.long x2), (.long x3)])), (ba, .inr (.int, [(.int (0 : Int32)), (.int (1 : Int32)), (.int (2 : Int32)), (.int (3 : Int32))])), (me, .inr (.int, ms)), (ki, .inr (.byte, ks)), (am, .inr (.long, [(.long x0), (.long x1), (.long x2), (.long x3)])), (sr, .inr (.int, [(.int (0 : Int32)), (.int v1), (.int v2), (.int v3), (.int v4)])), (ho, .inr (.int, hv)), (go, .inr (.int, gs)), (nx, .inr (.int, (own_X ms (4 * c) (4 * g)))), (gn, .inr (.int, (List.replicate c (.int (0 : Int32)))))]) rfl
            refine g_putf w d3_405 0 rfl 11 rfl 55 rfl Via.refl 56 (Or.inr ⟨rfl, rfl, rfl⟩) 9 rfl (ty := (.array .int)) (by decide) rfl rfl 408 rfl (fun T w => ?_)
            replace w := w.to (L' := [(t, O_SmallGroups (.ref me) (.ref ki) (.int (4 : Int32)) (.ref ba) (.ref am) (.int mo) (.int up) (.ref sr) (.ref ho) (.int ct) (.ref go) (.ref gn) (.long ls)), (sa, .inr (.long, [(.long x0), (.long x1), (.long x2), (.long x3)])), (ba, .inr (.int, [(.int (0 : Int32)), (.int (1 : Int32)), (.int (2 : Int32)), (.int (3 : Int32))])), (me, .inr (.int, ms)), (ki, .inr (.byte, ks)), (am, .inr (.long, [(.long x0), (.long x1), (.long x2), (.long x3)])), (sr, .inr (.int, [(.int (0 : Int32)), (.int v1), (.int v2), (.int v3), (.int v4)])), (ho, .inr (.int, hv)), (go, .inr (.int, gs)), (nx, .inr (.int, (own_X ms (4 * c) (4 * g)))), (gn, .inr (.int, (List.replicate c (.int (0 : Int32)))))]) rfl
            refine g_aloadN w d3_408 rfl rfl 409 rfl ?_
            refine g_dup w d3_409 rfl 410 rfl ?_
            refine g_getf w d3_410 0 rfl 12 rfl 57 rfl Via.refl 413 rfl (fun T w => ?_)
            refine g_ldcl w d3_413 32 rfl 416 rfl ?_
            refine g_aloadN w d3_416 rfl rfl 417 rfl ?_
            refine g_getf w d3_417 0 rfl 10 rfl 41 rfl Via.refl 420 rfl (fun T w => ?_)
            refine g_alen w d3_420 8 rfl (Int32.ofNat (own_b ms (4 * c) 4)) (by rw [hlen_gs]; exact own_nat (by omega)) 421 rfl ?_
            refine g_i2l w d3_421 422 rfl ?_
            refine g_lmul w d3_422 423 rfl ?_
            refine g_ladd w d3_423 424 rfl ?_
            obtain ⟨v5, hv5⟩ : ∃ own_z, own_z = ((ls + ((2 : Int64) * ((Int32.ofNat (own_b ms (4 * c) 4)).toInt64))) : Int64) := ⟨_, rfl⟩
            refine g_long hv5.symm ?_
            refine g_putf w d3_424 0 rfl 12 rfl 57 rfl Via.refl 58 (Or.inl rfl) 9 rfl (ty := .long) (by decide) rfl rfl 427 rfl (fun T w => ?_)
            replace w := w.to (L' := [(t, O_SmallGroups (.ref me) (.ref ki) (.int (4 : Int32)) (.ref ba) (.ref am) (.int mo) (.int up) (.ref sr) (.ref ho) (.int ct) (.ref go) (.ref gn) (.long v5)), (sa, .inr (.long, [(.long x0), (.long x1), (.long x2), (.long x3)])), (ba, .inr (.int, [(.int (0 : Int32)), (.int (1 : Int32)), (.int (2 : Int32)), (.int (3 : Int32))])), (me, .inr (.int, ms)), (ki, .inr (.byte, ks)), (am, .inr (.long, [(.long x0), (.long x1), (.long x2), (.long x3)])), (sr, .inr (.int, [(.int (0 : Int32)), (.int v1), (.int v2), (.int v3), (.int v4)])), (ho, .inr (.int, hv)), (go, .inr (.int, gs)), (nx, .inr (.int, (own_X ms (4 * c) (4 * g)))), (gn, .inr (.int, (List.replicate c (.int (0 : Int32)))))]) rfl
            replace w := w.cut (L' := [(t, O_SmallGroups (.ref me) (.ref ki) (.int (4 : Int32)) (.ref ba) (.ref am) (.int mo) (.int up) (.ref sr) (.ref ho) (.int ct) (.ref go) (.ref gn) (.long v5))]) (R' := [(sa, .inr (.long, [(.long x0), (.long x1), (.long x2), (.long x3)])), (ba, .inr (.int, [(.int (0 : Int32)), (.int (1 : Int32)), (.int (2 : Int32)), (.int (3 : Int32))])), (me, .inr (.int, ms)), (ki, .inr (.byte, ks)), (am, .inr (.long, [(.long x0), (.long x1), (.long x2), (.long x3)])), (sr, .inr (.int, [(.int (0 : Int32)), (.int v1), (.int v2), (.int v3), (.int v4)])), (ho, .inr (.int, hv)), (go, .inr (.int, gs)), (nx, .inr (.int, (own_X ms (4 * c) (4 * g)))), (gn, .inr (.int, (List.replicate c (.int (0 : Int32)))))]) rfl
            exact g_ret w d3_427 (by decide) (by decide) ⟨rfl, up, _, _, _, _, _, _, _, _, _, _, _, _, hup, rfl⟩
          | succ d ih =>
            intro T gi g gs s11 hgi hgd hlen_gs hs11 w
            refine g_iload w d3_333 rfl 335 rfl ?_
            refine g_aloadN w d3_335 rfl rfl 336 rfl ?_
            refine g_getf w d3_336 0 rfl 9 rfl 39 rfl Via.refl 339 rfl (fun T w => ?_)
            refine g_icmp_ge w d3_339 398 (by decide) (by decide) 342 rfl (fun h => absurd ((own_ltN hgi hct).mpr (by omega)) h) (fun hc339 => ?_)
            obtain ⟨z0, j0, hz0, hj0, hl0⟩ := own_mem (q := 4 * g) hG (by omega) (by omega)
            obtain ⟨z1, j1, hz1, hj1, hl1⟩ := own_mem (q := 4 * g + 1) hG (by omega) (by omega)
            obtain ⟨z2, j2, hz2, hj2, hl2⟩ := own_mem (q := 4 * g + 1 + 1) hG (by omega) (by omega)
            obtain ⟨z3, hz3, hz⟩ := own_mem3 (q := 4 * g + 1 + 1 + 1) hG (by omega)
            obtain ⟨kz, kk, hkz, hkk, hl5⟩ := own_kd (g := g) hG (by omega)
            rcases hz with ⟨hzn, hzm⟩ | ⟨hzn, j3, hj3, hl3⟩
            · -- pc 342 3 items
              refine g_iconst w d3_342 (4 : Int32) rfl 343 rfl ?_
              refine g_iload w d3_343 rfl 345 rfl ?_
              refine g_imul w d3_345 346 rfl ?_
              obtain ⟨ap, hap⟩ : ∃ own_z, own_z = (((4 : Int32) * gi) : Int32) := ⟨_, rfl⟩
              have hap' : ap.toInt = ((4 * g : Nat) : Int) := by rw [hap]; exact own_mul4 hgi (by omega)
              refine g_istore w d3_346 348 rfl hap.symm #[.val (.ref t), .val (.ref sa), .val (.ref ba), .val (.long sp), .second, .val (.int mo), .val (.long (16 : Int64)), .second, .val (.int up), .val (.ref nx), .val (.int gi), .val (.int ap)] (by rcases hs11 with rfl | ⟨z, rfl⟩ <;> rfl) ?_
              refine g_iload w d3_348 rfl 350 rfl ?_
              refine g_iconst w d3_350 (4 : Int32) rfl 351 rfl ?_
              refine g_iload w d3_351 rfl 353 rfl ?_
              refine g_imul w d3_353 354 rfl ?_
              refine g_aloadN w d3_354 rfl rfl 355 rfl ?_
              refine g_iload w d3_355 rfl 357 rfl ?_
              refine g_priv w (argsL := [(.int gi)]) (rest := [(.int ((4 : Int32) * gi)), (.int ap)]) (rm13 l Z a0 hw n0 t me ms (.ref ki) (.int (4 : Int32)) (.ref ba) (.ref am) (.int mo) (.int up) (.ref sr) (.ref ho) (.int ct) (.ref go) .null (.long ls) [(t, O_SmallGroups (.ref me) (.ref ki) (.int (4 : Int32)) (.ref ba) (.ref am) (.int mo) (.int up) (.ref sr) (.ref ho) (.int ct) (.ref go) .null (.long ls)), (sa, .inr (.long, [(.long x0), (.long x1), (.long x2), (.long x3)])), (ba, .inr (.int, [(.int (0 : Int32)), (.int (1 : Int32)), (.int (2 : Int32)), (.int (3 : Int32))])), (me, .inr (.int, ms)), (ki, .inr (.byte, ks)), (am, .inr (.long, [(.long x0), (.long x1), (.long x2), (.long x3)])), (sr, .inr (.int, [(.int (0 : Int32)), (.int v1), (.int v2), (.int v3), (.int v4)])), (ho, .inr (.int, hv)), (go, .inr (.int, gs)), (nx, .inr (.int, (own_X ms (4 * c) (4 * g))))] 0 3 g gi z3 rfl rfl hgi (by omega) hz3) d3_357 0 rfl 84 rfl 85 rfl 10 rfl 87 rfl 86 rfl 9 rfl ⟨by decide, by decide⟩ pd_4 rfl rfl rfl 2 rfl (by decide) (by decide) (by decide) (by decide) 360 rfl (fun T v L w h => ?_)
              obtain ⟨rfl, hL⟩ := h
              replace w := w.to hL
              refine g_int (x' := (3 : Int32)) (if_pos hzn) ?_
              refine g_iadd w d3_360 361 rfl ?_
              refine g_icmp_ge w d3_361 392 (by decide) (by decide) 364 rfl (fun h => absurd ((own_ltN hap' (own_add3 (own_mul4 hgi (by omega)) (by omega))).mpr (by omega)) h) (fun hc361 => ?_)
              refine g_aloadN w d3_364 rfl rfl 365 rfl ?_
              refine g_getf w d3_365 0 rfl 10 rfl 41 rfl Via.refl 368 rfl (fun T w => ?_)
              refine g_aload w d3_368 rfl rfl 370 rfl ?_
              refine g_aloadN w d3_370 rfl rfl 371 rfl ?_
              refine g_getf w d3_371 0 rfl 0 rfl 19 rfl Via.refl 374 rfl (fun T w => ?_)
              refine g_iload w d3_374 rfl 376 rfl ?_
              refine g_iaload w d3_376 3 rfl (4 * g) hap' hz0 377 rfl ?_
              refine g_dup2 w d3_377 rfl rfl 378 rfl ?_
              refine g_iaload w d3_378 9 rfl j0 hj0 (own_X_get hl0) 379 rfl ?_
              refine g_dup_x2 w d3_379 rfl rfl rfl 380 rfl ?_
              refine g_iconst w d3_380 (1 : Int32) rfl 381 rfl ?_
              refine g_iadd w d3_381 382 rfl ?_
              refine g_iastore w d3_382 9 rfl j0 hj0 (show j0 < 4 from hl0) (.int ((Int32.ofNat (own_b ms (4 * c) j0 + own_n ms j0 (4 * g))) + 1)) rfl 383 rfl (fun T w => ?_)
              replace w := w.to (L' := [(t, O_SmallGroups (.ref me) (.ref ki) (.int (4 : Int32)) (.ref ba) (.ref am) (.int mo) (.int up) (.ref sr) (.ref ho) (.int ct) (.ref go) .null (.long ls)), (sa, .inr (.long, [(.long x0), (.long x1), (.long x2), (.long x3)])), (ba, .inr (.int, [(.int (0 : Int32)), (.int (1 : Int32)), (.int (2 : Int32)), (.int (3 : Int32))])), (me, .inr (.int, ms)), (ki, .inr (.byte, ks)), (am, .inr (.long, [(.long x0), (.long x1), (.long x2), (.long x3)])), (sr, .inr (.int, [(.int (0 : Int32)), (.int v1), (.int v2), (.int v3), (.int v4)])), (ho, .inr (.int, hv)), (go, .inr (.int, gs)), (nx, .inr (.int, ((own_X ms (4 * c) (4 * g)).set j0 (.int ((Int32.ofNat (own_b ms (4 * c) j0 + own_n ms j0 (4 * g))) + 1)))))]) rfl
              replace w := w.to (L' := [(t, O_SmallGroups (.ref me) (.ref ki) (.int (4 : Int32)) (.ref ba) (.ref am) (.int mo) (.int up) (.ref sr) (.ref ho) (.int ct) (.ref go) .null (.long ls)), (sa, .inr (.long, [(.long x0), (.long x1), (.long x2), (.long x3)])), (ba, .inr (.int, [(.int (0 : Int32)), (.int (1 : Int32)), (.int (2 : Int32)), (.int (3 : Int32))])), (me, .inr (.int, ms)), (ki, .inr (.byte, ks)), (am, .inr (.long, [(.long x0), (.long x1), (.long x2), (.long x3)])), (sr, .inr (.int, [(.int (0 : Int32)), (.int v1), (.int v2), (.int v3), (.int v4)])), (ho, .inr (.int, hv)), (go, .inr (.int, gs)), (nx, .inr (.int, (own_X ms (4 * c) (4 * g + 1))))]) (by rw [own_X_set hz0 hj0 hl0])
              refine g_iload w d3_383 rfl 385 rfl ?_
              have hlt0 := own_b_lt (C := 4 * c) hz0 hj0 hl0 (by omega)
              refine g_iastore w d3_385 8 rfl (own_b ms (4 * c) j0 + own_n ms j0 (4 * g)) (own_nat (by omega)) (by rw [hlen_gs]; exact hlt0) (.int gi) rfl 386 rfl (fun T w => ?_)
              replace w := w.to (L' := [(t, O_SmallGroups (.ref me) (.ref ki) (.int (4 : Int32)) (.ref ba) (.ref am) (.int mo) (.int up) (.ref sr) (.ref ho) (.int ct) (.ref go) .null (.long ls)), (sa, .inr (.long, [(.long x0), (.long x1), (.long x2), (.long x3)])), (ba, .inr (.int, [(.int (0 : Int32)), (.int (1 : Int32)), (.int (2 : Int32)), (.int (3 : Int32))])), (me, .inr (.int, ms)), (ki, .inr (.byte, ks)), (am, .inr (.long, [(.long x0), (.long x1), (.long x2), (.long x3)])), (sr, .inr (.int, [(.int (0 : Int32)), (.int v1), (.int v2), (.int v3), (.int v4)])), (ho, .inr (.int, hv)), (go, .inr (.int, (gs.set (own_b ms (4 * c) j0 + own_n ms j0 (4 * g)) (.int gi)))), (nx, .inr (.int, (own_X ms (4 * c) (4 * g + 1))))]) rfl
              obtain ⟨gs6, hgs6⟩ : ∃ own_z, own_z = (gs.set (own_b ms (4 * c) j0 + own_n ms j0 (4 * g)) (.int gi)) := ⟨_, rfl⟩
              have hlen_gs6 : gs6.length = own_b ms (4 * c) 4 := by rw [hgs6, List.length_set]; exact hlen_gs
              replace w := w.to (L' := [(t, O_SmallGroups (.ref me) (.ref ki) (.int (4 : Int32)) (.ref ba) (.ref am) (.int mo) (.int up) (.ref sr) (.ref ho) (.int ct) (.ref go) .null (.long ls)), (sa, .inr (.long, [(.long x0), (.long x1), (.long x2), (.long x3)])), (ba, .inr (.int, [(.int (0 : Int32)), (.int (1 : Int32)), (.int (2 : Int32)), (.int (3 : Int32))])), (me, .inr (.int, ms)), (ki, .inr (.byte, ks)), (am, .inr (.long, [(.long x0), (.long x1), (.long x2), (.long x3)])), (sr, .inr (.int, [(.int (0 : Int32)), (.int v1), (.int v2), (.int v3), (.int v4)])), (ho, .inr (.int, hv)), (go, .inr (.int, gs6)), (nx, .inr (.int, (own_X ms (4 * c) (4 * g + 1))))]) (by rw [hgs6])
              refine g_iinc w d3_386 389 rfl rfl rfl #[.val (.ref t), .val (.ref sa), .val (.ref ba), .val (.long sp), .second, .val (.int mo), .val (.long (16 : Int64)), .second, .val (.int up), .val (.ref nx), .val (.int gi), .val (.int (ap + (1 : Int32)))] rfl ?_
              refine g_goto w d3_389 348 (by decide) (by decide) ?_
              refine g_iload w d3_348 rfl 350 rfl ?_
              refine g_iconst w d3_350 (4 : Int32) rfl 351 rfl ?_
              refine g_iload w d3_351 rfl 353 rfl ?_
              refine g_imul w d3_353 354 rfl ?_
              refine g_aloadN w d3_354 rfl rfl 355 rfl ?_
              refine g_iload w d3_355 rfl 357 rfl ?_
              refine g_priv w (argsL := [(.int gi)]) (rest := [(.int ((4 : Int32) * gi)), (.int (ap + (1 : Int32)))]) (rm13 l Z a0 hw n0 t me ms (.ref ki) (.int (4 : Int32)) (.ref ba) (.ref am) (.int mo) (.int up) (.ref sr) (.ref ho) (.int ct) (.ref go) .null (.long ls) [(t, O_SmallGroups (.ref me) (.ref ki) (.int (4 : Int32)) (.ref ba) (.ref am) (.int mo) (.int up) (.ref sr) (.ref ho) (.int ct) (.ref go) .null (.long ls)), (sa, .inr (.long, [(.long x0), (.long x1), (.long x2), (.long x3)])), (ba, .inr (.int, [(.int (0 : Int32)), (.int (1 : Int32)), (.int (2 : Int32)), (.int (3 : Int32))])), (me, .inr (.int, ms)), (ki, .inr (.byte, ks)), (am, .inr (.long, [(.long x0), (.long x1), (.long x2), (.long x3)])), (sr, .inr (.int, [(.int (0 : Int32)), (.int v1), (.int v2), (.int v3), (.int v4)])), (ho, .inr (.int, hv)), (go, .inr (.int, gs6)), (nx, .inr (.int, (own_X ms (4 * c) (4 * g + 1))))] 0 3 g gi z3 rfl rfl hgi (by omega) hz3) d3_357 0 rfl 84 rfl 85 rfl 10 rfl 87 rfl 86 rfl 9 rfl ⟨by decide, by decide⟩ pd_4 rfl rfl rfl 2 rfl (by decide) (by decide) (by decide) (by decide) 360 rfl (fun T v L w h => ?_)
              obtain ⟨rfl, hL⟩ := h
              replace w := w.to hL
              refine g_int (x' := (3 : Int32)) (if_pos hzn) ?_
              refine g_iadd w d3_360 361 rfl ?_
              refine g_icmp_ge w d3_361 392 (by decide) (by decide) 364 rfl (fun h => absurd ((own_ltN (own_inc hap' (by omega)) (own_add3 (own_mul4 hgi (by omega)) (by omega))).mpr (by omega)) h) (fun hc361 => ?_)
              refine g_aloadN w d3_364 rfl rfl 365 rfl ?_
              refine g_getf w d3_365 0 rfl 10 rfl 41 rfl Via.refl 368 rfl (fun T w => ?_)
              refine g_aload w d3_368 rfl rfl 370 rfl ?_
              refine g_aloadN w d3_370 rfl rfl 371 rfl ?_
              refine g_getf w d3_371 0 rfl 0 rfl 19 rfl Via.refl 374 rfl (fun T w => ?_)
              refine g_iload w d3_374 rfl 376 rfl ?_
              refine g_iaload w d3_376 3 rfl (4 * g + 1) (own_inc hap' (by omega)) hz1 377 rfl ?_
              refine g_dup2 w d3_377 rfl rfl 378 rfl ?_
              refine g_iaload w d3_378 9 rfl j1 hj1 (own_X_get hl1) 379 rfl ?_
              refine g_dup_x2 w d3_379 rfl rfl rfl 380 rfl ?_
              refine g_iconst w d3_380 (1 : Int32) rfl 381 rfl ?_
              refine g_iadd w d3_381 382 rfl ?_
              refine g_iastore w d3_382 9 rfl j1 hj1 (show j1 < 4 from hl1) (.int ((Int32.ofNat (own_b ms (4 * c) j1 + own_n ms j1 (4 * g + 1))) + 1)) rfl 383 rfl (fun T w => ?_)
              replace w := w.to (L' := [(t, O_SmallGroups (.ref me) (.ref ki) (.int (4 : Int32)) (.ref ba) (.ref am) (.int mo) (.int up) (.ref sr) (.ref ho) (.int ct) (.ref go) .null (.long ls)), (sa, .inr (.long, [(.long x0), (.long x1), (.long x2), (.long x3)])), (ba, .inr (.int, [(.int (0 : Int32)), (.int (1 : Int32)), (.int (2 : Int32)), (.int (3 : Int32))])), (me, .inr (.int, ms)), (ki, .inr (.byte, ks)), (am, .inr (.long, [(.long x0), (.long x1), (.long x2), (.long x3)])), (sr, .inr (.int, [(.int (0 : Int32)), (.int v1), (.int v2), (.int v3), (.int v4)])), (ho, .inr (.int, hv)), (go, .inr (.int, gs6)), (nx, .inr (.int, ((own_X ms (4 * c) (4 * g + 1)).set j1 (.int ((Int32.ofNat (own_b ms (4 * c) j1 + own_n ms j1 (4 * g + 1))) + 1)))))]) rfl
              replace w := w.to (L' := [(t, O_SmallGroups (.ref me) (.ref ki) (.int (4 : Int32)) (.ref ba) (.ref am) (.int mo) (.int up) (.ref sr) (.ref ho) (.int ct) (.ref go) .null (.long ls)), (sa, .inr (.long, [(.long x0), (.long x1), (.long x2), (.long x3)])), (ba, .inr (.int, [(.int (0 : Int32)), (.int (1 : Int32)), (.int (2 : Int32)), (.int (3 : Int32))])), (me, .inr (.int, ms)), (ki, .inr (.byte, ks)), (am, .inr (.long, [(.long x0), (.long x1), (.long x2), (.long x3)])), (sr, .inr (.int, [(.int (0 : Int32)), (.int v1), (.int v2), (.int v3), (.int v4)])), (ho, .inr (.int, hv)), (go, .inr (.int, gs6)), (nx, .inr (.int, (own_X ms (4 * c) (4 * g + 1 + 1))))]) (by rw [own_X_set hz1 hj1 hl1])
              refine g_iload w d3_383 rfl 385 rfl ?_
              have hlt1 := own_b_lt (C := 4 * c) hz1 hj1 hl1 (by omega)
              refine g_iastore w d3_385 8 rfl (own_b ms (4 * c) j1 + own_n ms j1 (4 * g + 1)) (own_nat (by omega)) (by rw [hlen_gs6]; exact hlt1) (.int gi) rfl 386 rfl (fun T w => ?_)
              replace w := w.to (L' := [(t, O_SmallGroups (.ref me) (.ref ki) (.int (4 : Int32)) (.ref ba) (.ref am) (.int mo) (.int up) (.ref sr) (.ref ho) (.int ct) (.ref go) .null (.long ls)), (sa, .inr (.long, [(.long x0), (.long x1), (.long x2), (.long x3)])), (ba, .inr (.int, [(.int (0 : Int32)), (.int (1 : Int32)), (.int (2 : Int32)), (.int (3 : Int32))])), (me, .inr (.int, ms)), (ki, .inr (.byte, ks)), (am, .inr (.long, [(.long x0), (.long x1), (.long x2), (.long x3)])), (sr, .inr (.int, [(.int (0 : Int32)), (.int v1), (.int v2), (.int v3), (.int v4)])), (ho, .inr (.int, hv)), (go, .inr (.int, (gs6.set (own_b ms (4 * c) j1 + own_n ms j1 (4 * g + 1)) (.int gi)))), (nx, .inr (.int, (own_X ms (4 * c) (4 * g + 1 + 1))))]) rfl
              obtain ⟨gs7, hgs7⟩ : ∃ own_z, own_z = (gs6.set (own_b ms (4 * c) j1 + own_n ms j1 (4 * g + 1)) (.int gi)) := ⟨_, rfl⟩
              have hlen_gs7 : gs7.length = own_b ms (4 * c) 4 := by rw [hgs7, List.length_set]; exact hlen_gs6
              replace w := w.to (L' := [(t, O_SmallGroups (.ref me) (.ref ki) (.int (4 : Int32)) (.ref ba) (.ref am) (.int mo) (.int up) (.ref sr) (.ref ho) (.int ct) (.ref go) .null (.long ls)), (sa, .inr (.long, [(.long x0), (.long x1), (.long x2), (.long x3)])), (ba, .inr (.int, [(.int (0 : Int32)), (.int (1 : Int32)), (.int (2 : Int32)), (.int (3 : Int32))])), (me, .inr (.int, ms)), (ki, .inr (.byte, ks)), (am, .inr (.long, [(.long x0), (.long x1), (.long x2), (.long x3)])), (sr, .inr (.int, [(.int (0 : Int32)), (.int v1), (.int v2), (.int v3), (.int v4)])), (ho, .inr (.int, hv)), (go, .inr (.int, gs7)), (nx, .inr (.int, (own_X ms (4 * c) (4 * g + 1 + 1))))]) (by rw [hgs7])
              refine g_iinc w d3_386 389 rfl rfl rfl #[.val (.ref t), .val (.ref sa), .val (.ref ba), .val (.long sp), .second, .val (.int mo), .val (.long (16 : Int64)), .second, .val (.int up), .val (.ref nx), .val (.int gi), .val (.int ((ap + (1 : Int32)) + (1 : Int32)))] rfl ?_
              refine g_goto w d3_389 348 (by decide) (by decide) ?_
              refine g_iload w d3_348 rfl 350 rfl ?_
              refine g_iconst w d3_350 (4 : Int32) rfl 351 rfl ?_
              refine g_iload w d3_351 rfl 353 rfl ?_
              refine g_imul w d3_353 354 rfl ?_
              refine g_aloadN w d3_354 rfl rfl 355 rfl ?_
              refine g_iload w d3_355 rfl 357 rfl ?_
              refine g_priv w (argsL := [(.int gi)]) (rest := [(.int ((4 : Int32) * gi)), (.int ((ap + (1 : Int32)) + (1 : Int32)))]) (rm13 l Z a0 hw n0 t me ms (.ref ki) (.int (4 : Int32)) (.ref ba) (.ref am) (.int mo) (.int up) (.ref sr) (.ref ho) (.int ct) (.ref go) .null (.long ls) [(t, O_SmallGroups (.ref me) (.ref ki) (.int (4 : Int32)) (.ref ba) (.ref am) (.int mo) (.int up) (.ref sr) (.ref ho) (.int ct) (.ref go) .null (.long ls)), (sa, .inr (.long, [(.long x0), (.long x1), (.long x2), (.long x3)])), (ba, .inr (.int, [(.int (0 : Int32)), (.int (1 : Int32)), (.int (2 : Int32)), (.int (3 : Int32))])), (me, .inr (.int, ms)), (ki, .inr (.byte, ks)), (am, .inr (.long, [(.long x0), (.long x1), (.long x2), (.long x3)])), (sr, .inr (.int, [(.int (0 : Int32)), (.int v1), (.int v2), (.int v3), (.int v4)])), (ho, .inr (.int, hv)), (go, .inr (.int, gs7)), (nx, .inr (.int, (own_X ms (4 * c) (4 * g + 1 + 1))))] 0 3 g gi z3 rfl rfl hgi (by omega) hz3) d3_357 0 rfl 84 rfl 85 rfl 10 rfl 87 rfl 86 rfl 9 rfl ⟨by decide, by decide⟩ pd_4 rfl rfl rfl 2 rfl (by decide) (by decide) (by decide) (by decide) 360 rfl (fun T v L w h => ?_)
              obtain ⟨rfl, hL⟩ := h
              replace w := w.to hL
              refine g_int (x' := (3 : Int32)) (if_pos hzn) ?_
              refine g_iadd w d3_360 361 rfl ?_
              refine g_icmp_ge w d3_361 392 (by decide) (by decide) 364 rfl (fun h => absurd ((own_ltN (own_inc (own_inc hap' (by omega)) (by omega)) (own_add3 (own_mul4 hgi (by omega)) (by omega))).mpr (by omega)) h) (fun hc361 => ?_)
              refine g_aloadN w d3_364 rfl rfl 365 rfl ?_
              refine g_getf w d3_365 0 rfl 10 rfl 41 rfl Via.refl 368 rfl (fun T w => ?_)
              refine g_aload w d3_368 rfl rfl 370 rfl ?_
              refine g_aloadN w d3_370 rfl rfl 371 rfl ?_
              refine g_getf w d3_371 0 rfl 0 rfl 19 rfl Via.refl 374 rfl (fun T w => ?_)
              refine g_iload w d3_374 rfl 376 rfl ?_
              refine g_iaload w d3_376 3 rfl (4 * g + 1 + 1) (own_inc (own_inc hap' (by omega)) (by omega)) hz2 377 rfl ?_
              refine g_dup2 w d3_377 rfl rfl 378 rfl ?_
              refine g_iaload w d3_378 9 rfl j2 hj2 (own_X_get hl2) 379 rfl ?_
              refine g_dup_x2 w d3_379 rfl rfl rfl 380 rfl ?_
              refine g_iconst w d3_380 (1 : Int32) rfl 381 rfl ?_
              refine g_iadd w d3_381 382 rfl ?_
              refine g_iastore w d3_382 9 rfl j2 hj2 (show j2 < 4 from hl2) (.int ((Int32.ofNat (own_b ms (4 * c) j2 + own_n ms j2 (4 * g + 1 + 1))) + 1)) rfl 383 rfl (fun T w => ?_)
              replace w := w.to (L' := [(t, O_SmallGroups (.ref me) (.ref ki) (.int (4 : Int32)) (.ref ba) (.ref am) (.int mo) (.int up) (.ref sr) (.ref ho) (.int ct) (.ref go) .null (.long ls)), (sa, .inr (.long, [(.long x0), (.long x1), (.long x2), (.long x3)])), (ba, .inr (.int, [(.int (0 : Int32)), (.int (1 : Int32)), (.int (2 : Int32)), (.int (3 : Int32))])), (me, .inr (.int, ms)), (ki, .inr (.byte, ks)), (am, .inr (.long, [(.long x0), (.long x1), (.long x2), (.long x3)])), (sr, .inr (.int, [(.int (0 : Int32)), (.int v1), (.int v2), (.int v3), (.int v4)])), (ho, .inr (.int, hv)), (go, .inr (.int, gs7)), (nx, .inr (.int, ((own_X ms (4 * c) (4 * g + 1 + 1)).set j2 (.int ((Int32.ofNat (own_b ms (4 * c) j2 + own_n ms j2 (4 * g + 1 + 1))) + 1)))))]) rfl
              replace w := w.to (L' := [(t, O_SmallGroups (.ref me) (.ref ki) (.int (4 : Int32)) (.ref ba) (.ref am) (.int mo) (.int up) (.ref sr) (.ref ho) (.int ct) (.ref go) .null (.long ls)), (sa, .inr (.long, [(.long x0), (.long x1), (.long x2), (.long x3)])), (ba, .inr (.int, [(.int (0 : Int32)), (.int (1 : Int32)), (.int (2 : Int32)), (.int (3 : Int32))])), (me, .inr (.int, ms)), (ki, .inr (.byte, ks)), (am, .inr (.long, [(.long x0), (.long x1), (.long x2), (.long x3)])), (sr, .inr (.int, [(.int (0 : Int32)), (.int v1), (.int v2), (.int v3), (.int v4)])), (ho, .inr (.int, hv)), (go, .inr (.int, gs7)), (nx, .inr (.int, (own_X ms (4 * c) (4 * g + 1 + 1 + 1))))]) (by rw [own_X_set hz2 hj2 hl2])
              refine g_iload w d3_383 rfl 385 rfl ?_
              have hlt2 := own_b_lt (C := 4 * c) hz2 hj2 hl2 (by omega)
              refine g_iastore w d3_385 8 rfl (own_b ms (4 * c) j2 + own_n ms j2 (4 * g + 1 + 1)) (own_nat (by omega)) (by rw [hlen_gs7]; exact hlt2) (.int gi) rfl 386 rfl (fun T w => ?_)
              replace w := w.to (L' := [(t, O_SmallGroups (.ref me) (.ref ki) (.int (4 : Int32)) (.ref ba) (.ref am) (.int mo) (.int up) (.ref sr) (.ref ho) (.int ct) (.ref go) .null (.long ls)), (sa, .inr (.long, [(.long x0), (.long x1), (.long x2), (.long x3)])), (ba, .inr (.int, [(.int (0 : Int32)), (.int (1 : Int32)), (.int (2 : Int32)), (.int (3 : Int32))])), (me, .inr (.int, ms)), (ki, .inr (.byte, ks)), (am, .inr (.long, [(.long x0), (.long x1), (.long x2), (.long x3)])), (sr, .inr (.int, [(.int (0 : Int32)), (.int v1), (.int v2), (.int v3), (.int v4)])), (ho, .inr (.int, hv)), (go, .inr (.int, (gs7.set (own_b ms (4 * c) j2 + own_n ms j2 (4 * g + 1 + 1)) (.int gi)))), (nx, .inr (.int, (own_X ms (4 * c) (4 * g + 1 + 1 + 1))))]) rfl
              obtain ⟨gs8, hgs8⟩ : ∃ own_z, own_z = (gs7.set (own_b ms (4 * c) j2 + own_n ms j2 (4 * g + 1 + 1)) (.int gi)) := ⟨_, rfl⟩
              have hlen_gs8 : gs8.length = own_b ms (4 * c) 4 := by rw [hgs8, List.length_set]; exact hlen_gs7
              replace w := w.to (L' := [(t, O_SmallGroups (.ref me) (.ref ki) (.int (4 : Int32)) (.ref ba) (.ref am) (.int mo) (.int up) (.ref sr) (.ref ho) (.int ct) (.ref go) .null (.long ls)), (sa, .inr (.long, [(.long x0), (.long x1), (.long x2), (.long x3)])), (ba, .inr (.int, [(.int (0 : Int32)), (.int (1 : Int32)), (.int (2 : Int32)), (.int (3 : Int32))])), (me, .inr (.int, ms)), (ki, .inr (.byte, ks)), (am, .inr (.long, [(.long x0), (.long x1), (.long x2), (.long x3)])), (sr, .inr (.int, [(.int (0 : Int32)), (.int v1), (.int v2), (.int v3), (.int v4)])), (ho, .inr (.int, hv)), (go, .inr (.int, gs8)), (nx, .inr (.int, (own_X ms (4 * c) (4 * g + 1 + 1 + 1))))]) (by rw [hgs8])
              refine g_iinc w d3_386 389 rfl rfl rfl #[.val (.ref t), .val (.ref sa), .val (.ref ba), .val (.long sp), .second, .val (.int mo), .val (.long (16 : Int64)), .second, .val (.int up), .val (.ref nx), .val (.int gi), .val (.int (((ap + (1 : Int32)) + (1 : Int32)) + (1 : Int32)))] rfl ?_
              refine g_goto w d3_389 348 (by decide) (by decide) ?_
              refine g_iload w d3_348 rfl 350 rfl ?_
              refine g_iconst w d3_350 (4 : Int32) rfl 351 rfl ?_
              refine g_iload w d3_351 rfl 353 rfl ?_
              refine g_imul w d3_353 354 rfl ?_
              refine g_aloadN w d3_354 rfl rfl 355 rfl ?_
              refine g_iload w d3_355 rfl 357 rfl ?_
              refine g_priv w (argsL := [(.int gi)]) (rest := [(.int ((4 : Int32) * gi)), (.int (((ap + (1 : Int32)) + (1 : Int32)) + (1 : Int32)))]) (rm13 l Z a0 hw n0 t me ms (.ref ki) (.int (4 : Int32)) (.ref ba) (.ref am) (.int mo) (.int up) (.ref sr) (.ref ho) (.int ct) (.ref go) .null (.long ls) [(t, O_SmallGroups (.ref me) (.ref ki) (.int (4 : Int32)) (.ref ba) (.ref am) (.int mo) (.int up) (.ref sr) (.ref ho) (.int ct) (.ref go) .null (.long ls)), (sa, .inr (.long, [(.long x0), (.long x1), (.long x2), (.long x3)])), (ba, .inr (.int, [(.int (0 : Int32)), (.int (1 : Int32)), (.int (2 : Int32)), (.int (3 : Int32))])), (me, .inr (.int, ms)), (ki, .inr (.byte, ks)), (am, .inr (.long, [(.long x0), (.long x1), (.long x2), (.long x3)])), (sr, .inr (.int, [(.int (0 : Int32)), (.int v1), (.int v2), (.int v3), (.int v4)])), (ho, .inr (.int, hv)), (go, .inr (.int, gs8)), (nx, .inr (.int, (own_X ms (4 * c) (4 * g + 1 + 1 + 1))))] 0 3 g gi z3 rfl rfl hgi (by omega) hz3) d3_357 0 rfl 84 rfl 85 rfl 10 rfl 87 rfl 86 rfl 9 rfl ⟨by decide, by decide⟩ pd_4 rfl rfl rfl 2 rfl (by decide) (by decide) (by decide) (by decide) 360 rfl (fun T v L w h => ?_)
              obtain ⟨rfl, hL⟩ := h
              replace w := w.to hL
              refine g_int (x' := (3 : Int32)) (if_pos hzn) ?_
              refine g_iadd w d3_360 361 rfl ?_
              refine g_icmp_ge w d3_361 392 (by decide) (by decide) 364 rfl (fun hc361 => ?_) (fun h => absurd h (fun q => by have := (own_ltN (own_inc (own_inc (own_inc hap' (by omega)) (by omega)) (by omega)) (own_add3 (own_mul4 hgi (by omega)) (by omega))).mp q; omega))
              refine g_iinc w d3_392 395 rfl rfl rfl #[.val (.ref t), .val (.ref sa), .val (.ref ba), .val (.long sp), .second, .val (.int mo), .val (.long (16 : Int64)), .second, .val (.int up), .val (.ref nx), .val (.int (gi + (1 : Int32))), .val (.int (((ap + (1 : Int32)) + (1 : Int32)) + (1 : Int32)))] rfl ?_
              refine g_goto w d3_395 333 (by decide) (by decide) ?_
              exact ih T (gi + 1) (g + 1) gs8 _ (own_inc hgi (by omega)) (by omega) hlen_gs8 (Or.inr ⟨_, rfl⟩) (w.to (L' := [(t, O_SmallGroups (.ref me) (.ref ki) (.int (4 : Int32)) (.ref ba) (.ref am) (.int mo) (.int up) (.ref sr) (.ref ho) (.int ct) (.ref go) .null (.long ls)), (sa, .inr (.long, [(.long x0), (.long x1), (.long x2), (.long x3)])), (ba, .inr (.int, [(.int (0 : Int32)), (.int (1 : Int32)), (.int (2 : Int32)), (.int (3 : Int32))])), (me, .inr (.int, ms)), (ki, .inr (.byte, ks)), (am, .inr (.long, [(.long x0), (.long x1), (.long x2), (.long x3)])), (sr, .inr (.int, [(.int (0 : Int32)), (.int v1), (.int v2), (.int v3), (.int v4)])), (ho, .inr (.int, hv)), (go, .inr (.int, gs8)), (nx, .inr (.int, (own_X ms (4 * c) (4 * (g + 1)))))]) (by rw [own_X_skip hz3 hzm]; rfl))
            · -- pc 342 4 items
              refine g_iconst w d3_342 (4 : Int32) rfl 343 rfl ?_
              refine g_iload w d3_343 rfl 345 rfl ?_
              refine g_imul w d3_345 346 rfl ?_
              obtain ⟨ap, hap⟩ : ∃ own_z, own_z = (((4 : Int32) * gi) : Int32) := ⟨_, rfl⟩
              have hap' : ap.toInt = ((4 * g : Nat) : Int) := by rw [hap]; exact own_mul4 hgi (by omega)
              refine g_istore w d3_346 348 rfl hap.symm #[.val (.ref t), .val (.ref sa), .val (.ref ba), .val (.long sp), .second, .val (.int mo), .val (.long (16 : Int64)), .second, .val (.int up), .val (.ref nx), .val (.int gi), .val (.int ap)] (by rcases hs11 with rfl | ⟨z, rfl⟩ <;> rfl) ?_
              refine g_iload w d3_348 rfl 350 rfl ?_
              refine g_iconst w d3_350 (4 : Int32) rfl 351 rfl ?_
              refine g_iload w d3_351 rfl 353 rfl ?_
              refine g_imul w d3_353 354 rfl ?_
              refine g_aloadN w d3_354 rfl rfl 355 rfl ?_
              refine g_iload w d3_355 rfl 357 rfl ?_
              refine g_priv w (argsL := [(.int gi)]) (rest := [(.int ((4 : Int32) * gi)), (.int ap)]) (rm13 l Z a0 hw n0 t me ms (.ref ki) (.int (4 : Int32)) (.ref ba) (.ref am) (.int mo) (.int up) (.ref sr) (.ref ho) (.int ct) (.ref go) .null (.long ls) [(t, O_SmallGroups (.ref me) (.ref ki) (.int (4 : Int32)) (.ref ba) (.ref am) (.int mo) (.int up) (.ref sr) (.ref ho) (.int ct) (.ref go) .null (.long ls)), (sa, .inr (.long, [(.long x0), (.long x1), (.long x2), (.long x3)])), (ba, .inr (.int, [(.int (0 : Int32)), (.int (1 : Int32)), (.int (2 : Int32)), (.int (3 : Int32))])), (me, .inr (.int, ms)), (ki, .inr (.byte, ks)), (am, .inr (.long, [(.long x0), (.long x1), (.long x2), (.long x3)])), (sr, .inr (.int, [(.int (0 : Int32)), (.int v1), (.int v2), (.int v3), (.int v4)])), (ho, .inr (.int, hv)), (go, .inr (.int, gs)), (nx, .inr (.int, (own_X ms (4 * c) (4 * g))))] 0 3 g gi z3 rfl rfl hgi (by omega) hz3) d3_357 0 rfl 84 rfl 85 rfl 10 rfl 87 rfl 86 rfl 9 rfl ⟨by decide, by decide⟩ pd_4 rfl rfl rfl 2 rfl (by decide) (by decide) (by decide) (by decide) 360 rfl (fun T v L w h => ?_)
              obtain ⟨rfl, hL⟩ := h
              replace w := w.to hL
              refine g_int (x' := (4 : Int32)) (if_neg hzn) ?_
              refine g_iadd w d3_360 361 rfl ?_
              refine g_icmp_ge w d3_361 392 (by decide) (by decide) 364 rfl (fun h => absurd ((own_ltN hap' (own_add4 (own_mul4 hgi (by omega)) (by omega))).mpr (by omega)) h) (fun hc361 => ?_)
              refine g_aloadN w d3_364 rfl rfl 365 rfl ?_
              refine g_getf w d3_365 0 rfl 10 rfl 41 rfl Via.refl 368 rfl (fun T w => ?_)
              refine g_aload w d3_368 rfl rfl 370 rfl ?_
              refine g_aloadN w d3_370 rfl rfl 371 rfl ?_
              refine g_getf w d3_371 0 rfl 0 rfl 19 rfl Via.refl 374 rfl (fun T w => ?_)
              refine g_iload w d3_374 rfl 376 rfl ?_
              refine g_iaload w d3_376 3 rfl (4 * g) hap' hz0 377 rfl ?_
              refine g_dup2 w d3_377 rfl rfl 378 rfl ?_
              refine g_iaload w d3_378 9 rfl j0 hj0 (own_X_get hl0) 379 rfl ?_
              refine g_dup_x2 w d3_379 rfl rfl rfl 380 rfl ?_
              refine g_iconst w d3_380 (1 : Int32) rfl 381 rfl ?_
              refine g_iadd w d3_381 382 rfl ?_
              refine g_iastore w d3_382 9 rfl j0 hj0 (show j0 < 4 from hl0) (.int ((Int32.ofNat (own_b ms (4 * c) j0 + own_n ms j0 (4 * g))) + 1)) rfl 383 rfl (fun T w => ?_)
              replace w := w.to (L' := [(t, O_SmallGroups (.ref me) (.ref ki) (.int (4 : Int32)) (.ref ba) (.ref am) (.int mo) (.int up) (.ref sr) (.ref ho) (.int ct) (.ref go) .null (.long ls)), (sa, .inr (.long, [(.long x0), (.long x1), (.long x2), (.long x3)])), (ba, .inr (.int, [(.int (0 : Int32)), (.int (1 : Int32)), (.int (2 : Int32)), (.int (3 : Int32))])), (me, .inr (.int, ms)), (ki, .inr (.byte, ks)), (am, .inr (.long, [(.long x0), (.long x1), (.long x2), (.long x3)])), (sr, .inr (.int, [(.int (0 : Int32)), (.int v1), (.int v2), (.int v3), (.int v4)])), (ho, .inr (.int, hv)), (go, .inr (.int, gs)), (nx, .inr (.int, ((own_X ms (4 * c) (4 * g)).set j0 (.int ((Int32.ofNat (own_b ms (4 * c) j0 + own_n ms j0 (4 * g))) + 1)))))]) rfl
              replace w := w.to (L' := [(t, O_SmallGroups (.ref me) (.ref ki) (.int (4 : Int32)) (.ref ba) (.ref am) (.int mo) (.int up) (.ref sr) (.ref ho) (.int ct) (.ref go) .null (.long ls)), (sa, .inr (.long, [(.long x0), (.long x1), (.long x2), (.long x3)])), (ba, .inr (.int, [(.int (0 : Int32)), (.int (1 : Int32)), (.int (2 : Int32)), (.int (3 : Int32))])), (me, .inr (.int, ms)), (ki, .inr (.byte, ks)), (am, .inr (.long, [(.long x0), (.long x1), (.long x2), (.long x3)])), (sr, .inr (.int, [(.int (0 : Int32)), (.int v1), (.int v2), (.int v3), (.int v4)])), (ho, .inr (.int, hv)), (go, .inr (.int, gs)), (nx, .inr (.int, (own_X ms (4 * c) (4 * g + 1))))]) (by rw [own_X_set hz0 hj0 hl0])
              refine g_iload w d3_383 rfl 385 rfl ?_
              have hlt0 := own_b_lt (C := 4 * c) hz0 hj0 hl0 (by omega)
              refine g_iastore w d3_385 8 rfl (own_b ms (4 * c) j0 + own_n ms j0 (4 * g)) (own_nat (by omega)) (by rw [hlen_gs]; exact hlt0) (.int gi) rfl 386 rfl (fun T w => ?_)
              replace w := w.to (L' := [(t, O_SmallGroups (.ref me) (.ref ki) (.int (4 : Int32)) (.ref ba) (.ref am) (.int mo) (.int up) (.ref sr) (.ref ho) (.int ct) (.ref go) .null (.long ls)), (sa, .inr (.long, [(.long x0), (.long x1), (.long x2), (.long x3)])), (ba, .inr (.int, [(.int (0 : Int32)), (.int (1 : Int32)), (.int (2 : Int32)), (.int (3 : Int32))])), (me, .inr (.int, ms)), (ki, .inr (.byte, ks)), (am, .inr (.long, [(.long x0), (.long x1), (.long x2), (.long x3)])), (sr, .inr (.int, [(.int (0 : Int32)), (.int v1), (.int v2), (.int v3), (.int v4)])), (ho, .inr (.int, hv)), (go, .inr (.int, (gs.set (own_b ms (4 * c) j0 + own_n ms j0 (4 * g)) (.int gi)))), (nx, .inr (.int, (own_X ms (4 * c) (4 * g + 1))))]) rfl
              obtain ⟨gs9, hgs9⟩ : ∃ own_z, own_z = (gs.set (own_b ms (4 * c) j0 + own_n ms j0 (4 * g)) (.int gi)) := ⟨_, rfl⟩
              have hlen_gs9 : gs9.length = own_b ms (4 * c) 4 := by rw [hgs9, List.length_set]; exact hlen_gs
              replace w := w.to (L' := [(t, O_SmallGroups (.ref me) (.ref ki) (.int (4 : Int32)) (.ref ba) (.ref am) (.int mo) (.int up) (.ref sr) (.ref ho) (.int ct) (.ref go) .null (.long ls)), (sa, .inr (.long, [(.long x0), (.long x1), (.long x2), (.long x3)])), (ba, .inr (.int, [(.int (0 : Int32)), (.int (1 : Int32)), (.int (2 : Int32)), (.int (3 : Int32))])), (me, .inr (.int, ms)), (ki, .inr (.byte, ks)), (am, .inr (.long, [(.long x0), (.long x1), (.long x2), (.long x3)])), (sr, .inr (.int, [(.int (0 : Int32)), (.int v1), (.int v2), (.int v3), (.int v4)])), (ho, .inr (.int, hv)), (go, .inr (.int, gs9)), (nx, .inr (.int, (own_X ms (4 * c) (4 * g + 1))))]) (by rw [hgs9])
              refine g_iinc w d3_386 389 rfl rfl rfl #[.val (.ref t), .val (.ref sa), .val (.ref ba), .val (.long sp), .second, .val (.int mo), .val (.long (16 : Int64)), .second, .val (.int up), .val (.ref nx), .val (.int gi), .val (.int (ap + (1 : Int32)))] rfl ?_
              refine g_goto w d3_389 348 (by decide) (by decide) ?_
              refine g_iload w d3_348 rfl 350 rfl ?_
              refine g_iconst w d3_350 (4 : Int32) rfl 351 rfl ?_
              refine g_iload w d3_351 rfl 353 rfl ?_
              refine g_imul w d3_353 354 rfl ?_
              refine g_aloadN w d3_354 rfl rfl 355 rfl ?_
              refine g_iload w d3_355 rfl 357 rfl ?_
              refine g_priv w (argsL := [(.int gi)]) (rest := [(.int ((4 : Int32) * gi)), (.int (ap + (1 : Int32)))]) (rm13 l Z a0 hw n0 t me ms (.ref ki) (.int (4 : Int32)) (.ref ba) (.ref am) (.int mo) (.int up) (.ref sr) (.ref ho) (.int ct) (.ref go) .null (.long ls) [(t, O_SmallGroups (.ref me) (.ref ki) (.int (4 : Int32)) (.ref ba) (.ref am) (.int mo) (.int up) (.ref sr) (.ref ho) (.int ct) (.ref go) .null (.long ls)), (sa, .inr (.long, [(.long x0), (.long x1), (.long x2), (.long x3)])), (ba, .inr (.int, [(.int (0 : Int32)), (.int (1 : Int32)), (.int (2 : Int32)), (.int (3 : Int32))])), (me, .inr (.int, ms)), (ki, .inr (.byte, ks)), (am, .inr (.long, [(.long x0), (.long x1), (.long x2), (.long x3)])), (sr, .inr (.int, [(.int (0 : Int32)), (.int v1), (.int v2), (.int v3), (.int v4)])), (ho, .inr (.int, hv)), (go, .inr (.int, gs9)), (nx, .inr (.int, (own_X ms (4 * c) (4 * g + 1))))] 0 3 g gi z3 rfl rfl hgi (by omega) hz3) d3_357 0 rfl 84 rfl 85 rfl 10 rfl 87 rfl 86 rfl 9 rfl ⟨by decide, by decide⟩ pd_4 rfl rfl rfl 2 rfl (by decide) (by decide) (by decide) (by decide) 360 rfl (fun T v L w h => ?_)
              obtain ⟨rfl, hL⟩ := h
              replace w := w.to hL
              refine g_int (x' := (4 : Int32)) (if_neg hzn) ?_
              refine g_iadd w d3_360 361 rfl ?_
              refine g_icmp_ge w d3_361 392 (by decide) (by decide) 364 rfl (fun h => absurd ((own_ltN (own_inc hap' (by omega)) (own_add4 (own_mul4 hgi (by omega)) (by omega))).mpr (by omega)) h) (fun hc361 => ?_)
              refine g_aloadN w d3_364 rfl rfl 365 rfl ?_
              refine g_getf w d3_365 0 rfl 10 rfl 41 rfl Via.refl 368 rfl (fun T w => ?_)
              refine g_aload w d3_368 rfl rfl 370 rfl ?_
              refine g_aloadN w d3_370 rfl rfl 371 rfl ?_
              refine g_getf w d3_371 0 rfl 0 rfl 19 rfl Via.refl 374 rfl (fun T w => ?_)
              refine g_iload w d3_374 rfl 376 rfl ?_
              refine g_iaload w d3_376 3 rfl (4 * g + 1) (own_inc hap' (by omega)) hz1 377 rfl ?_
              refine g_dup2 w d3_377 rfl rfl 378 rfl ?_
              refine g_iaload w d3_378 9 rfl j1 hj1 (own_X_get hl1) 379 rfl ?_
              refine g_dup_x2 w d3_379 rfl rfl rfl 380 rfl ?_
              refine g_iconst w d3_380 (1 : Int32) rfl 381 rfl ?_
              refine g_iadd w d3_381 382 rfl ?_
              refine g_iastore w d3_382 9 rfl j1 hj1 (show j1 < 4 from hl1) (.int ((Int32.ofNat (own_b ms (4 * c) j1 + own_n ms j1 (4 * g + 1))) + 1)) rfl 383 rfl (fun T w => ?_)
              replace w := w.to (L' := [(t, O_SmallGroups (.ref me) (.ref ki) (.int (4 : Int32)) (.ref ba) (.ref am) (.int mo) (.int up) (.ref sr) (.ref ho) (.int ct) (.ref go) .null (.long ls)), (sa, .inr (.long, [(.long x0), (.long x1), (.long x2), (.long x3)])), (ba, .inr (.int, [(.int (0 : Int32)), (.int (1 : Int32)), (.int (2 : Int32)), (.int (3 : Int32))])), (me, .inr (.int, ms)), (ki, .inr (.byte, ks)), (am, .inr (.long, [(.long x0), (.long x1), (.long x2), (.long x3)])), (sr, .inr (.int, [(.int (0 : Int32)), (.int v1), (.int v2), (.int v3), (.int v4)])), (ho, .inr (.int, hv)), (go, .inr (.int, gs9)), (nx, .inr (.int, ((own_X ms (4 * c) (4 * g + 1)).set j1 (.int ((Int32.ofNat (own_b ms (4 * c) j1 + own_n ms j1 (4 * g + 1))) + 1)))))]) rfl
              replace w := w.to (L' := [(t, O_SmallGroups (.ref me) (.ref ki) (.int (4 : Int32)) (.ref ba) (.ref am) (.int mo) (.int up) (.ref sr) (.ref ho) (.int ct) (.ref go) .null (.long ls)), (sa, .inr (.long, [(.long x0), (.long x1), (.long x2), (.long x3)])), (ba, .inr (.int, [(.int (0 : Int32)), (.int (1 : Int32)), (.int (2 : Int32)), (.int (3 : Int32))])), (me, .inr (.int, ms)), (ki, .inr (.byte, ks)), (am, .inr (.long, [(.long x0), (.long x1), (.long x2), (.long x3)])), (sr, .inr (.int, [(.int (0 : Int32)), (.int v1), (.int v2), (.int v3), (.int v4)])), (ho, .inr (.int, hv)), (go, .inr (.int, gs9)), (nx, .inr (.int, (own_X ms (4 * c) (4 * g + 1 + 1))))]) (by rw [own_X_set hz1 hj1 hl1])
              refine g_iload w d3_383 rfl 385 rfl ?_
              have hlt1 := own_b_lt (C := 4 * c) hz1 hj1 hl1 (by omega)
              refine g_iastore w d3_385 8 rfl (own_b ms (4 * c) j1 + own_n ms j1 (4 * g + 1)) (own_nat (by omega)) (by rw [hlen_gs9]; exact hlt1) (.int gi) rfl 386 rfl (fun T w => ?_)
              replace w := w.to (L' := [(t, O_SmallGroups (.ref me) (.ref ki) (.int (4 : Int32)) (.ref ba) (.ref am) (.int mo) (.int up) (.ref sr) (.ref ho) (.int ct) (.ref go) .null (.long ls)), (sa, .inr (.long, [(.long x0), (.long x1), (.long x2), (.long x3)])), (ba, .inr (.int, [(.int (0 : Int32)), (.int (1 : Int32)), (.int (2 : Int32)), (.int (3 : Int32))])), (me, .inr (.int, ms)), (ki, .inr (.byte, ks)), (am, .inr (.long, [(.long x0), (.long x1), (.long x2), (.long x3)])), (sr, .inr (.int, [(.int (0 : Int32)), (.int v1), (.int v2), (.int v3), (.int v4)])), (ho, .inr (.int, hv)), (go, .inr (.int, (gs9.set (own_b ms (4 * c) j1 + own_n ms j1 (4 * g + 1)) (.int gi)))), (nx, .inr (.int, (own_X ms (4 * c) (4 * g + 1 + 1))))]) rfl
              obtain ⟨gs10, hgs10⟩ : ∃ own_z, own_z = (gs9.set (own_b ms (4 * c) j1 + own_n ms j1 (4 * g + 1)) (.int gi)) := ⟨_, rfl⟩
              have hlen_gs10 : gs10.length = own_b ms (4 * c) 4 := by rw [hgs10, List.length_set]; exact hlen_gs9
              replace w := w.to (L' := [(t, O_SmallGroups (.ref me) (.ref ki) (.int (4 : Int32)) (.ref ba) (.ref am) (.int mo) (.int up) (.ref sr) (.ref ho) (.int ct) (.ref go) .null (.long ls)), (sa, .inr (.long, [(.long x0), (.long x1), (.long x2), (.long x3)])), (ba, .inr (.int, [(.int (0 : Int32)), (.int (1 : Int32)), (.int (2 : Int32)), (.int (3 : Int32))])), (me, .inr (.int, ms)), (ki, .inr (.byte, ks)), (am, .inr (.long, [(.long x0), (.long x1), (.long x2), (.long x3)])), (sr, .inr (.int, [(.int (0 : Int32)), (.int v1), (.int v2), (.int v3), (.int v4)])), (ho, .inr (.int, hv)), (go, .inr (.int, gs10)), (nx, .inr (.int, (own_X ms (4 * c) (4 * g + 1 + 1))))]) (by rw [hgs10])
              refine g_iinc w d3_386 389 rfl rfl rfl #[.val (.ref t), .val (.ref sa), .val (.ref ba), .val (.long sp), .second, .val (.int mo), .val (.long (16 : Int64)), .second, .val (.int up), .val (.ref nx), .val (.int gi), .val (.int ((ap + (1 : Int32)) + (1 : Int32)))] rfl ?_
              refine g_goto w d3_389 348 (by decide) (by decide) ?_
              refine g_iload w d3_348 rfl 350 rfl ?_
              refine g_iconst w d3_350 (4 : Int32) rfl 351 rfl ?_
              refine g_iload w d3_351 rfl 353 rfl ?_
              refine g_imul w d3_353 354 rfl ?_
              refine g_aloadN w d3_354 rfl rfl 355 rfl ?_
              refine g_iload w d3_355 rfl 357 rfl ?_
              refine g_priv w (argsL := [(.int gi)]) (rest := [(.int ((4 : Int32) * gi)), (.int ((ap + (1 : Int32)) + (1 : Int32)))]) (rm13 l Z a0 hw n0 t me ms (.ref ki) (.int (4 : Int32)) (.ref ba) (.ref am) (.int mo) (.int up) (.ref sr) (.ref ho) (.int ct) (.ref go) .null (.long ls) [(t, O_SmallGroups (.ref me) (.ref ki) (.int (4 : Int32)) (.ref ba) (.ref am) (.int mo) (.int up) (.ref sr) (.ref ho) (.int ct) (.ref go) .null (.long ls)), (sa, .inr (.long, [(.long x0), (.long x1), (.long x2), (.long x3)])), (ba, .inr (.int, [(.int (0 : Int32)), (.int (1 : Int32)), (.int (2 : Int32)), (.int (3 : Int32))])), (me, .inr (.int, ms)), (ki, .inr (.byte, ks)), (am, .inr (.long, [(.long x0), (.long x1), (.long x2), (.long x3)])), (sr, .inr (.int, [(.int (0 : Int32)), (.int v1), (.int v2), (.int v3), (.int v4)])), (ho, .inr (.int, hv)), (go, .inr (.int, gs10)), (nx, .inr (.int, (own_X ms (4 * c) (4 * g + 1 + 1))))] 0 3 g gi z3 rfl rfl hgi (by omega) hz3) d3_357 0 rfl 84 rfl 85 rfl 10 rfl 87 rfl 86 rfl 9 rfl ⟨by decide, by decide⟩ pd_4 rfl rfl rfl 2 rfl (by decide) (by decide) (by decide) (by decide) 360 rfl (fun T v L w h => ?_)
              obtain ⟨rfl, hL⟩ := h
              replace w := w.to hL
              refine g_int (x' := (4 : Int32)) (if_neg hzn) ?_
              refine g_iadd w d3_360 361 rfl ?_
              refine g_icmp_ge w d3_361 392 (by decide) (by decide) 364 rfl (fun h => absurd ((own_ltN (own_inc (own_inc hap' (by omega)) (by omega)) (own_add4 (own_mul4 hgi (by omega)) (by omega))).mpr (by omega)) h) (fun hc361 => ?_)
              refine g_aloadN w d3_364 rfl rfl 365 rfl ?_
              refine g_getf w d3_365 0 rfl 10 rfl 41 rfl Via.refl 368 rfl (fun T w => ?_)
              refine g_aload w d3_368 rfl rfl 370 rfl ?_
              refine g_aloadN w d3_370 rfl rfl 371 rfl ?_
              refine g_getf w d3_371 0 rfl 0 rfl 19 rfl Via.refl 374 rfl (fun T w => ?_)
              refine g_iload w d3_374 rfl 376 rfl ?_
              refine g_iaload w d3_376 3 rfl (4 * g + 1 + 1) (own_inc (own_inc hap' (by omega)) (by omega)) hz2 377 rfl ?_
              refine g_dup2 w d3_377 rfl rfl 378 rfl ?_
              refine g_iaload w d3_378 9 rfl j2 hj2 (own_X_get hl2) 379 rfl ?_
              refine g_dup_x2 w d3_379 rfl rfl rfl 380 rfl ?_
              refine g_iconst w d3_380 (1 : Int32) rfl 381 rfl ?_
              refine g_iadd w d3_381 382 rfl ?_
              refine g_iastore w d3_382 9 rfl j2 hj2 (show j2 < 4 from hl2) (.int ((Int32.ofNat (own_b ms (4 * c) j2 + own_n ms j2 (4 * g + 1 + 1))) + 1)) rfl 383 rfl (fun T w => ?_)
              replace w := w.to (L' := [(t, O_SmallGroups (.ref me) (.ref ki) (.int (4 : Int32)) (.ref ba) (.ref am) (.int mo) (.int up) (.ref sr) (.ref ho) (.int ct) (.ref go) .null (.long ls)), (sa, .inr (.long, [(.long x0), (.long x1), (.long x2), (.long x3)])), (ba, .inr (.int, [(.int (0 : Int32)), (.int (1 : Int32)), (.int (2 : Int32)), (.int (3 : Int32))])), (me, .inr (.int, ms)), (ki, .inr (.byte, ks)), (am, .inr (.long, [(.long x0), (.long x1), (.long x2), (.long x3)])), (sr, .inr (.int, [(.int (0 : Int32)), (.int v1), (.int v2), (.int v3), (.int v4)])), (ho, .inr (.int, hv)), (go, .inr (.int, gs10)), (nx, .inr (.int, ((own_X ms (4 * c) (4 * g + 1 + 1)).set j2 (.int ((Int32.ofNat (own_b ms (4 * c) j2 + own_n ms j2 (4 * g + 1 + 1))) + 1)))))]) rfl
              replace w := w.to (L' := [(t, O_SmallGroups (.ref me) (.ref ki) (.int (4 : Int32)) (.ref ba) (.ref am) (.int mo) (.int up) (.ref sr) (.ref ho) (.int ct) (.ref go) .null (.long ls)), (sa, .inr (.long, [(.long x0), (.long x1), (.long x2), (.long x3)])), (ba, .inr (.int, [(.int (0 : Int32)), (.int (1 : Int32)), (.int (2 : Int32)), (.int (3 : Int32))])), (me, .inr (.int, ms)), (ki, .inr (.byte, ks)), (am, .inr (.long, [(.long x0), (.long x1), (.long x2), (.long x3)])), (sr, .inr (.int, [(.int (0 : Int32)), (.int v1), (.int v2), (.int v3), (.int v4)])), (ho, .inr (.int, hv)), (go, .inr (.int, gs10)), (nx, .inr (.int, (own_X ms (4 * c) (4 * g + 1 + 1 + 1))))]) (by rw [own_X_set hz2 hj2 hl2])
              refine g_iload w d3_383 rfl 385 rfl ?_
              have hlt2 := own_b_lt (C := 4 * c) hz2 hj2 hl2 (by omega)
              refine g_iastore w d3_385 8 rfl (own_b ms (4 * c) j2 + own_n ms j2 (4 * g + 1 + 1)) (own_nat (by omega)) (by rw [hlen_gs10]; exact hlt2) (.int gi) rfl 386 rfl (fun T w => ?_)
              replace w := w.to (L' := [(t, O_SmallGroups (.ref me) (.ref ki) (.int (4 : Int32)) (.ref ba) (.ref am) (.int mo) (.int up) (.ref sr) (.ref ho) (.int ct) (.ref go) .null (.long ls)), (sa, .inr (.long, [(.long x0), (.long x1), (.long x2), (.long x3)])), (ba, .inr (.int, [(.int (0 : Int32)), (.int (1 : Int32)), (.int (2 : Int32)), (.int (3 : Int32))])), (me, .inr (.int, ms)), (ki, .inr (.byte, ks)), (am, .inr (.long, [(.long x0), (.long x1), (.long x2), (.long x3)])), (sr, .inr (.int, [(.int (0 : Int32)), (.int v1), (.int v2), (.int v3), (.int v4)])), (ho, .inr (.int, hv)), (go, .inr (.int, (gs10.set (own_b ms (4 * c) j2 + own_n ms j2 (4 * g + 1 + 1)) (.int gi)))), (nx, .inr (.int, (own_X ms (4 * c) (4 * g + 1 + 1 + 1))))]) rfl
              obtain ⟨gs11, hgs11⟩ : ∃ own_z, own_z = (gs10.set (own_b ms (4 * c) j2 + own_n ms j2 (4 * g + 1 + 1)) (.int gi)) := ⟨_, rfl⟩
              have hlen_gs11 : gs11.length = own_b ms (4 * c) 4 := by rw [hgs11, List.length_set]; exact hlen_gs10
              replace w := w.to (L' := [(t, O_SmallGroups (.ref me) (.ref ki) (.int (4 : Int32)) (.ref ba) (.ref am) (.int mo) (.int up) (.ref sr) (.ref ho) (.int ct) (.ref go) .null (.long ls)), (sa, .inr (.long, [(.long x0), (.long x1), (.long x2), (.long x3)])), (ba, .inr (.int, [(.int (0 : Int32)), (.int (1 : Int32)), (.int (2 : Int32)), (.int (3 : Int32))])), (me, .inr (.int, ms)), (ki, .inr (.byte, ks)), (am, .inr (.long, [(.long x0), (.long x1), (.long x2), (.long x3)])), (sr, .inr (.int, [(.int (0 : Int32)), (.int v1), (.int v2), (.int v3), (.int v4)])), (ho, .inr (.int, hv)), (go, .inr (.int, gs11)), (nx, .inr (.int, (own_X ms (4 * c) (4 * g + 1 + 1 + 1))))]) (by rw [hgs11])
              refine g_iinc w d3_386 389 rfl rfl rfl #[.val (.ref t), .val (.ref sa), .val (.ref ba), .val (.long sp), .second, .val (.int mo), .val (.long (16 : Int64)), .second, .val (.int up), .val (.ref nx), .val (.int gi), .val (.int (((ap + (1 : Int32)) + (1 : Int32)) + (1 : Int32)))] rfl ?_
              refine g_goto w d3_389 348 (by decide) (by decide) ?_
              refine g_iload w d3_348 rfl 350 rfl ?_
              refine g_iconst w d3_350 (4 : Int32) rfl 351 rfl ?_
              refine g_iload w d3_351 rfl 353 rfl ?_
              refine g_imul w d3_353 354 rfl ?_
              refine g_aloadN w d3_354 rfl rfl 355 rfl ?_
              refine g_iload w d3_355 rfl 357 rfl ?_
              refine g_priv w (argsL := [(.int gi)]) (rest := [(.int ((4 : Int32) * gi)), (.int (((ap + (1 : Int32)) + (1 : Int32)) + (1 : Int32)))]) (rm13 l Z a0 hw n0 t me ms (.ref ki) (.int (4 : Int32)) (.ref ba) (.ref am) (.int mo) (.int up) (.ref sr) (.ref ho) (.int ct) (.ref go) .null (.long ls) [(t, O_SmallGroups (.ref me) (.ref ki) (.int (4 : Int32)) (.ref ba) (.ref am) (.int mo) (.int up) (.ref sr) (.ref ho) (.int ct) (.ref go) .null (.long ls)), (sa, .inr (.long, [(.long x0), (.long x1), (.long x2), (.long x3)])), (ba, .inr (.int, [(.int (0 : Int32)), (.int (1 : Int32)), (.int (2 : Int32)), (.int (3 : Int32))])), (me, .inr (.int, ms)), (ki, .inr (.byte, ks)), (am, .inr (.long, [(.long x0), (.long x1), (.long x2), (.long x3)])), (sr, .inr (.int, [(.int (0 : Int32)), (.int v1), (.int v2), (.int v3), (.int v4)])), (ho, .inr (.int, hv)), (go, .inr (.int, gs11)), (nx, .inr (.int, (own_X ms (4 * c) (4 * g + 1 + 1 + 1))))] 0 3 g gi z3 rfl rfl hgi (by omega) hz3) d3_357 0 rfl 84 rfl 85 rfl 10 rfl 87 rfl 86 rfl 9 rfl ⟨by decide, by decide⟩ pd_4 rfl rfl rfl 2 rfl (by decide) (by decide) (by decide) (by decide) 360 rfl (fun T v L w h => ?_)
              obtain ⟨rfl, hL⟩ := h
              replace w := w.to hL
              refine g_int (x' := (4 : Int32)) (if_neg hzn) ?_
              refine g_iadd w d3_360 361 rfl ?_
              refine g_icmp_ge w d3_361 392 (by decide) (by decide) 364 rfl (fun h => absurd ((own_ltN (own_inc (own_inc (own_inc hap' (by omega)) (by omega)) (by omega)) (own_add4 (own_mul4 hgi (by omega)) (by omega))).mpr (by omega)) h) (fun hc361 => ?_)
              refine g_aloadN w d3_364 rfl rfl 365 rfl ?_
              refine g_getf w d3_365 0 rfl 10 rfl 41 rfl Via.refl 368 rfl (fun T w => ?_)
              refine g_aload w d3_368 rfl rfl 370 rfl ?_
              refine g_aloadN w d3_370 rfl rfl 371 rfl ?_
              refine g_getf w d3_371 0 rfl 0 rfl 19 rfl Via.refl 374 rfl (fun T w => ?_)
              refine g_iload w d3_374 rfl 376 rfl ?_
              refine g_iaload w d3_376 3 rfl (4 * g + 1 + 1 + 1) (own_inc (own_inc (own_inc hap' (by omega)) (by omega)) (by omega)) hz3 377 rfl ?_
              refine g_dup2 w d3_377 rfl rfl 378 rfl ?_
              refine g_iaload w d3_378 9 rfl j3 hj3 (own_X_get hl3) 379 rfl ?_
              refine g_dup_x2 w d3_379 rfl rfl rfl 380 rfl ?_
              refine g_iconst w d3_380 (1 : Int32) rfl 381 rfl ?_
              refine g_iadd w d3_381 382 rfl ?_
              refine g_iastore w d3_382 9 rfl j3 hj3 (show j3 < 4 from hl3) (.int ((Int32.ofNat (own_b ms (4 * c) j3 + own_n ms j3 (4 * g + 1 + 1 + 1))) + 1)) rfl 383 rfl (fun T w => ?_)
              replace w := w.to (L' := [(t, O_SmallGroups (.ref me) (.ref ki) (.int (4 : Int32)) (.ref ba) (.ref am) (.int mo) (.int up) (.ref sr) (.ref ho) (.int ct) (.ref go) .null (.long ls)), (sa, .inr (.long, [(.long x0), (.long x1), (.long x2), (.long x3)])), (ba, .inr (.int, [(.int (0 : Int32)), (.int (1 : Int32)), (.int (2 : Int32)), (.int (3 : Int32))])), (me, .inr (.int, ms)), (ki, .inr (.byte, ks)), (am, .inr (.long, [(.long x0), (.long x1), (.long x2), (.long x3)])), (sr, .inr (.int, [(.int (0 : Int32)), (.int v1), (.int v2), (.int v3), (.int v4)])), (ho, .inr (.int, hv)), (go, .inr (.int, gs11)), (nx, .inr (.int, ((own_X ms (4 * c) (4 * g + 1 + 1 + 1)).set j3 (.int ((Int32.ofNat (own_b ms (4 * c) j3 + own_n ms j3 (4 * g + 1 + 1 + 1))) + 1)))))]) rfl
              replace w := w.to (L' := [(t, O_SmallGroups (.ref me) (.ref ki) (.int (4 : Int32)) (.ref ba) (.ref am) (.int mo) (.int up) (.ref sr) (.ref ho) (.int ct) (.ref go) .null (.long ls)), (sa, .inr (.long, [(.long x0), (.long x1), (.long x2), (.long x3)])), (ba, .inr (.int, [(.int (0 : Int32)), (.int (1 : Int32)), (.int (2 : Int32)), (.int (3 : Int32))])), (me, .inr (.int, ms)), (ki, .inr (.byte, ks)), (am, .inr (.long, [(.long x0), (.long x1), (.long x2), (.long x3)])), (sr, .inr (.int, [(.int (0 : Int32)), (.int v1), (.int v2), (.int v3), (.int v4)])), (ho, .inr (.int, hv)), (go, .inr (.int, gs11)), (nx, .inr (.int, (own_X ms (4 * c) (4 * g + 1 + 1 + 1 + 1))))]) (by rw [own_X_set hz3 hj3 hl3])
              refine g_iload w d3_383 rfl 385 rfl ?_
              have hlt3 := own_b_lt (C := 4 * c) hz3 hj3 hl3 (by omega)
              refine g_iastore w d3_385 8 rfl (own_b ms (4 * c) j3 + own_n ms j3 (4 * g + 1 + 1 + 1)) (own_nat (by omega)) (by rw [hlen_gs11]; exact hlt3) (.int gi) rfl 386 rfl (fun T w => ?_)
              replace w := w.to (L' := [(t, O_SmallGroups (.ref me) (.ref ki) (.int (4 : Int32)) (.ref ba) (.ref am) (.int mo) (.int up) (.ref sr) (.ref ho) (.int ct) (.ref go) .null (.long ls)), (sa, .inr (.long, [(.long x0), (.long x1), (.long x2), (.long x3)])), (ba, .inr (.int, [(.int (0 : Int32)), (.int (1 : Int32)), (.int (2 : Int32)), (.int (3 : Int32))])), (me, .inr (.int, ms)), (ki, .inr (.byte, ks)), (am, .inr (.long, [(.long x0), (.long x1), (.long x2), (.long x3)])), (sr, .inr (.int, [(.int (0 : Int32)), (.int v1), (.int v2), (.int v3), (.int v4)])), (ho, .inr (.int, hv)), (go, .inr (.int, (gs11.set (own_b ms (4 * c) j3 + own_n ms j3 (4 * g + 1 + 1 + 1)) (.int gi)))), (nx, .inr (.int, (own_X ms (4 * c) (4 * g + 1 + 1 + 1 + 1))))]) rfl
              obtain ⟨gs12, hgs12⟩ : ∃ own_z, own_z = (gs11.set (own_b ms (4 * c) j3 + own_n ms j3 (4 * g + 1 + 1 + 1)) (.int gi)) := ⟨_, rfl⟩
              have hlen_gs12 : gs12.length = own_b ms (4 * c) 4 := by rw [hgs12, List.length_set]; exact hlen_gs11
              replace w := w.to (L' := [(t, O_SmallGroups (.ref me) (.ref ki) (.int (4 : Int32)) (.ref ba) (.ref am) (.int mo) (.int up) (.ref sr) (.ref ho) (.int ct) (.ref go) .null (.long ls)), (sa, .inr (.long, [(.long x0), (.long x1), (.long x2), (.long x3)])), (ba, .inr (.int, [(.int (0 : Int32)), (.int (1 : Int32)), (.int (2 : Int32)), (.int (3 : Int32))])), (me, .inr (.int, ms)), (ki, .inr (.byte, ks)), (am, .inr (.long, [(.long x0), (.long x1), (.long x2), (.long x3)])), (sr, .inr (.int, [(.int (0 : Int32)), (.int v1), (.int v2), (.int v3), (.int v4)])), (ho, .inr (.int, hv)), (go, .inr (.int, gs12)), (nx, .inr (.int, (own_X ms (4 * c) (4 * g + 1 + 1 + 1 + 1))))]) (by rw [hgs12])
              refine g_iinc w d3_386 389 rfl rfl rfl #[.val (.ref t), .val (.ref sa), .val (.ref ba), .val (.long sp), .second, .val (.int mo), .val (.long (16 : Int64)), .second, .val (.int up), .val (.ref nx), .val (.int gi), .val (.int ((((ap + (1 : Int32)) + (1 : Int32)) + (1 : Int32)) + (1 : Int32)))] rfl ?_
              refine g_goto w d3_389 348 (by decide) (by decide) ?_
              refine g_iload w d3_348 rfl 350 rfl ?_
              refine g_iconst w d3_350 (4 : Int32) rfl 351 rfl ?_
              refine g_iload w d3_351 rfl 353 rfl ?_
              refine g_imul w d3_353 354 rfl ?_
              refine g_aloadN w d3_354 rfl rfl 355 rfl ?_
              refine g_iload w d3_355 rfl 357 rfl ?_
              refine g_priv w (argsL := [(.int gi)]) (rest := [(.int ((4 : Int32) * gi)), (.int ((((ap + (1 : Int32)) + (1 : Int32)) + (1 : Int32)) + (1 : Int32)))]) (rm13 l Z a0 hw n0 t me ms (.ref ki) (.int (4 : Int32)) (.ref ba) (.ref am) (.int mo) (.int up) (.ref sr) (.ref ho) (.int ct) (.ref go) .null (.long ls) [(t, O_SmallGroups (.ref me) (.ref ki) (.int (4 : Int32)) (.ref ba) (.ref am) (.int mo) (.int up) (.ref sr) (.ref ho) (.int ct) (.ref go) .null (.long ls)), (sa, .inr (.long, [(.long x0), (.long x1), (.long x2), (.long x3)])), (ba, .inr (.int, [(.int (0 : Int32)), (.int (1 : Int32)), (.int (2 : Int32)), (.int (3 : Int32))])), (me, .inr (.int, ms)), (ki, .inr (.byte, ks)), (am, .inr (.long, [(.long x0), (.long x1), (.long x2), (.long x3)])), (sr, .inr (.int, [(.int (0 : Int32)), (.int v1), (.int v2), (.int v3), (.int v4)])), (ho, .inr (.int, hv)), (go, .inr (.int, gs12)), (nx, .inr (.int, (own_X ms (4 * c) (4 * g + 1 + 1 + 1 + 1))))] 0 3 g gi z3 rfl rfl hgi (by omega) hz3) d3_357 0 rfl 84 rfl 85 rfl 10 rfl 87 rfl 86 rfl 9 rfl ⟨by decide, by decide⟩ pd_4 rfl rfl rfl 2 rfl (by decide) (by decide) (by decide) (by decide) 360 rfl (fun T v L w h => ?_)
              obtain ⟨rfl, hL⟩ := h
              replace w := w.to hL
              refine g_int (x' := (4 : Int32)) (if_neg hzn) ?_
              refine g_iadd w d3_360 361 rfl ?_
              refine g_icmp_ge w d3_361 392 (by decide) (by decide) 364 rfl (fun hc361 => ?_) (fun h => absurd h (fun q => by have := (own_ltN (own_inc (own_inc (own_inc (own_inc hap' (by omega)) (by omega)) (by omega)) (by omega)) (own_add4 (own_mul4 hgi (by omega)) (by omega))).mp q; omega))
              refine g_iinc w d3_392 395 rfl rfl rfl #[.val (.ref t), .val (.ref sa), .val (.ref ba), .val (.long sp), .second, .val (.int mo), .val (.long (16 : Int64)), .second, .val (.int up), .val (.ref nx), .val (.int (gi + (1 : Int32))), .val (.int ((((ap + (1 : Int32)) + (1 : Int32)) + (1 : Int32)) + (1 : Int32)))] rfl ?_
              refine g_goto w d3_395 333 (by decide) (by decide) ?_
              exact ih T (gi + 1) (g + 1) gs12 _ (own_inc hgi (by omega)) (by omega) hlen_gs12 (Or.inr ⟨_, rfl⟩) (w.to (L' := [(t, O_SmallGroups (.ref me) (.ref ki) (.int (4 : Int32)) (.ref ba) (.ref am) (.int mo) (.int up) (.ref sr) (.ref ho) (.int ct) (.ref go) .null (.long ls)), (sa, .inr (.long, [(.long x0), (.long x1), (.long x2), (.long x3)])), (ba, .inr (.int, [(.int (0 : Int32)), (.int (1 : Int32)), (.int (2 : Int32)), (.int (3 : Int32))])), (me, .inr (.int, ms)), (ki, .inr (.byte, ks)), (am, .inr (.long, [(.long x0), (.long x1), (.long x2), (.long x3)])), (sr, .inr (.int, [(.int (0 : Int32)), (.int v1), (.int v2), (.int v3), (.int v4)])), (ho, .inr (.int, hv)), (go, .inr (.int, gs12)), (nx, .inr (.int, (own_X ms (4 * c) (4 * (g + 1)))))]) rfl)
        exact LB c T 0 0 _ _ rfl (by omega) (by simp) (Or.inl rfl) (w.to (L' := [(t, O_SmallGroups (.ref me) (.ref ki) (.int (4 : Int32)) (.ref ba) (.ref am) (.int mo) (.int up) (.ref sr) (.ref ho) (.int ct) (.ref go) .null (.long ls)), (sa, .inr (.long, [(.long x0), (.long x1), (.long x2), (.long x3)])), (ba, .inr (.int, [(.int (0 : Int32)), (.int (1 : Int32)), (.int (2 : Int32)), (.int (3 : Int32))])), (me, .inr (.int, ms)), (ki, .inr (.byte, ks)), (am, .inr (.long, [(.long x0), (.long x1), (.long x2), (.long x3)])), (sr, .inr (.int, [(.int (0 : Int32)), (.int v1), (.int v2), (.int v3), (.int v4)])), (ho, .inr (.int, hv)), (go, .inr (.int, (List.replicate (own_b ms (4 * c) 4) (.int (0 : Int32))))), (nx, .inr (.int, (own_X ms (4 * c) (4 * 0))))]) (by rw [b1, b2, b3]; rfl))
      | succ d ih =>
        intro T gi g hv s10 hgi hgd hok_hv hs10 w
        refine g_iload w d3_178 rfl 180 rfl ?_
        refine g_aloadN w d3_180 rfl rfl 181 rfl ?_
        refine g_getf w d3_181 0 rfl 9 rfl 39 rfl Via.refl 184 rfl (fun T w => ?_)
        refine g_icmp_ge w d3_184 265 (by decide) (by decide) 187 rfl (fun h => absurd ((own_ltN hgi hct).mpr (by omega)) h) (fun hc184 => ?_)
        obtain ⟨z0, j0, hz0, hj0, hl0⟩ := own_mem (q := 4 * g) hG (by omega) (by omega)
        obtain ⟨z1, j1, hz1, hj1, hl1⟩ := own_mem (q := 4 * g + 1) hG (by omega) (by omega)
        obtain ⟨z2, j2, hz2, hj2, hl2⟩ := own_mem (q := 4 * g + 1 + 1) hG (by omega) (by omega)
        obtain ⟨z3, hz3, hz⟩ := own_mem3 (q := 4 * g + 1 + 1 + 1) hG (by omega)
        obtain ⟨kz, kk, hkz, hkk, hl5⟩ := own_kd (g := g) hG (by omega)
        rcases hz with ⟨hzn, hzm⟩ | ⟨hzn, j3, hj3, hl3⟩
        · -- pc 187 3 items
          refine g_iconst w d3_187 (4 : Int32) rfl 188 rfl ?_
          refine g_iload w d3_188 rfl 190 rfl ?_
          refine g_imul w d3_190 191 rfl ?_
          obtain ⟨ap, hap⟩ : ∃ own_z, own_z = (((4 : Int32) * gi) : Int32) := ⟨_, rfl⟩
          have hap' : ap.toInt = ((4 * g : Nat) : Int) := by rw [hap]; exact own_mul4 hgi (by omega)
          refine g_istore w d3_191 193 rfl hap.symm #[.val (.ref t), .val (.ref sa), .val (.ref ba), .val (.long sp), .second, .val (.int mo), .val (.long (16 : Int64)), .second, .val (.int up), .val (.int gi), .val (.int ap), .unset] (by rcases hs10 with rfl | ⟨z, rfl⟩ <;> rfl) ?_
          refine g_iload w d3_193 rfl 195 rfl ?_
          refine g_iconst w d3_195 (4 : Int32) rfl 196 rfl ?_
          refine g_iload w d3_196 rfl 198 rfl ?_
          refine g_imul w d3_198 199 rfl ?_
          refine g_aloadN w d3_199 rfl rfl 200 rfl ?_
          refine g_iload w d3_200 rfl 202 rfl ?_
          refine g_priv w (argsL := [(.int gi)]) (rest := [(.int ((4 : Int32) * gi)), (.int ap)]) (rm13 l Z a0 hw n0 t me ms (.ref ki) (.int (4 : Int32)) (.ref ba) (.ref am) (.int mo) (.int up) (.ref sr) (.ref ho) (.int ct) .null .null (.long ls) [(t, O_SmallGroups (.ref me) (.ref ki) (.int (4 : Int32)) (.ref ba) (.ref am) (.int mo) (.int up) (.ref sr) (.ref ho) (.int ct) .null .null (.long ls)), (sa, .inr (.long, [(.long x0), (.long x1), (.long x2), (.long x3)])), (ba, .inr (.int, [(.int (0 : Int32)), (.int (1 : Int32)), (.int (2 : Int32)), (.int (3 : Int32))])), (me, .inr (.int, ms)), (ki, .inr (.byte, ks)), (am, .inr (.long, [(.long x0), (.long x1), (.long x2), (.long x3)])), (sr, .inr (.int, (own_S ms (4 * g)))), (ho, .inr (.int, hv))] 0 3 g gi z3 rfl rfl hgi (by omega) hz3) d3_202 0 rfl 84 rfl 85 rfl 10 rfl 87 rfl 86 rfl 9 rfl ⟨by decide, by decide⟩ pd_4 rfl rfl rfl 2 rfl (by decide) (by decide) (by decide) (by decide) 205 rfl (fun T v L w h => ?_)
          obtain ⟨rfl, hL⟩ := h
          replace w := w.to hL
          refine g_int (x' := (3 : Int32)) (if_pos hzn) ?_
          refine g_iadd w d3_205 206 rfl ?_
          refine g_icmp_ge w d3_206 259 (by decide) (by decide) 209 rfl (fun h => absurd ((own_ltN hap' (own_add3 (own_mul4 hgi (by omega)) (by omega))).mpr (by omega)) h) (fun hc206 => ?_)
          refine g_aloadN w d3_209 rfl rfl 210 rfl ?_
          refine g_getf w d3_210 0 rfl 7 rfl 35 rfl Via.refl 213 rfl (fun T w => ?_)
          refine g_aloadN w d3_213 rfl rfl 214 rfl ?_
          refine g_getf w d3_214 0 rfl 0 rfl 19 rfl Via.refl 217 rfl (fun T w => ?_)
          refine g_iload w d3_217 rfl 219 rfl ?_
          refine g_iaload w d3_219 3 rfl (4 * g) hap' hz0 220 rfl ?_
          refine g_iconst w d3_220 (1 : Int32) rfl 221 rfl ?_
          refine g_iadd w d3_221 222 rfl ?_
          refine g_dup2 w d3_222 rfl rfl 223 rfl ?_
          refine g_iaload w d3_223 6 rfl (j0 + 1) (own_inc hj0 (by omega)) (own_S_get hl0) 224 rfl ?_
          refine g_iconst w d3_224 (1 : Int32) rfl 225 rfl ?_
          refine g_iadd w d3_225 226 rfl ?_
          refine g_iastore w d3_226 6 rfl (j0 + 1) (own_inc hj0 (by omega)) (show j0 + 1 < 5 by omega) (.int (Int32.ofNat (own_n ms j0 (4 * g)) + 1)) rfl 227 rfl (fun T w => ?_)
          replace w := w.to (L' := [(t, O_SmallGroups (.ref me) (.ref ki) (.int (4 : Int32)) (.ref ba) (.ref am) (.int mo) (.int up) (.ref sr) (.ref ho) (.int ct) .null .null (.long ls)), (sa, .inr (.long, [(.long x0), (.long x1), (.long x2), (.long x3)])), (ba, .inr (.int, [(.int (0 : Int32)), (.int (1 : Int32)), (.int (2 : Int32)), (.int (3 : Int32))])), (me, .inr (.int, ms)), (ki, .inr (.byte, ks)), (am, .inr (.long, [(.long x0), (.long x1), (.long x2), (.long x3)])), (sr, .inr (.int, ((own_S ms (4 * g)).set (j0 + 1) (.int (Int32.ofNat (own_n ms j0 (4 * g)) + 1))))), (ho, .inr (.int, hv))]) rfl
          replace w := w.to (L' := [(t, O_SmallGroups (.ref me) (.ref ki) (.int (4 : Int32)) (.ref ba) (.ref am) (.int mo) (.int up) (.ref sr) (.ref ho) (.int ct) .null .null (.long ls)), (sa, .inr (.long, [(.long x0), (.long x1), (.long x2), (.long x3)])), (ba, .inr (.int, [(.int (0 : Int32)), (.int (1 : Int32)), (.int (2 : Int32)), (.int (3 : Int32))])), (me, .inr (.int, ms)), (ki, .inr (.byte, ks)), (am, .inr (.long, [(.long x0), (.long x1), (.long x2), (.long x3)])), (sr, .inr (.int, (own_S ms (4 * g + 1)))), (ho, .inr (.int, hv))]) (by rw [own_S_set hz0 hj0 hl0])
          refine g_aloadN w d3_227 rfl rfl 228 rfl ?_
          refine g_getf w d3_228 0 rfl 8 rfl 37 rfl Via.refl 231 rfl (fun T w => ?_)
          refine g_iconst w d3_231 (5 : Int32) rfl 232 rfl ?_
          refine g_aloadN w d3_232 rfl rfl 233 rfl ?_
          refine g_getf w d3_233 0 rfl 0 rfl 19 rfl Via.refl 236 rfl (fun T w => ?_)
          refine g_iload w d3_236 rfl 238 rfl ?_
          refine g_iaload w d3_238 3 rfl (4 * g) hap' hz0 239 rfl ?_
          refine g_imul w d3_239 240 rfl ?_
          refine g_aloadN w d3_240 rfl rfl 241 rfl ?_
          refine g_getf w d3_241 0 rfl 1 rfl 22 rfl Via.refl 244 rfl (fun T w => ?_)
          refine g_iload w d3_244 rfl 246 rfl ?_
          refine g_baload w d3_246 4 rfl g hgi hkz 247 rfl ?_
          refine g_iadd w d3_247 248 rfl ?_
          refine g_dup2 w d3_248 rfl rfl 249 rfl ?_
          obtain ⟨o13, ho13⟩ := hok_hv.2 (5 * j0 + kk) (by omega)
          refine g_iaload w d3_249 7 rfl (5 * j0 + kk) (own_ix5 hj0 hl0 hkk hl5) ho13 250 rfl ?_
          refine g_iconst w d3_250 (1 : Int32) rfl 251 rfl ?_
          refine g_iadd w d3_251 252 rfl ?_
          refine g_iastore w d3_252 7 rfl (5 * j0 + kk) (own_ix5 hj0 hl0 hkk hl5) (by rw [hok_hv.1]; omega) (.int (o13 + 1)) rfl 253 rfl (fun T w => ?_)
          replace w := w.to (L' := [(t, O_SmallGroups (.ref me) (.ref ki) (.int (4 : Int32)) (.ref ba) (.ref am) (.int mo) (.int up) (.ref sr) (.ref ho) (.int ct) .null .null (.long ls)), (sa, .inr (.long, [(.long x0), (.long x1), (.long x2), (.long x3)])), (ba, .inr (.int, [(.int (0 : Int32)), (.int (1 : Int32)), (.int (2 : Int32)), (.int (3 : Int32))])), (me, .inr (.int, ms)), (ki, .inr (.byte, ks)), (am, .inr (.long, [(.long x0), (.long x1), (.long x2), (.long x3)])), (sr, .inr (.int, (own_S ms (4 * g + 1)))), (ho, .inr (.int, (hv.set (5 * j0 + kk) (.int (o13 + 1)))))]) rfl
          obtain ⟨hv14, hhv14⟩ : ∃ own_z, own_z = (hv.set (5 * j0 + kk) (.int (o13 + 1))) := ⟨_, rfl⟩
          have hok_hv14 : own_ok hv14 := by rw [hhv14]; exact own_ok_set hok_hv _ _
          replace w := w.to (L' := [(t, O_SmallGroups (.ref me) (.ref ki) (.int (4 : Int32)) (.ref ba) (.ref am) (.int mo) (.int up) (.ref sr) (.ref ho) (.int ct) .null .null (.long ls)), (sa, .inr (.long, [(.long x0), (.long x1), (.long x2), (.long x3)])), (ba, .inr (.int, [(.int (0 : Int32)), (.int (1 : Int32)), (.int (2 : Int32)), (.int (3 : Int32))])), (me, .inr (.int, ms)), (ki, .inr (.byte, ks)), (am, .inr (.long, [(.long x0), (.long x1), (.long x2), (.long x3)])), (sr, .inr (.int, (own_S ms (4 * g + 1)))), (ho, .inr (.int, hv14))]) (by rw [hhv14])
          refine g_iinc w d3_253 256 rfl rfl rfl #[.val (.ref t), .val (.ref sa), .val (.ref ba), .val (.long sp), .second, .val (.int mo), .val (.long (16 : Int64)), .second, .val (.int up), .val (.int gi), .val (.int (ap + (1 : Int32))), .unset] rfl ?_
          refine g_goto w d3_256 193 (by decide) (by decide) ?_
          refine g_iload w d3_193 rfl 195 rfl ?_
          refine g_iconst w d3_195 (4 : Int32) rfl 196 rfl ?_
          refine g_iload w d3_196 rfl 198 rfl ?_
          refine g_imul w d3_198 199 rfl ?_
          refine g_aloadN w d3_199 rfl rfl 200 rfl ?_
          refine g_iload w d3_200 rfl 202 rfl ?_
          refine g_priv w (argsL := [(.int gi)]) (rest := [(.int ((4 : Int32) * gi)), (.int (ap + (1 : Int32)))]) (rm13 l Z a0 hw n0 t me ms (.ref ki) (.int (4 : Int32)) (.ref ba) (.ref am) (.int mo) (.int up) (.ref sr) (.ref ho) (.int ct) .null .null (.long ls) [(t, O_SmallGroups (.ref me) (.ref ki) (.int (4 : Int32)) (.ref ba) (.ref am) (.int mo) (.int up) (.ref sr) (.ref ho) (.int ct) .null .null (.long ls)), (sa, .inr (.long, [(.long x0), (.long x1), (.long x2), (.long x3)])), (ba, .inr (.int, [(.int (0 : Int32)), (.int (1 : Int32)), (.int (2 : Int32)), (.int (3 : Int32))])), (me, .inr (.int, ms)), (ki, .inr (.byte, ks)), (am, .inr (.long, [(.long x0), (.long x1), (.long x2), (.long x3)])), (sr, .inr (.int, (own_S ms (4 * g + 1)))), (ho, .inr (.int, hv14))] 0 3 g gi z3 rfl rfl hgi (by omega) hz3) d3_202 0 rfl 84 rfl 85 rfl 10 rfl 87 rfl 86 rfl 9 rfl ⟨by decide, by decide⟩ pd_4 rfl rfl rfl 2 rfl (by decide) (by decide) (by decide) (by decide) 205 rfl (fun T v L w h => ?_)
          obtain ⟨rfl, hL⟩ := h
          replace w := w.to hL
          refine g_int (x' := (3 : Int32)) (if_pos hzn) ?_
          refine g_iadd w d3_205 206 rfl ?_
          refine g_icmp_ge w d3_206 259 (by decide) (by decide) 209 rfl (fun h => absurd ((own_ltN (own_inc hap' (by omega)) (own_add3 (own_mul4 hgi (by omega)) (by omega))).mpr (by omega)) h) (fun hc206 => ?_)
          refine g_aloadN w d3_209 rfl rfl 210 rfl ?_
          refine g_getf w d3_210 0 rfl 7 rfl 35 rfl Via.refl 213 rfl (fun T w => ?_)
          refine g_aloadN w d3_213 rfl rfl 214 rfl ?_
          refine g_getf w d3_214 0 rfl 0 rfl 19 rfl Via.refl 217 rfl (fun T w => ?_)
          refine g_iload w d3_217 rfl 219 rfl ?_
          refine g_iaload w d3_219 3 rfl (4 * g + 1) (own_inc hap' (by omega)) hz1 220 rfl ?_
          refine g_iconst w d3_220 (1 : Int32) rfl 221 rfl ?_
          refine g_iadd w d3_221 222 rfl ?_
          refine g_dup2 w d3_222 rfl rfl 223 rfl ?_
          refine g_iaload w d3_223 6 rfl (j1 + 1) (own_inc hj1 (by omega)) (own_S_get hl1) 224 rfl ?_
          refine g_iconst w d3_224 (1 : Int32) rfl 225 rfl ?_
          refine g_iadd w d3_225 226 rfl ?_
          refine g_iastore w d3_226 6 rfl (j1 + 1) (own_inc hj1 (by omega)) (show j1 + 1 < 5 by omega) (.int (Int32.ofNat (own_n ms j1 (4 * g + 1)) + 1)) rfl 227 rfl (fun T w => ?_)
          replace w := w.to (L' := [(t, O_SmallGroups (.ref me) (.ref ki) (.int (4 : Int32)) (.ref ba) (.ref am) (.int mo) (.int up) (.ref sr) (.ref ho) (.int ct) .null .null (.long ls)), (sa, .inr (.long, [(.long x0), (.long x1), (.long x2), (.long x3)])), (ba, .inr (.int, [(.int (0 : Int32)), (.int (1 : Int32)), (.int (2 : Int32)), (.int (3 : Int32))])), (me, .inr (.int, ms)), (ki, .inr (.byte, ks)), (am, .inr (.long, [(.long x0), (.long x1), (.long x2), (.long x3)])), (sr, .inr (.int, ((own_S ms (4 * g + 1)).set (j1 + 1) (.int (Int32.ofNat (own_n ms j1 (4 * g + 1)) + 1))))), (ho, .inr (.int, hv14))]) rfl
          replace w := w.to (L' := [(t, O_SmallGroups (.ref me) (.ref ki) (.int (4 : Int32)) (.ref ba) (.ref am) (.int mo) (.int up) (.ref sr) (.ref ho) (.int ct) .null .null (.long ls)), (sa, .inr (.long, [(.long x0), (.long x1), (.long x2), (.long x3)])), (ba, .inr (.int, [(.int (0 : Int32)), (.int (1 : Int32)), (.int (2 : Int32)), (.int (3 : Int32))])), (me, .inr (.int, ms)), (ki, .inr (.byte, ks)), (am, .inr (.long, [(.long x0), (.long x1), (.long x2), (.long x3)])), (sr, .inr (.int, (own_S ms (4 * g + 1 + 1)))), (ho, .inr (.int, hv14))]) (by rw [own_S_set hz1 hj1 hl1])
          refine g_aloadN w d3_227 rfl rfl 228 rfl ?_
          refine g_getf w d3_228 0 rfl 8 rfl 37 rfl Via.refl 231 rfl (fun T w => ?_)
          refine g_iconst w d3_231 (5 : Int32) rfl 232 rfl ?_
          refine g_aloadN w d3_232 rfl rfl 233 rfl ?_
          refine g_getf w d3_233 0 rfl 0 rfl 19 rfl Via.refl 236 rfl (fun T w => ?_)
          refine g_iload w d3_236 rfl 238 rfl ?_
          refine g_iaload w d3_238 3 rfl (4 * g + 1) (own_inc hap' (by omega)) hz1 239 rfl ?_
          refine g_imul w d3_239 240 rfl ?_
          refine g_aloadN w d3_240 rfl rfl 241 rfl ?_
          refine g_getf w d3_241 0 rfl 1 rfl 22 rfl Via.refl 244 rfl (fun T w => ?_)
          refine g_iload w d3_244 rfl 246 rfl ?_
          refine g_baload w d3_246 4 rfl g hgi hkz 247 rfl ?_
          refine g_iadd w d3_247 248 rfl ?_
          refine g_dup2 w d3_248 rfl rfl 249 rfl ?_
          obtain ⟨o15, ho15⟩ := hok_hv14.2 (5 * j1 + kk) (by omega)
          refine g_iaload w d3_249 7 rfl (5 * j1 + kk) (own_ix5 hj1 hl1 hkk hl5) ho15 250 rfl ?_
          refine g_iconst w d3_250 (1 : Int32) rfl 251 rfl ?_
          refine g_iadd w d3_251 252 rfl ?_
          refine g_iastore w d3_252 7 rfl (5 * j1 + kk) (own_ix5 hj1 hl1 hkk hl5) (by rw [hok_hv14.1]; omega) (.int (o15 + 1)) rfl 253 rfl (fun T w => ?_)
          replace w := w.to (L' := [(t, O_SmallGroups (.ref me) (.ref ki) (.int (4 : Int32)) (.ref ba) (.ref am) (.int mo) (.int up) (.ref sr) (.ref ho) (.int ct) .null .null (.long ls)), (sa, .inr (.long, [(.long x0), (.long x1), (.long x2), (.long x3)])), (ba, .inr (.int, [(.int (0 : Int32)), (.int (1 : Int32)), (.int (2 : Int32)), (.int (3 : Int32))])), (me, .inr (.int, ms)), (ki, .inr (.byte, ks)), (am, .inr (.long, [(.long x0), (.long x1), (.long x2), (.long x3)])), (sr, .inr (.int, (own_S ms (4 * g + 1 + 1)))), (ho, .inr (.int, (hv14.set (5 * j1 + kk) (.int (o15 + 1)))))]) rfl
          obtain ⟨hv16, hhv16⟩ : ∃ own_z, own_z = (hv14.set (5 * j1 + kk) (.int (o15 + 1))) := ⟨_, rfl⟩
          have hok_hv16 : own_ok hv16 := by rw [hhv16]; exact own_ok_set hok_hv14 _ _
          replace w := w.to (L' := [(t, O_SmallGroups (.ref me) (.ref ki) (.int (4 : Int32)) (.ref ba) (.ref am) (.int mo) (.int up) (.ref sr) (.ref ho) (.int ct) .null .null (.long ls)), (sa, .inr (.long, [(.long x0), (.long x1), (.long x2), (.long x3)])), (ba, .inr (.int, [(.int (0 : Int32)), (.int (1 : Int32)), (.int (2 : Int32)), (.int (3 : Int32))])), (me, .inr (.int, ms)), (ki, .inr (.byte, ks)), (am, .inr (.long, [(.long x0), (.long x1), (.long x2), (.long x3)])), (sr, .inr (.int, (own_S ms (4 * g + 1 + 1)))), (ho, .inr (.int, hv16))]) (by rw [hhv16])
          refine g_iinc w d3_253 256 rfl rfl rfl #[.val (.ref t), .val (.ref sa), .val (.ref ba), .val (.long sp), .second, .val (.int mo), .val (.long (16 : Int64)), .second, .val (.int up), .val (.int gi), .val (.int ((ap + (1 : Int32)) + (1 : Int32))), .unset] rfl ?_
          refine g_goto w d3_256 193 (by decide) (by decide) ?_
          refine g_iload w d3_193 rfl 195 rfl ?_
          refine g_iconst w d3_195 (4 : Int32) rfl 196 rfl ?_
          refine g_iload w d3_196 rfl 198 rfl ?_
          refine g_imul w d3_198 199 rfl ?_
          refine g_aloadN w d3_199 rfl rfl 200 rfl ?_
          refine g_iload w d3_200 rfl 202 rfl ?_
          refine g_priv w (argsL := [(.int gi)]) (rest := [(.int ((4 : Int32) * gi)), (.int ((ap + (1 : Int32)) + (1 : Int32)))]) (rm13 l Z a0 hw n0 t me ms (.ref ki) (.int (4 : Int32)) (.ref ba) (.ref am) (.int mo) (.int up) (.ref sr) (.ref ho) (.int ct) .null .null (.long ls) [(t, O_SmallGroups (.ref me) (.ref ki) (.int (4 : Int32)) (.ref ba) (.ref am) (.int mo) (.int up) (.ref sr) (.ref ho) (.int ct) .null .null (.long ls)), (sa, .inr (.long, [(.long x0), (.long x1), (.long x2), (.long x3)])), (ba, .inr (.int, [(.int (0 : Int32)), (.int (1 : Int32)), (.int (2 : Int32)), (.int (3 : Int32))])), (me, .inr (.int, ms)), (ki, .inr (.byte, ks)), (am, .inr (.long, [(.long x0), (.long x1), (.long x2), (.long x3)])), (sr, .inr (.int, (own_S ms (4 * g + 1 + 1)))), (ho, .inr (.int, hv16))] 0 3 g gi z3 rfl rfl hgi (by omega) hz3) d3_202 0 rfl 84 rfl 85 rfl 10 rfl 87 rfl 86 rfl 9 rfl ⟨by decide, by decide⟩ pd_4 rfl rfl rfl 2 rfl (by decide) (by decide) (by decide) (by decide) 205 rfl (fun T v L w h => ?_)
          obtain ⟨rfl, hL⟩ := h
          replace w := w.to hL
          refine g_int (x' := (3 : Int32)) (if_pos hzn) ?_
          refine g_iadd w d3_205 206 rfl ?_
          refine g_icmp_ge w d3_206 259 (by decide) (by decide) 209 rfl (fun h => absurd ((own_ltN (own_inc (own_inc hap' (by omega)) (by omega)) (own_add3 (own_mul4 hgi (by omega)) (by omega))).mpr (by omega)) h) (fun hc206 => ?_)
          refine g_aloadN w d3_209 rfl rfl 210 rfl ?_
          refine g_getf w d3_210 0 rfl 7 rfl 35 rfl Via.refl 213 rfl (fun T w => ?_)
          refine g_aloadN w d3_213 rfl rfl 214 rfl ?_
          refine g_getf w d3_214 0 rfl 0 rfl 19 rfl Via.refl 217 rfl (fun T w => ?_)
          refine g_iload w d3_217 rfl 219 rfl ?_
          refine g_iaload w d3_219 3 rfl (4 * g + 1 + 1) (own_inc (own_inc hap' (by omega)) (by omega)) hz2 220 rfl ?_
          refine g_iconst w d3_220 (1 : Int32) rfl 221 rfl ?_
          refine g_iadd w d3_221 222 rfl ?_
          refine g_dup2 w d3_222 rfl rfl 223 rfl ?_
          refine g_iaload w d3_223 6 rfl (j2 + 1) (own_inc hj2 (by omega)) (own_S_get hl2) 224 rfl ?_
          refine g_iconst w d3_224 (1 : Int32) rfl 225 rfl ?_
          refine g_iadd w d3_225 226 rfl ?_
          refine g_iastore w d3_226 6 rfl (j2 + 1) (own_inc hj2 (by omega)) (show j2 + 1 < 5 by omega) (.int (Int32.ofNat (own_n ms j2 (4 * g + 1 + 1)) + 1)) rfl 227 rfl (fun T w => ?_)
          replace w := w.to (L' := [(t, O_SmallGroups (.ref me) (.ref ki) (.int (4 : Int32)) (.ref ba) (.ref am) (.int mo) (.int up) (.ref sr) (.ref ho) (.int ct) .null .null (.long ls)), (sa, .inr (.long, [(.long x0), (.long x1), (.long x2), (.long x3)])), (ba, .inr (.int, [(.int (0 : Int32)), (.int (1 : Int32)), (.int (2 : Int32)), (.int (3 : Int32))])), (me, .inr (.int, ms)), (ki, .inr (.byte, ks)), (am, .inr (.long, [(.long x0), (.long x1), (.long x2), (.long x3)])), (sr, .inr (.int, ((own_S ms (4 * g + 1 + 1)).set (j2 + 1) (.int (Int32.ofNat (own_n ms j2 (4 * g + 1 + 1)) + 1))))), (ho, .inr (.int, hv16))]) rfl
          replace w := w.to (L' := [(t, O_SmallGroups (.ref me) (.ref ki) (.int (4 : Int32)) (.ref ba) (.ref am) (.int mo) (.int up) (.ref sr) (.ref ho) (.int ct) .null .null (.long ls)), (sa, .inr (.long, [(.long x0), (.long x1), (.long x2), (.long x3)])), (ba, .inr (.int, [(.int (0 : Int32)), (.int (1 : Int32)), (.int (2 : Int32)), (.int (3 : Int32))])), (me, .inr (.int, ms)), (ki, .inr (.byte, ks)), (am, .inr (.long, [(.long x0), (.long x1), (.long x2), (.long x3)])), (sr, .inr (.int, (own_S ms (4 * g + 1 + 1 + 1)))), (ho, .inr (.int, hv16))]) (by rw [own_S_set hz2 hj2 hl2])
          refine g_aloadN w d3_227 rfl rfl 228 rfl ?_
          refine g_getf w d3_228 0 rfl 8 rfl 37 rfl Via.refl 231 rfl (fun T w => ?_)
          refine g_iconst w d3_231 (5 : Int32) rfl 232 rfl ?_
          refine g_aloadN w d3_232 rfl rfl 233 rfl ?_
          refine g_getf w d3_233 0 rfl 0 rfl 19 rfl Via.refl 236 rfl (fun T w => ?_)
          refine g_iload w d3_236 rfl 238 rfl ?_
          refine g_iaload w d3_238 3 rfl (4 * g + 1 + 1) (own_inc (own_inc hap' (by omega)) (by omega)) hz2 239 rfl ?_
          refine g_imul w d3_239 240 rfl ?_
          refine g_aloadN w d3_240 rfl rfl 241 rfl ?_
          refine g_getf w d3_241 0 rfl 1 rfl 22 rfl Via.refl 244 rfl (fun T w => ?_)
          refine g_iload w d3_244 rfl 246 rfl ?_
          refine g_baload w d3_246 4 rfl g hgi hkz 247 rfl ?_
          refine g_iadd w d3_247 248 rfl ?_
          refine g_dup2 w d3_248 rfl rfl 249 rfl ?_
          obtain ⟨o17, ho17⟩ := hok_hv16.2 (5 * j2 + kk) (by omega)
          refine g_iaload w d3_249 7 rfl (5 * j2 + kk) (own_ix5 hj2 hl2 hkk hl5) ho17 250 rfl ?_
          refine g_iconst w d3_250 (1 : Int32) rfl 251 rfl ?_
          refine g_iadd w d3_251 252 rfl ?_
          refine g_iastore w d3_252 7 rfl (5 * j2 + kk) (own_ix5 hj2 hl2 hkk hl5) (by rw [hok_hv16.1]; omega) (.int (o17 + 1)) rfl 253 rfl (fun T w => ?_)
          replace w := w.to (L' := [(t, O_SmallGroups (.ref me) (.ref ki) (.int (4 : Int32)) (.ref ba) (.ref am) (.int mo) (.int up) (.ref sr) (.ref ho) (.int ct) .null .null (.long ls)), (sa, .inr (.long, [(.long x0), (.long x1), (.long x2), (.long x3)])), (ba, .inr (.int, [(.int (0 : Int32)), (.int (1 : Int32)), (.int (2 : Int32)), (.int (3 : Int32))])), (me, .inr (.int, ms)), (ki, .inr (.byte, ks)), (am, .inr (.long, [(.long x0), (.long x1), (.long x2), (.long x3)])), (sr, .inr (.int, (own_S ms (4 * g + 1 + 1 + 1)))), (ho, .inr (.int, (hv16.set (5 * j2 + kk) (.int (o17 + 1)))))]) rfl
          obtain ⟨hv18, hhv18⟩ : ∃ own_z, own_z = (hv16.set (5 * j2 + kk) (.int (o17 + 1))) := ⟨_, rfl⟩
          have hok_hv18 : own_ok hv18 := by rw [hhv18]; exact own_ok_set hok_hv16 _ _
          replace w := w.to (L' := [(t, O_SmallGroups (.ref me) (.ref ki) (.int (4 : Int32)) (.ref ba) (.ref am) (.int mo) (.int up) (.ref sr) (.ref ho) (.int ct) .null .null (.long ls)), (sa, .inr (.long, [(.long x0), (.long x1), (.long x2), (.long x3)])), (ba, .inr (.int, [(.int (0 : Int32)), (.int (1 : Int32)), (.int (2 : Int32)), (.int (3 : Int32))])), (me, .inr (.int, ms)), (ki, .inr (.byte, ks)), (am, .inr (.long, [(.long x0), (.long x1), (.long x2), (.long x3)])), (sr, .inr (.int, (own_S ms (4 * g + 1 + 1 + 1)))), (ho, .inr (.int, hv18))]) (by rw [hhv18])
          refine g_iinc w d3_253 256 rfl rfl rfl #[.val (.ref t), .val (.ref sa), .val (.ref ba), .val (.long sp), .second, .val (.int mo), .val (.long (16 : Int64)), .second, .val (.int up), .val (.int gi), .val (.int (((ap + (1 : Int32)) + (1 : Int32)) + (1 : Int32))), .unset] rfl ?_
          refine g_goto w d3_256 193 (by decide) (by decide) ?_
          refine g_iload w d3_193 rfl 195 rfl ?_
          refine g_iconst w d3_195 (4 : Int32) rfl 196 rfl ?_
          refine g_iload w d3_196 rfl 198 rfl ?_
          refine g_imul w d3_198 199 rfl ?_
          refine g_aloadN w d3_199 rfl rfl 200 rfl ?_
          refine g_iload w d3_200 rfl 202 rfl ?_
          refine g_priv w (argsL := [(.int gi)]) (rest := [(.int ((4 : Int32) * gi)), (.int (((ap + (1 : Int32)) + (1 : Int32)) + (1 : Int32)))]) (rm13 l Z a0 hw n0 t me ms (.ref ki) (.int (4 : Int32)) (.ref ba) (.ref am) (.int mo) (.int up) (.ref sr) (.ref ho) (.int ct) .null .null (.long ls) [(t, O_SmallGroups (.ref me) (.ref ki) (.int (4 : Int32)) (.ref ba) (.ref am) (.int mo) (.int up) (.ref sr) (.ref ho) (.int ct) .null .null (.long ls)), (sa, .inr (.long, [(.long x0), (.long x1), (.long x2), (.long x3)])), (ba, .inr (.int, [(.int (0 : Int32)), (.int (1 : Int32)), (.int (2 : Int32)), (.int (3 : Int32))])), (me, .inr (.int, ms)), (ki, .inr (.byte, ks)), (am, .inr (.long, [(.long x0), (.long x1), (.long x2), (.long x3)])), (sr, .inr (.int, (own_S ms (4 * g + 1 + 1 + 1)))), (ho, .inr (.int, hv18))] 0 3 g gi z3 rfl rfl hgi (by omega) hz3) d3_202 0 rfl 84 rfl 85 rfl 10 rfl 87 rfl 86 rfl 9 rfl ⟨by decide, by decide⟩ pd_4 rfl rfl rfl 2 rfl (by decide) (by decide) (by decide) (by decide) 205 rfl (fun T v L w h => ?_)
          obtain ⟨rfl, hL⟩ := h
          replace w := w.to hL
          refine g_int (x' := (3 : Int32)) (if_pos hzn) ?_
          refine g_iadd w d3_205 206 rfl ?_
          refine g_icmp_ge w d3_206 259 (by decide) (by decide) 209 rfl (fun hc206 => ?_) (fun h => absurd h (fun q => by have := (own_ltN (own_inc (own_inc (own_inc hap' (by omega)) (by omega)) (by omega)) (own_add3 (own_mul4 hgi (by omega)) (by omega))).mp q; omega))
          refine g_iinc w d3_259 262 rfl rfl rfl #[.val (.ref t), .val (.ref sa), .val (.ref ba), .val (.long sp), .second, .val (.int mo), .val (.long (16 : Int64)), .second, .val (.int up), .val (.int (gi + (1 : Int32))), .val (.int (((ap + (1 : Int32)) + (1 : Int32)) + (1 : Int32))), .unset] rfl ?_
          refine g_goto w d3_262 178 (by decide) (by decide) ?_
          exact ih T (gi + 1) (g + 1) hv18 _ (own_inc hgi (by omega)) (by omega) hok_hv18 (Or.inr ⟨_, rfl⟩) (w.to (L' := [(t, O_SmallGroups (.ref me) (.ref ki) (.int (4 : Int32)) (.ref ba) (.ref am) (.int mo) (.int up) (.ref sr) (.ref ho) (.int ct) .null .null (.long ls)), (sa, .inr (.long, [(.long x0), (.long x1), (.long x2), (.long x3)])), (ba, .inr (.int, [(.int (0 : Int32)), (.int (1 : Int32)), (.int (2 : Int32)), (.int (3 : Int32))])), (me, .inr (.int, ms)), (ki, .inr (.byte, ks)), (am, .inr (.long, [(.long x0), (.long x1), (.long x2), (.long x3)])), (sr, .inr (.int, (own_S ms (4 * (g + 1))))), (ho, .inr (.int, hv18))]) (by rw [own_S_skip hz3 hzm]; rfl))
        · -- pc 187 4 items
          refine g_iconst w d3_187 (4 : Int32) rfl 188 rfl ?_
          refine g_iload w d3_188 rfl 190 rfl ?_
          refine g_imul w d3_190 191 rfl ?_
          obtain ⟨ap, hap⟩ : ∃ own_z, own_z = (((4 : Int32) * gi) : Int32) := ⟨_, rfl⟩
          have hap' : ap.toInt = ((4 * g : Nat) : Int) := by rw [hap]; exact own_mul4 hgi (by omega)
          refine g_istore w d3_191 193 rfl hap.symm #[.val (.ref t), .val (.ref sa), .val (.ref ba), .val (.long sp), .second, .val (.int mo), .val (.long (16 : Int64)), .second, .val (.int up), .val (.int gi), .val (.int ap), .unset] (by rcases hs10 with rfl | ⟨z, rfl⟩ <;> rfl) ?_
          refine g_iload w d3_193 rfl 195 rfl ?_
          refine g_iconst w d3_195 (4 : Int32) rfl 196 rfl ?_
          refine g_iload w d3_196 rfl 198 rfl ?_
          refine g_imul w d3_198 199 rfl ?_
          refine g_aloadN w d3_199 rfl rfl 200 rfl ?_
          refine g_iload w d3_200 rfl 202 rfl ?_
          refine g_priv w (argsL := [(.int gi)]) (rest := [(.int ((4 : Int32) * gi)), (.int ap)]) (rm13 l Z a0 hw n0 t me ms (.ref ki) (.int (4 : Int32)) (.ref ba) (.ref am) (.int mo) (.int up) (.ref sr) (.ref ho) (.int ct) .null .null (.long ls) [(t, O_SmallGroups (.ref me) (.ref ki) (.int (4 : Int32)) (.ref ba) (.ref am) (.int mo) (.int up) (.ref sr) (.ref ho) (.int ct) .null .null (.long ls)), (sa, .inr (.long, [(.long x0), (.long x1), (.long x2), (.long x3)])), (ba, .inr (.int, [(.int (0 : Int32)), (.int (1 : Int32)), (.int (2 : Int32)), (.int (3 : Int32))])), (me, .inr (.int, ms)), (ki, .inr (.byte, ks)), (am, .inr (.long, [(.long x0), (.long x1), (.long x2), (.long x3)])), (sr, .inr (.int, (own_S ms (4 * g)))), (ho, .inr (.int, hv))] 0 3 g gi z3 rfl rfl hgi (by omega) hz3) d3_202 0 rfl 84 rfl 85 rfl 10 rfl 87 rfl 86 rfl 9 rfl ⟨by decide, by decide⟩ pd_4 rfl rfl rfl 2 rfl (by decide) (by decide) (by decide) (by decide) 205 rfl (fun T v L w h => ?_)
          obtain ⟨rfl, hL⟩ := h
          replace w := w.to hL
          refine g_int (x' := (4 : Int32)) (if_neg hzn) ?_
          refine g_iadd w d3_205 206 rfl ?_
          refine g_icmp_ge w d3_206 259 (by decide) (by decide) 209 rfl (fun h => absurd ((own_ltN hap' (own_add4 (own_mul4 hgi (by omega)) (by omega))).mpr (by omega)) h) (fun hc206 => ?_)
          refine g_aloadN w d3_209 rfl rfl 210 rfl ?_
          refine g_getf w d3_210 0 rfl 7 rfl 35 rfl Via.refl 213 rfl (fun T w => ?_)
          refine g_aloadN w d3_213 rfl rfl 214 rfl ?_
          refine g_getf w d3_214 0 rfl 0 rfl 19 rfl Via.refl 217 rfl (fun T w => ?_)
          refine g_iload w d3_217 rfl 219 rfl ?_
          refine g_iaload w d3_219 3 rfl (4 * g) hap' hz0 220 rfl ?_
          refine g_iconst w d3_220 (1 : Int32) rfl 221 rfl ?_
          refine g_iadd w d3_221 222 rfl ?_
          refine g_dup2 w d3_222 rfl rfl 223 rfl ?_
          refine g_iaload w d3_223 6 rfl (j0 + 1) (own_inc hj0 (by omega)) (own_S_get hl0) 224 rfl ?_
          refine g_iconst w d3_224 (1 : Int32) rfl 225 rfl ?_
          refine g_iadd w d3_225 226 rfl ?_
          refine g_iastore w d3_226 6 rfl (j0 + 1) (own_inc hj0 (by omega)) (show j0 + 1 < 5 by omega) (.int (Int32.ofNat (own_n ms j0 (4 * g)) + 1)) rfl 227 rfl (fun T w => ?_)
          replace w := w.to (L' := [(t, O_SmallGroups (.ref me) (.ref ki) (.int (4 : Int32)) (.ref ba) (.ref am) (.int mo) (.int up) (.ref sr) (.ref ho) (.int ct) .null .null (.long ls)), (sa, .inr (.long, [(.long x0), (.long x1), (.long x2), (.long x3)])), (ba, .inr (.int, [(.int (0 : Int32)), (.int (1 : Int32)), (.int (2 : Int32)), (.int (3 : Int32))])), (me, .inr (.int, ms)), (ki, .inr (.byte, ks)), (am, .inr (.long, [(.long x0), (.long x1), (.long x2), (.long x3)])), (sr, .inr (.int, ((own_S ms (4 * g)).set (j0 + 1) (.int (Int32.ofNat (own_n ms j0 (4 * g)) + 1))))), (ho, .inr (.int, hv))]) rfl
          replace w := w.to (L' := [(t, O_SmallGroups (.ref me) (.ref ki) (.int (4 : Int32)) (.ref ba) (.ref am) (.int mo) (.int up) (.ref sr) (.ref ho) (.int ct) .null .null (.long ls)), (sa, .inr (.long, [(.long x0), (.long x1), (.long x2), (.long x3)])), (ba, .inr (.int, [(.int (0 : Int32)), (.int (1 : Int32)), (.int (2 : Int32)), (.int (3 : Int32))])), (me, .inr (.int, ms)), (ki, .inr (.byte, ks)), (am, .inr (.long, [(.long x0), (.long x1), (.long x2), (.long x3)])), (sr, .inr (.int, (own_S ms (4 * g + 1)))), (ho, .inr (.int, hv))]) (by rw [own_S_set hz0 hj0 hl0])
          refine g_aloadN w d3_227 rfl rfl 228 rfl ?_
          refine g_getf w d3_228 0 rfl 8 rfl 37 rfl Via.refl 231 rfl (fun T w => ?_)
          refine g_iconst w d3_231 (5 : Int32) rfl 232 rfl ?_
          refine g_aloadN w d3_232 rfl rfl 233 rfl ?_
          refine g_getf w d3_233 0 rfl 0 rfl 19 rfl Via.refl 236 rfl (fun T w => ?_)
          refine g_iload w d3_236 rfl 238 rfl ?_
          refine g_iaload w d3_238 3 rfl (4 * g) hap' hz0 239 rfl ?_
          refine g_imul w d3_239 240 rfl ?_
          refine g_aloadN w d3_240 rfl rfl 241 rfl ?_
          refine g_getf w d3_241 0 rfl 1 rfl 22 rfl Via.refl 244 rfl (fun T w => ?_)
          refine g_iload w d3_244 rfl 246 rfl ?_
          refine g_baload w d3_246 4 rfl g hgi hkz 247 rfl ?_
          refine g_iadd w d3_247 248 rfl ?_
          refine g_dup2 w d3_248 rfl rfl 249 rfl ?_
          obtain ⟨o19, ho19⟩ := hok_hv.2 (5 * j0 + kk) (by omega)
          refine g_iaload w d3_249 7 rfl (5 * j0 + kk) (own_ix5 hj0 hl0 hkk hl5) ho19 250 rfl ?_
          refine g_iconst w d3_250 (1 : Int32) rfl 251 rfl ?_
          refine g_iadd w d3_251 252 rfl ?_
          refine g_iastore w d3_252 7 rfl (5 * j0 + kk) (own_ix5 hj0 hl0 hkk hl5) (by rw [hok_hv.1]; omega) (.int (o19 + 1)) rfl 253 rfl (fun T w => ?_)
          replace w := w.to (L' := [(t, O_SmallGroups (.ref me) (.ref ki) (.int (4 : Int32)) (.ref ba) (.ref am) (.int mo) (.int up) (.ref sr) (.ref ho) (.int ct) .null .null (.long ls)), (sa, .inr (.long, [(.long x0), (.long x1), (.long x2), (.long x3)])), (ba, .inr (.int, [(.int (0 : Int32)), (.int (1 : Int32)), (.int (2 : Int32)), (.int (3 : Int32))])), (me, .inr (.int, ms)), (ki, .inr (.byte, ks)), (am, .inr (.long, [(.long x0), (.long x1), (.long x2), (.long x3)])), (sr, .inr (.int, (own_S ms (4 * g + 1)))), (ho, .inr (.int, (hv.set (5 * j0 + kk) (.int (o19 + 1)))))]) rfl
          obtain ⟨hv20, hhv20⟩ : ∃ own_z, own_z = (hv.set (5 * j0 + kk) (.int (o19 + 1))) := ⟨_, rfl⟩
          have hok_hv20 : own_ok hv20 := by rw [hhv20]; exact own_ok_set hok_hv _ _
          replace w := w.to (L' := [(t, O_SmallGroups (.ref me) (.ref ki) (.int (4 : Int32)) (.ref ba) (.ref am) (.int mo) (.int up) (.ref sr) (.ref ho) (.int ct) .null .null (.long ls)), (sa, .inr (.long, [(.long x0), (.long x1), (.long x2), (.long x3)])), (ba, .inr (.int, [(.int (0 : Int32)), (.int (1 : Int32)), (.int (2 : Int32)), (.int (3 : Int32))])), (me, .inr (.int, ms)), (ki, .inr (.byte, ks)), (am, .inr (.long, [(.long x0), (.long x1), (.long x2), (.long x3)])), (sr, .inr (.int, (own_S ms (4 * g + 1)))), (ho, .inr (.int, hv20))]) (by rw [hhv20])
          refine g_iinc w d3_253 256 rfl rfl rfl #[.val (.ref t), .val (.ref sa), .val (.ref ba), .val (.long sp), .second, .val (.int mo), .val (.long (16 : Int64)), .second, .val (.int up), .val (.int gi), .val (.int (ap + (1 : Int32))), .unset] rfl ?_
          refine g_goto w d3_256 193 (by decide) (by decide) ?_
          refine g_iload w d3_193 rfl 195 rfl ?_
          refine g_iconst w d3_195 (4 : Int32) rfl 196 rfl ?_
          refine g_iload w d3_196 rfl 198 rfl ?_
          refine g_imul w d3_198 199 rfl ?_
          refine g_aloadN w d3_199 rfl rfl 200 rfl ?_
          refine g_iload w d3_200 rfl 202 rfl ?_
          refine g_priv w (argsL := [(.int gi)]) (rest := [(.int ((4 : Int32) * gi)), (.int (ap + (1 : Int32)))]) (rm13 l Z a0 hw n0 t me ms (.ref ki) (.int (4 : Int32)) (.ref ba) (.ref am) (.int mo) (.int up) (.ref sr) (.ref ho) (.int ct) .null .null (.long ls) [(t, O_SmallGroups (.ref me) (.ref ki) (.int (4 : Int32)) (.ref ba) (.ref am) (.int mo) (.int up) (.ref sr) (.ref ho) (.int ct) .null .null (.long ls)), (sa, .inr (.long, [(.long x0), (.long x1), (.long x2), (.long x3)])), (ba, .inr (.int, [(.int (0 : Int32)), (.int (1 : Int32)), (.int (2 : Int32)), (.int (3 : Int32))])), (me, .inr (.int, ms)), (ki, .inr (.byte, ks)), (am, .inr (.long, [(.long x0), (.long x1), (.long x2), (.long x3)])), (sr, .inr (.int, (own_S ms (4 * g + 1)))), (ho, .inr (.int, hv20))] 0 3 g gi z3 rfl rfl hgi (by omega) hz3) d3_202 0 rfl 84 rfl 85 rfl 10 rfl 87 rfl 86 rfl 9 rfl ⟨by decide, by decide⟩ pd_4 rfl rfl rfl 2 rfl (by decide) (by decide) (by decide) (by decide) 205 rfl (fun T v L w h => ?_)
          obtain ⟨rfl, hL⟩ := h
          replace w := w.to hL
          refine g_int (x' := (4 : Int32)) (if_neg hzn) ?_
          refine g_iadd w d3_205 206 rfl ?_
          refine g_icmp_ge w d3_206 259 (by decide) (by decide) 209 rfl (fun h => absurd ((own_ltN (own_inc hap' (by omega)) (own_add4 (own_mul4 hgi (by omega)) (by omega))).mpr (by omega)) h) (fun hc206 => ?_)
          refine g_aloadN w d3_209 rfl rfl 210 rfl ?_
          refine g_getf w d3_210 0 rfl 7 rfl 35 rfl Via.refl 213 rfl (fun T w => ?_)
          refine g_aloadN w d3_213 rfl rfl 214 rfl ?_
          refine g_getf w d3_214 0 rfl 0 rfl 19 rfl Via.refl 217 rfl (fun T w => ?_)
          refine g_iload w d3_217 rfl 219 rfl ?_
          refine g_iaload w d3_219 3 rfl (4 * g + 1) (own_inc hap' (by omega)) hz1 220 rfl ?_
          refine g_iconst w d3_220 (1 : Int32) rfl 221 rfl ?_
          refine g_iadd w d3_221 222 rfl ?_
          refine g_dup2 w d3_222 rfl rfl 223 rfl ?_
          refine g_iaload w d3_223 6 rfl (j1 + 1) (own_inc hj1 (by omega)) (own_S_get hl1) 224 rfl ?_
          refine g_iconst w d3_224 (1 : Int32) rfl 225 rfl ?_
          refine g_iadd w d3_225 226 rfl ?_
          refine g_iastore w d3_226 6 rfl (j1 + 1) (own_inc hj1 (by omega)) (show j1 + 1 < 5 by omega) (.int (Int32.ofNat (own_n ms j1 (4 * g + 1)) + 1)) rfl 227 rfl (fun T w => ?_)
          replace w := w.to (L' := [(t, O_SmallGroups (.ref me) (.ref ki) (.int (4 : Int32)) (.ref ba) (.ref am) (.int mo) (.int up) (.ref sr) (.ref ho) (.int ct) .null .null (.long ls)), (sa, .inr (.long, [(.long x0), (.long x1), (.long x2), (.long x3)])), (ba, .inr (.int, [(.int (0 : Int32)), (.int (1 : Int32)), (.int (2 : Int32)), (.int (3 : Int32))])), (me, .inr (.int, ms)), (ki, .inr (.byte, ks)), (am, .inr (.long, [(.long x0), (.long x1), (.long x2), (.long x3)])), (sr, .inr (.int, ((own_S ms (4 * g + 1)).set (j1 + 1) (.int (Int32.ofNat (own_n ms j1 (4 * g + 1)) + 1))))), (ho, .inr (.int, hv20))]) rfl
          replace w := w.to (L' := [(t, O_SmallGroups (.ref me) (.ref ki) (.int (4 : Int32)) (.ref ba) (.ref am) (.int mo) (.int up) (.ref sr) (.ref ho) (.int ct) .null .null (.long ls)), (sa, .inr (.long, [(.long x0), (.long x1), (.long x2), (.long x3)])), (ba, .inr (.int, [(.int (0 : Int32)), (.int (1 : Int32)), (.int (2 : Int32)), (.int (3 : Int32))])), (me, .inr (.int, ms)), (ki, .inr (.byte, ks)), (am, .inr (.long, [(.long x0), (.long x1), (.long x2), (.long x3)])), (sr, .inr (.int, (own_S ms (4 * g + 1 + 1)))), (ho, .inr (.int, hv20))]) (by rw [own_S_set hz1 hj1 hl1])
          refine g_aloadN w d3_227 rfl rfl 228 rfl ?_
          refine g_getf w d3_228 0 rfl 8 rfl 37 rfl Via.refl 231 rfl (fun T w => ?_)
          refine g_iconst w d3_231 (5 : Int32) rfl 232 rfl ?_
          refine g_aloadN w d3_232 rfl rfl 233 rfl ?_
          refine g_getf w d3_233 0 rfl 0 rfl 19 rfl Via.refl 236 rfl (fun T w => ?_)
          refine g_iload w d3_236 rfl 238 rfl ?_
          refine g_iaload w d3_238 3 rfl (4 * g + 1) (own_inc hap' (by omega)) hz1 239 rfl ?_
          refine g_imul w d3_239 240 rfl ?_
          refine g_aloadN w d3_240 rfl rfl 241 rfl ?_
          refine g_getf w d3_241 0 rfl 1 rfl 22 rfl Via.refl 244 rfl (fun T w => ?_)
          refine g_iload w d3_244 rfl 246 rfl ?_
          refine g_baload w d3_246 4 rfl g hgi hkz 247 rfl ?_
          refine g_iadd w d3_247 248 rfl ?_
          refine g_dup2 w d3_248 rfl rfl 249 rfl ?_
          obtain ⟨o21, ho21⟩ := hok_hv20.2 (5 * j1 + kk) (by omega)
          refine g_iaload w d3_249 7 rfl (5 * j1 + kk) (own_ix5 hj1 hl1 hkk hl5) ho21 250 rfl ?_
          refine g_iconst w d3_250 (1 : Int32) rfl 251 rfl ?_
          refine g_iadd w d3_251 252 rfl ?_
          refine g_iastore w d3_252 7 rfl (5 * j1 + kk) (own_ix5 hj1 hl1 hkk hl5) (by rw [hok_hv20.1]; omega) (.int (o21 + 1)) rfl 253 rfl (fun T w => ?_)
          replace w := w.to (L' := [(t, O_SmallGroups (.ref me) (.ref ki) (.int (4 : Int32)) (.ref ba) (.ref am) (.int mo) (.int up) (.ref sr) (.ref ho) (.int ct) .null .null (.long ls)), (sa, .inr (.long, [(.long x0), (.long x1), (.long x2), (.long x3)])), (ba, .inr (.int, [(.int (0 : Int32)), (.int (1 : Int32)), (.int (2 : Int32)), (.int (3 : Int32))])), (me, .inr (.int, ms)), (ki, .inr (.byte, ks)), (am, .inr (.long, [(.long x0), (.long x1), (.long x2), (.long x3)])), (sr, .inr (.int, (own_S ms (4 * g + 1 + 1)))), (ho, .inr (.int, (hv20.set (5 * j1 + kk) (.int (o21 + 1)))))]) rfl
          obtain ⟨hv22, hhv22⟩ : ∃ own_z, own_z = (hv20.set (5 * j1 + kk) (.int (o21 + 1))) := ⟨_, rfl⟩
          have hok_hv22 : own_ok hv22 := by rw [hhv22]; exact own_ok_set hok_hv20 _ _
          replace w := w.to (L' := [(t, O_SmallGroups (.ref me) (.ref ki) (.int (4 : Int32)) (.ref ba) (.ref am) (.int mo) (.int up) (.ref sr) (.ref ho) (.int ct) .null .null (.long ls)), (sa, .inr (.long, [(.long x0), (.long x1), (.long x2), (.long x3)])), (ba, .inr (.int, [(.int (0 : Int32)), (.int (1 : Int32)), (.int (2 : Int32)), (.int (3 : Int32))])), (me, .inr (.int, ms)), (ki, .inr (.byte, ks)), (am, .inr (.long, [(.long x0), (.long x1), (.long x2), (.long x3)])), (sr, .inr (.int, (own_S ms (4 * g + 1 + 1)))), (ho, .inr (.int, hv22))]) (by rw [hhv22])
          refine g_iinc w d3_253 256 rfl rfl rfl #[.val (.ref t), .val (.ref sa), .val (.ref ba), .val (.long sp), .second, .val (.int mo), .val (.long (16 : Int64)), .second, .val (.int up), .val (.int gi), .val (.int ((ap + (1 : Int32)) + (1 : Int32))), .unset] rfl ?_
          refine g_goto w d3_256 193 (by decide) (by decide) ?_
          refine g_iload w d3_193 rfl 195 rfl ?_
          refine g_iconst w d3_195 (4 : Int32) rfl 196 rfl ?_
          refine g_iload w d3_196 rfl 198 rfl ?_
          refine g_imul w d3_198 199 rfl ?_
          refine g_aloadN w d3_199 rfl rfl 200 rfl ?_
          refine g_iload w d3_200 rfl 202 rfl ?_
          refine g_priv w (argsL := [(.int gi)]) (rest := [(.int ((4 : Int32) * gi)), (.int ((ap + (1 : Int32)) + (1 : Int32)))]) (rm13 l Z a0 hw n0 t me ms (.ref ki) (.int (4 : Int32)) (.ref ba) (.ref am) (.int mo) (.int up) (.ref sr) (.ref ho) (.int ct) .null .null (.long ls) [(t, O_SmallGroups (.ref me) (.ref ki) (.int (4 : Int32)) (.ref ba) (.ref am) (.int mo) (.int up) (.ref sr) (.ref ho) (.int ct) .null .null (.long ls)), (sa, .inr (.long, [(.long x0), (.long x1), (.long x2), (.long x3)])), (ba, .inr (.int, [(.int (0 : Int32)), (.int (1 : Int32)), (.int (2 : Int32)), (.int (3 : Int32))])), (me, .inr (.int, ms)), (ki, .inr (.byte, ks)), (am, .inr (.long, [(.long x0), (.long x1), (.long x2), (.long x3)])), (sr, .inr (.int, (own_S ms (4 * g + 1 + 1)))), (ho, .inr (.int, hv22))] 0 3 g gi z3 rfl rfl hgi (by omega) hz3) d3_202 0 rfl 84 rfl 85 rfl 10 rfl 87 rfl 86 rfl 9 rfl ⟨by decide, by decide⟩ pd_4 rfl rfl rfl 2 rfl (by decide) (by decide) (by decide) (by decide) 205 rfl (fun T v L w h => ?_)
          obtain ⟨rfl, hL⟩ := h
          replace w := w.to hL
          refine g_int (x' := (4 : Int32)) (if_neg hzn) ?_
          refine g_iadd w d3_205 206 rfl ?_
          refine g_icmp_ge w d3_206 259 (by decide) (by decide) 209 rfl (fun h => absurd ((own_ltN (own_inc (own_inc hap' (by omega)) (by omega)) (own_add4 (own_mul4 hgi (by omega)) (by omega))).mpr (by omega)) h) (fun hc206 => ?_)
          refine g_aloadN w d3_209 rfl rfl 210 rfl ?_
          refine g_getf w d3_210 0 rfl 7 rfl 35 rfl Via.refl 213 rfl (fun T w => ?_)
          refine g_aloadN w d3_213 rfl rfl 214 rfl ?_
          refine g_getf w d3_214 0 rfl 0 rfl 19 rfl Via.refl 217 rfl (fun T w => ?_)
          refine g_iload w d3_217 rfl 219 rfl ?_
          refine g_iaload w d3_219 3 rfl (4 * g + 1 + 1) (own_inc (own_inc hap' (by omega)) (by omega)) hz2 220 rfl ?_
          refine g_iconst w d3_220 (1 : Int32) rfl 221 rfl ?_
          refine g_iadd w d3_221 222 rfl ?_
          refine g_dup2 w d3_222 rfl rfl 223 rfl ?_
          refine g_iaload w d3_223 6 rfl (j2 + 1) (own_inc hj2 (by omega)) (own_S_get hl2) 224 rfl ?_
          refine g_iconst w d3_224 (1 : Int32) rfl 225 rfl ?_
          refine g_iadd w d3_225 226 rfl ?_
          refine g_iastore w d3_226 6 rfl (j2 + 1) (own_inc hj2 (by omega)) (show j2 + 1 < 5 by omega) (.int (Int32.ofNat (own_n ms j2 (4 * g + 1 + 1)) + 1)) rfl 227 rfl (fun T w => ?_)
          replace w := w.to (L' := [(t, O_SmallGroups (.ref me) (.ref ki) (.int (4 : Int32)) (.ref ba) (.ref am) (.int mo) (.int up) (.ref sr) (.ref ho) (.int ct) .null .null (.long ls)), (sa, .inr (.long, [(.long x0), (.long x1), (.long x2), (.long x3)])), (ba, .inr (.int, [(.int (0 : Int32)), (.int (1 : Int32)), (.int (2 : Int32)), (.int (3 : Int32))])), (me, .inr (.int, ms)), (ki, .inr (.byte, ks)), (am, .inr (.long, [(.long x0), (.long x1), (.long x2), (.long x3)])), (sr, .inr (.int, ((own_S ms (4 * g + 1 + 1)).set (j2 + 1) (.int (Int32.ofNat (own_n ms j2 (4 * g + 1 + 1)) + 1))))), (ho, .inr (.int, hv22))]) rfl
          replace w := w.to (L' := [(t, O_SmallGroups (.ref me) (.ref ki) (.int (4 : Int32)) (.ref ba) (.ref am) (.int mo) (.int up) (.ref sr) (.ref ho) (.int ct) .null .null (.long ls)), (sa, .inr (.long, [(.long x0), (.long x1), (.long x2), (.long x3)])), (ba, .inr (.int, [(.int (0 : Int32)), (.int (1 : Int32)), (.int (2 : Int32)), (.int (3 : Int32))])), (me, .inr (.int, ms)), (ki, .inr (.byte, ks)), (am, .inr (.long, [(.long x0), (.long x1), (.long x2), (.long x3)])), (sr, .inr (.int, (own_S ms (4 * g + 1 + 1 + 1)))), (ho, .inr (.int, hv22))]) (by rw [own_S_set hz2 hj2 hl2])
          refine g_aloadN w d3_227 rfl rfl 228 rfl ?_
          refine g_getf w d3_228 0 rfl 8 rfl 37 rfl Via.refl 231 rfl (fun T w => ?_)
          refine g_iconst w d3_231 (5 : Int32) rfl 232 rfl ?_
          refine g_aloadN w d3_232 rfl rfl 233 rfl ?_
          refine g_getf w d3_233 0 rfl 0 rfl 19 rfl Via.refl 236 rfl (fun T w => ?_)
          refine g_iload w d3_236 rfl 238 rfl ?_
          refine g_iaload w d3_238 3 rfl (4 * g + 1 + 1) (own_inc (own_inc hap' (by omega)) (by omega)) hz2 239 rfl ?_
          refine g_imul w d3_239 240 rfl ?_
          refine g_aloadN w d3_240 rfl rfl 241 rfl ?_
          refine g_getf w d3_241 0 rfl 1 rfl 22 rfl Via.refl 244 rfl (fun T w => ?_)
          refine g_iload w d3_244 rfl 246 rfl ?_
          refine g_baload w d3_246 4 rfl g hgi hkz 247 rfl ?_
          refine g_iadd w d3_247 248 rfl ?_
          refine g_dup2 w d3_248 rfl rfl 249 rfl ?_
          obtain ⟨o23, ho23⟩ := hok_hv22.2 (5 * j2 + kk) (by omega)
          refine g_iaload w d3_249 7 rfl (5 * j2 + kk) (own_ix5 hj2 hl2 hkk hl5) ho23 250 rfl ?_
          refine g_iconst w d3_250 (1 : Int32) rfl 251 rfl ?_
          refine g_iadd w d3_251 252 rfl ?_
          refine g_iastore w d3_252 7 rfl (5 * j2 + kk) (own_ix5 hj2 hl2 hkk hl5) (by rw [hok_hv22.1]; omega) (.int (o23 + 1)) rfl 253 rfl (fun T w => ?_)
          replace w := w.to (L' := [(t, O_SmallGroups (.ref me) (.ref ki) (.int (4 : Int32)) (.ref ba) (.ref am) (.int mo) (.int up) (.ref sr) (.ref ho) (.int ct) .null .null (.long ls)), (sa, .inr (.long, [(.long x0), (.long x1), (.long x2), (.long x3)])), (ba, .inr (.int, [(.int (0 : Int32)), (.int (1 : Int32)), (.int (2 : Int32)), (.int (3 : Int32))])), (me, .inr (.int, ms)), (ki, .inr (.byte, ks)), (am, .inr (.long, [(.long x0), (.long x1), (.long x2), (.long x3)])), (sr, .inr (.int, (own_S ms (4 * g + 1 + 1 + 1)))), (ho, .inr (.int, (hv22.set (5 * j2 + kk) (.int (o23 + 1)))))]) rfl
          obtain ⟨hv24, hhv24⟩ : ∃ own_z, own_z = (hv22.set (5 * j2 + kk) (.int (o23 + 1))) := ⟨_, rfl⟩
          have hok_hv24 : own_ok hv24 := by rw [hhv24]; exact own_ok_set hok_hv22 _ _
          replace w := w.to (L' := [(t, O_SmallGroups (.ref me) (.ref ki) (.int (4 : Int32)) (.ref ba) (.ref am) (.int mo) (.int up) (.ref sr) (.ref ho) (.int ct) .null .null (.long ls)), (sa, .inr (.long, [(.long x0), (.long x1), (.long x2), (.long x3)])), (ba, .inr (.int, [(.int (0 : Int32)), (.int (1 : Int32)), (.int (2 : Int32)), (.int (3 : Int32))])), (me, .inr (.int, ms)), (ki, .inr (.byte, ks)), (am, .inr (.long, [(.long x0), (.long x1), (.long x2), (.long x3)])), (sr, .inr (.int, (own_S ms (4 * g + 1 + 1 + 1)))), (ho, .inr (.int, hv24))]) (by rw [hhv24])
          refine g_iinc w d3_253 256 rfl rfl rfl #[.val (.ref t), .val (.ref sa), .val (.ref ba), .val (.long sp), .second, .val (.int mo), .val (.long (16 : Int64)), .second, .val (.int up), .val (.int gi), .val (.int (((ap + (1 : Int32)) + (1 : Int32)) + (1 : Int32))), .unset] rfl ?_
          refine g_goto w d3_256 193 (by decide) (by decide) ?_
          refine g_iload w d3_193 rfl 195 rfl ?_
          refine g_iconst w d3_195 (4 : Int32) rfl 196 rfl ?_
          refine g_iload w d3_196 rfl 198 rfl ?_
          refine g_imul w d3_198 199 rfl ?_
          refine g_aloadN w d3_199 rfl rfl 200 rfl ?_
          refine g_iload w d3_200 rfl 202 rfl ?_
          refine g_priv w (argsL := [(.int gi)]) (rest := [(.int ((4 : Int32) * gi)), (.int (((ap + (1 : Int32)) + (1 : Int32)) + (1 : Int32)))]) (rm13 l Z a0 hw n0 t me ms (.ref ki) (.int (4 : Int32)) (.ref ba) (.ref am) (.int mo) (.int up) (.ref sr) (.ref ho) (.int ct) .null .null (.long ls) [(t, O_SmallGroups (.ref me) (.ref ki) (.int (4 : Int32)) (.ref ba) (.ref am) (.int mo) (.int up) (.ref sr) (.ref ho) (.int ct) .null .null (.long ls)), (sa, .inr (.long, [(.long x0), (.long x1), (.long x2), (.long x3)])), (ba, .inr (.int, [(.int (0 : Int32)), (.int (1 : Int32)), (.int (2 : Int32)), (.int (3 : Int32))])), (me, .inr (.int, ms)), (ki, .inr (.byte, ks)), (am, .inr (.long, [(.long x0), (.long x1), (.long x2), (.long x3)])), (sr, .inr (.int, (own_S ms (4 * g + 1 + 1 + 1)))), (ho, .inr (.int, hv24))] 0 3 g gi z3 rfl rfl hgi (by omega) hz3) d3_202 0 rfl 84 rfl 85 rfl 10 rfl 87 rfl 86 rfl 9 rfl ⟨by decide, by decide⟩ pd_4 rfl rfl rfl 2 rfl (by decide) (by decide) (by decide) (by decide) 205 rfl (fun T v L w h => ?_)
          obtain ⟨rfl, hL⟩ := h
          replace w := w.to hL
          refine g_int (x' := (4 : Int32)) (if_neg hzn) ?_
          refine g_iadd w d3_205 206 rfl ?_
          refine g_icmp_ge w d3_206 259 (by decide) (by decide) 209 rfl (fun h => absurd ((own_ltN (own_inc (own_inc (own_inc hap' (by omega)) (by omega)) (by omega)) (own_add4 (own_mul4 hgi (by omega)) (by omega))).mpr (by omega)) h) (fun hc206 => ?_)
          refine g_aloadN w d3_209 rfl rfl 210 rfl ?_
          refine g_getf w d3_210 0 rfl 7 rfl 35 rfl Via.refl 213 rfl (fun T w => ?_)
          refine g_aloadN w d3_213 rfl rfl 214 rfl ?_
          refine g_getf w d3_214 0 rfl 0 rfl 19 rfl Via.refl 217 rfl (fun T w => ?_)
          refine g_iload w d3_217 rfl 219 rfl ?_
          refine g_iaload w d3_219 3 rfl (4 * g + 1 + 1 + 1) (own_inc (own_inc (own_inc hap' (by omega)) (by omega)) (by omega)) hz3 220 rfl ?_
          refine g_iconst w d3_220 (1 : Int32) rfl 221 rfl ?_
          refine g_iadd w d3_221 222 rfl ?_
          refine g_dup2 w d3_222 rfl rfl 223 rfl ?_
          refine g_iaload w d3_223 6 rfl (j3 + 1) (own_inc hj3 (by omega)) (own_S_get hl3) 224 rfl ?_
          refine g_iconst w d3_224 (1 : Int32) rfl 225 rfl ?_
          refine g_iadd w d3_225 226 rfl ?_
          refine g_iastore w d3_226 6 rfl (j3 + 1) (own_inc hj3 (by omega)) (show j3 + 1 < 5 by omega) (.int (Int32.ofNat (own_n ms j3 (4 * g + 1 + 1 + 1)) + 1)) rfl 227 rfl (fun T w => ?_)
          replace w := w.to (L' := [(t, O_SmallGroups (.ref me) (.ref ki) (.int (4 : Int32)) (.ref ba) (.ref am) (.int mo) (.int up) (.ref sr) (.ref ho) (.int ct) .null .null (.long ls)), (sa, .inr (.long, [(.long x0), (.long x1), (.long x2), (.long x3)])), (ba, .inr (.int, [(.int (0 : Int32)), (.int (1 : Int32)), (.int (2 : Int32)), (.int (3 : Int32))])), (me, .inr (.int, ms)), (ki, .inr (.byte, ks)), (am, .inr (.long, [(.long x0), (.long x1), (.long x2), (.long x3)])), (sr, .inr (.int, ((own_S ms (4 * g + 1 + 1 + 1)).set (j3 + 1) (.int (Int32.ofNat (own_n ms j3 (4 * g + 1 + 1 + 1)) + 1))))), (ho, .inr (.int, hv24))]) rfl
          replace w := w.to (L' := [(t, O_SmallGroups (.ref me) (.ref ki) (.int (4 : Int32)) (.ref ba) (.ref am) (.int mo) (.int up) (.ref sr) (.ref ho) (.int ct) .null .null (.long ls)), (sa, .inr (.long, [(.long x0), (.long x1), (.long x2), (.long x3)])), (ba, .inr (.int, [(.int (0 : Int32)), (.int (1 : Int32)), (.int (2 : Int32)), (.int (3 : Int32))])), (me, .inr (.int, ms)), (ki, .inr (.byte, ks)), (am, .inr (.long, [(.long x0), (.long x1), (.long x2), (.long x3)])), (sr, .inr (.int, (own_S ms (4 * g + 1 + 1 + 1 + 1)))), (ho, .inr (.int, hv24))]) (by rw [own_S_set hz3 hj3 hl3])
          refine g_aloadN w d3_227 rfl rfl 228 rfl ?_
          refine g_getf w d3_228 0 rfl 8 rfl 37 rfl Via.refl 231 rfl (fun T w => ?_)
          refine g_iconst w d3_231 (5 : Int32) rfl 232 rfl ?_
          refine g_aloadN w d3_232 rfl rfl 233 rfl ?_
          refine g_getf w d3_233 0 rfl 0 rfl 19 rfl Via.refl 236 rfl (fun T w => ?_)
          refine g_iload w d3_236 rfl 238 rfl ?_
          refine g_iaload w d3_238 3 rfl (4 * g + 1 + 1 + 1) (own_inc (own_inc (own_inc hap' (by omega)) (by omega)) (by omega)) hz3 239 rfl ?_
          refine g_imul w d3_239 240 rfl ?_
          refine g_aloadN w d3_240 rfl rfl 241 rfl ?_
          refine g_getf w d3_241 0 rfl 1 rfl 22 rfl Via.refl 244 rfl (fun T w => ?_)
          refine g_iload w d3_244 rfl 246 rfl ?_
          refine g_baload w d3_246 4 rfl g hgi hkz 247 rfl ?_
          refine g_iadd w d3_247 248 rfl ?_
          refine g_dup2 w d3_248 rfl rfl 249 rfl ?_
          obtain ⟨o25, ho25⟩ := hok_hv24.2 (5 * j3 + kk) (by omega)
          refine g_iaload w d3_249 7 rfl (5 * j3 + kk) (own_ix5 hj3 hl3 hkk hl5) ho25 250 rfl ?_
          refine g_iconst w d3_250 (1 : Int32) rfl 251 rfl ?_
          refine g_iadd w d3_251 252 rfl ?_
          refine g_iastore w d3_252 7 rfl (5 * j3 + kk) (own_ix5 hj3 hl3 hkk hl5) (by rw [hok_hv24.1]; omega) (.int (o25 + 1)) rfl 253 rfl (fun T w => ?_)
          replace w := w.to (L' := [(t, O_SmallGroups (.ref me) (.ref ki) (.int (4 : Int32)) (.ref ba) (.ref am) (.int mo) (.int up) (.ref sr) (.ref ho) (.int ct) .null .null (.long ls)), (sa, .inr (.long, [(.long x0), (.long x1), (.long x2), (.long x3)])), (ba, .inr (.int, [(.int (0 : Int32)), (.int (1 : Int32)), (.int (2 : Int32)), (.int (3 : Int32))])), (me, .inr (.int, ms)), (ki, .inr (.byte, ks)), (am, .inr (.long, [(.long x0), (.long x1), (.long x2), (.long x3)])), (sr, .inr (.int, (own_S ms (4 * g + 1 + 1 + 1 + 1)))), (ho, .inr (.int, (hv24.set (5 * j3 + kk) (.int (o25 + 1)))))]) rfl
          obtain ⟨hv26, hhv26⟩ : ∃ own_z, own_z = (hv24.set (5 * j3 + kk) (.int (o25 + 1))) := ⟨_, rfl⟩
          have hok_hv26 : own_ok hv26 := by rw [hhv26]; exact own_ok_set hok_hv24 _ _
          replace w := w.to (L' := [(t, O_SmallGroups (.ref me) (.ref ki) (.int (4 : Int32)) (.ref ba) (.ref am) (.int mo) (.int up) (.ref sr) (.ref ho) (.int ct) .null .null (.long ls)), (sa, .inr (.long, [(.long x0), (.long x1), (.long x2), (.long x3)])), (ba, .inr (.int, [(.int (0 : Int32)), (.int (1 : Int32)), (.int (2 : Int32)), (.int (3 : Int32))])), (me, .inr (.int, ms)), (ki, .inr (.byte, ks)), (am, .inr (.long, [(.long x0), (.long x1), (.long x2), (.long x3)])), (sr, .inr (.int, (own_S ms (4 * g + 1 + 1 + 1 + 1)))), (ho, .inr (.int, hv26))]) (by rw [hhv26])
          refine g_iinc w d3_253 256 rfl rfl rfl #[.val (.ref t), .val (.ref sa), .val (.ref ba), .val (.long sp), .second, .val (.int mo), .val (.long (16 : Int64)), .second, .val (.int up), .val (.int gi), .val (.int ((((ap + (1 : Int32)) + (1 : Int32)) + (1 : Int32)) + (1 : Int32))), .unset] rfl ?_
          refine g_goto w d3_256 193 (by decide) (by decide) ?_
          refine g_iload w d3_193 rfl 195 rfl ?_
          refine g_iconst w d3_195 (4 : Int32) rfl 196 rfl ?_
          refine g_iload w d3_196 rfl 198 rfl ?_
          refine g_imul w d3_198 199 rfl ?_
          refine g_aloadN w d3_199 rfl rfl 200 rfl ?_
          refine g_iload w d3_200 rfl 202 rfl ?_
          refine g_priv w (argsL := [(.int gi)]) (rest := [(.int ((4 : Int32) * gi)), (.int ((((ap + (1 : Int32)) + (1 : Int32)) + (1 : Int32)) + (1 : Int32)))]) (rm13 l Z a0 hw n0 t me ms (.ref ki) (.int (4 : Int32)) (.ref ba) (.ref am) (.int mo) (.int up) (.ref sr) (.ref ho) (.int ct) .null .null (.long ls) [(t, O_SmallGroups (.ref me) (.ref ki) (.int (4 : Int32)) (.ref ba) (.ref am) (.int mo) (.int up) (.ref sr) (.ref ho) (.int ct) .null .null (.long ls)), (sa, .inr (.long, [(.long x0), (.long x1), (.long x2), (.long x3)])), (ba, .inr (.int, [(.int (0 : Int32)), (.int (1 : Int32)), (.int (2 : Int32)), (.int (3 : Int32))])), (me, .inr (.int, ms)), (ki, .inr (.byte, ks)), (am, .inr (.long, [(.long x0), (.long x1), (.long x2), (.long x3)])), (sr, .inr (.int, (own_S ms (4 * g + 1 + 1 + 1 + 1)))), (ho, .inr (.int, hv26))] 0 3 g gi z3 rfl rfl hgi (by omega) hz3) d3_202 0 rfl 84 rfl 85 rfl 10 rfl 87 rfl 86 rfl 9 rfl ⟨by decide, by decide⟩ pd_4 rfl rfl rfl 2 rfl (by decide) (by decide) (by decide) (by decide) 205 rfl (fun T v L w h => ?_)
          obtain ⟨rfl, hL⟩ := h
          replace w := w.to hL
          refine g_int (x' := (4 : Int32)) (if_neg hzn) ?_
          refine g_iadd w d3_205 206 rfl ?_
          refine g_icmp_ge w d3_206 259 (by decide) (by decide) 209 rfl (fun hc206 => ?_) (fun h => absurd h (fun q => by have := (own_ltN (own_inc (own_inc (own_inc (own_inc hap' (by omega)) (by omega)) (by omega)) (by omega)) (own_add4 (own_mul4 hgi (by omega)) (by omega))).mp q; omega))
          refine g_iinc w d3_259 262 rfl rfl rfl #[.val (.ref t), .val (.ref sa), .val (.ref ba), .val (.long sp), .second, .val (.int mo), .val (.long (16 : Int64)), .second, .val (.int up), .val (.int (gi + (1 : Int32))), .val (.int ((((ap + (1 : Int32)) + (1 : Int32)) + (1 : Int32)) + (1 : Int32))), .unset] rfl ?_
          refine g_goto w d3_262 178 (by decide) (by decide) ?_
          exact ih T (gi + 1) (g + 1) hv26 _ (own_inc hgi (by omega)) (by omega) hok_hv26 (Or.inr ⟨_, rfl⟩) (w.to (L' := [(t, O_SmallGroups (.ref me) (.ref ki) (.int (4 : Int32)) (.ref ba) (.ref am) (.int mo) (.int up) (.ref sr) (.ref ho) (.int ct) .null .null (.long ls)), (sa, .inr (.long, [(.long x0), (.long x1), (.long x2), (.long x3)])), (ba, .inr (.int, [(.int (0 : Int32)), (.int (1 : Int32)), (.int (2 : Int32)), (.int (3 : Int32))])), (me, .inr (.int, ms)), (ki, .inr (.byte, ks)), (am, .inr (.long, [(.long x0), (.long x1), (.long x2), (.long x3)])), (sr, .inr (.int, (own_S ms (4 * (g + 1))))), (ho, .inr (.int, hv26))]) rfl)
    exact LA c T 0 0 _ _ rfl (by omega) own_ok_0 (Or.inl rfl) (w.to rfl)
  refine g_lload w d3_94 rfl 96 rfl ?_
  refine g_ldcl w d3_96 32 rfl 99 rfl ?_
  refine g_ldiv w d3_99 (by decide) 100 rfl ?_
  refine g_long (x' := (8 : Int64)) (by decide) ?_
  refine g_lloadN w d3_100 rfl 101 rfl ?_
  refine g_lcmp w d3_101 102 rfl ?_
  refine g_lif_gt w d3_102 116 (by decide) (by decide) 105 rfl (fun hc102 => ?_) (fun hc102 => ?_)
  · -- pc 116 (taken: sp < (8 : Int64))
    have q8 : sp.toInt < 8 := by have := (own_ltL (rfl : sp.toInt = sp.toInt) (show (8 : Int64).toInt = 8 from rfl)).mp hc102; omega
    refine g_iload w d3_116 rfl 118 rfl ?_
    refine g_iconst w d3_118 (3 : Int32) rfl 119 rfl ?_
    refine g_icmp_ne w d3_119 145 (by decide) (by decide) 122 rfl (fun hc119 => ?_) (fun h => absurd h (by decide))
    exact J145 T 2 0 0 (List.replicate 64 (.int (0 : Int32))) (List.replicate 16 (.int (0 : Int32))) 0 rfl (Nat.zero_le _) own_G_0 (Or.inr (Or.inr ⟨rfl, Or.inl q8⟩)) (w.more (by decide) (by decide))
  · -- pc 105 (on: not sp < (8 : Int64))
    have q8 : 8 ≤ sp.toInt := by have := mt (own_ltL (rfl : sp.toInt = sp.toInt) (show (8 : Int64).toInt = 8 from rfl)).mpr hc102; omega
    refine g_aloadN w d3_105 rfl rfl 106 rfl ?_
    refine g_iconst w d3_106 (3 : Int32) rfl 107 rfl ?_
    refine g_priv w (argsL := [(.int (3 : Int32))]) (rest := []) (rm8_3 l Z a0 hw n0 t sa ba me ki am x0 x1 x2 x3 mo 0 0 (List.replicate 64 (.int (0 : Int32))) (List.replicate 16 (.int (0 : Int32))) 0 M hmo hM rfl (Nat.zero_le _) own_G_0 hA) d3_107 0 rfl 65 rfl 66 rfl 10 rfl 68 rfl 67 rfl 9 rfl ⟨by decide, by decide⟩ pd_5 rfl rfl rfl 0 rfl (by decide) (by decide) (by decide) (by decide) 110 rfl (fun T v L w h => ?_)
    obtain ⟨rr, ct_u27, c_u27, ms_u27, ks_u27, ls_u27, rfl, hct_u27, hG_u27, hcM_u27, hL, hor⟩ := h
    replace w := w.to hL
    rcases hor with ⟨rfl, hk_u27⟩ | ⟨rfl, hk_u27⟩
    · -- pc 110 room 1
      refine g_if_eq w d3_110 116 (by decide) (by decide) 113 rfl (fun h => absurd h (by decide)) (fun hc110 => ?_)
      refine g_iconst w d3_113 (3 : Int32) rfl 114 rfl ?_
      refine g_istore w d3_114 116 rfl rfl #[.val (.ref t), .val (.ref sa), .val (.ref ba), .val (.long sp), .second, .val (.int mo), .val (.long (16 : Int64)), .second, .val (.int (3 : Int32)), .unset, .unset, .unset] rfl ?_
      refine g_iload w d3_116 rfl 118 rfl ?_
      refine g_iconst w d3_118 (3 : Int32) rfl 119 rfl ?_
      refine g_icmp_ne w d3_119 145 (by decide) (by decide) 122 rfl (fun h => absurd (by decide) h) (fun hc119 => ?_)
      refine g_aloadN w d3_122 rfl rfl 123 rfl ?_
      refine g_getf w d3_123 0 rfl 2 rfl 24 rfl Via.refl 126 rfl (fun T w => ?_)
      refine g_static w (argsL := [(.int (4 : Int32))]) (rest := []) (rm10 l Z a0 hw n0 ([(t, O_SmallGroups (.ref me) (.ref ki) (.int (4 : Int32)) (.ref ba) (.ref am) (.int mo) (.int (0 : Int32)) .null .null (.int ct_u27) .null .null (.long ls_u27)), (sa, .inr (.long, [(.long x0), (.long x1), (.long x2), (.long x3)])), (ba, .inr (.int, [(.int (0 : Int32)), (.int (1 : Int32)), (.int (2 : Int32)), (.int (3 : Int32))])), (me, .inr (.int, ms_u27)), (ki, .inr (.byte, ks_u27)), (am, .inr (.long, [(.long x0), (.long x1), (.long x2), (.long x3)]))])) d3_126 73 rfl 74 rfl 10 rfl 75 rfl ⟨by decide, by decide⟩ pd_6 rfl rfl rfl 0 rfl (by decide) (by decide) (by decide) (by decide) 129 rfl (fun T v L w h => ?_)
      obtain ⟨rfl, hL⟩ := h
      replace w := w.to hL
      refine g_lloadN w d3_129 rfl 130 rfl ?_
      refine g_lcmp w d3_130 131 rfl ?_
      refine g_lif_gt w d3_131 145 (by decide) (by decide) 134 rfl (fun hc131 => ?_) (fun hc131 => ?_)
      · -- pc 145 (taken: sp < (10 : Int64))
        have q10 : sp.toInt < 10 := by have := (own_ltL (rfl : sp.toInt = sp.toInt) (show (10 : Int64).toInt = 10 from rfl)).mp hc131; omega
        exact J145 T 3 ct_u27 c_u27 ms_u27 ks_u27 ls_u27 hct_u27 hcM_u27 hG_u27 (Or.inr (Or.inl ⟨rfl, q8, by omega, Or.inl q10⟩)) (w.more (by decide) (by decide))
      · -- pc 134 (on: not sp < (10 : Int64))
        have q10 : 10 ≤ sp.toInt := by have := mt (own_ltL (rfl : sp.toInt = sp.toInt) (show (10 : Int64).toInt = 10 from rfl)).mpr hc131; omega
        refine g_aloadN w d3_134 rfl rfl 135 rfl ?_
        refine g_iconst w d3_135 (4 : Int32) rfl 136 rfl ?_
        refine g_priv w (argsL := [(.int (4 : Int32))]) (rest := []) (rm8_4 l Z a0 hw n0 t sa ba me ki am x0 x1 x2 x3 mo ct_u27 ls_u27 ms_u27 ks_u27 c_u27 M hmo hM hct_u27 hcM_u27 hG_u27 hA) d3_136 0 rfl 65 rfl 66 rfl 10 rfl 68 rfl 67 rfl 9 rfl ⟨by decide, by decide⟩ pd_5 rfl rfl rfl 0 rfl (by decide) (by decide) (by decide) (by decide) 139 rfl (fun T v L w h => ?_)
        obtain ⟨rr, ct_u28, c_u28, ms_u28, ks_u28, ls_u28, rfl, hct_u28, hG_u28, hcM_u28, hL, hor⟩ := h
        replace w := w.to hL
        rcases hor with ⟨rfl, hk_u28⟩ | ⟨rfl, hk_u28⟩
        · -- pc 139 room 1
          refine g_if_eq w d3_139 145 (by decide) (by decide) 142 rfl (fun h => absurd h (by decide)) (fun hc139 => ?_)
          refine g_iconst w d3_142 (4 : Int32) rfl 143 rfl ?_
          refine g_istore w d3_143 145 rfl rfl #[.val (.ref t), .val (.ref sa), .val (.ref ba), .val (.long sp), .second, .val (.int mo), .val (.long (16 : Int64)), .second, .val (.int (4 : Int32)), .unset, .unset, .unset] rfl ?_
          exact J145 T 4 ct_u28 c_u28 ms_u28 ks_u28 ls_u28 hct_u28 hcM_u28 hG_u28 (Or.inl ⟨rfl, q10, by omega⟩) (w.more (by decide) (by decide))
        · -- pc 139 room 0
          refine g_if_eq w d3_139 145 (by decide) (by decide) 142 rfl (fun hc139 => ?_) (fun h => absurd (by decide) h)
          exact J145 T 3 ct_u28 c_u28 ms_u28 ks_u28 ls_u28 hct_u28 hcM_u28 hG_u28 (Or.inr (Or.inl ⟨rfl, q8, by omega, Or.inr (by omega)⟩)) (w.more (by decide) (by decide))
    · -- pc 110 room 0
      refine g_if_eq w d3_110 116 (by decide) (by decide) 113 rfl (fun hc110 => ?_) (fun h => absurd (by decide) h)
      refine g_iload w d3_116 rfl 118 rfl ?_
      refine g_iconst w d3_118 (3 : Int32) rfl 119 rfl ?_
      refine g_icmp_ne w d3_119 145 (by decide) (by decide) 122 rfl (fun hc119 => ?_) (fun h => absurd h (by decide))
      exact J145 T 2 ct_u27 c_u27 ms_u27 ks_u27 ls_u27 hct_u27 hcM_u27 hG_u27 (Or.inr (Or.inr ⟨rfl, Or.inr (by omega)⟩)) (w.more (by decide) (by decide))
theorem pd_7 : parseMethodDescriptor "(J)J" = some ⟨[.long], some .long⟩ := by decide +kernel
theorem pd_8 : parseMethodDescriptor "(J)I" = some ⟨[.long], some .int⟩ := by decide +kernel
theorem pd_9 : parseMethodDescriptor "([J[IJI)V" = some ⟨[(.array .long), (.array .int), .long, .int], none⟩ := by decide +kernel
theorem pn_0 : plainFor x = true := plainFor_of_name (by first | (simp [plainName, overriddenIn, x]; done) | decide +kernel)
set_option maxRecDepth 65536 in
set_option maxHeartbeats 40000000 in
theorem rm0 (l : Launch) (Z : State) (a0 : Array Value) (hw : ∀ d ∈ tables_1, d.before a0 Z = true) (n0 : Nat) (sh : Int32) (sp : Int64) (mq si : Int32)  :
    Con l x code maxLocals ret room_1 Z n0 #[(.int sh), (.long sp), (.int mq), (.int si)] ([]) (fun v _ => v = some (.int 1)) := by
  refine Con.of (ws := tables_1) (a0 := a0) pn_0 hw ?_
  intro p e s m below meth cde T kb w
  refine g_entry #[.val (.int sh), .val (.long sp), .second, .val (.int mq), .val (.int si), .unset, .unset, .unset, .unset, .unset, .unset, .unset, .unset, .unset, .unset, .unset, .unset, .unset, .unset, .unset, .unset, .unset, .unset, .unset, .unset, .unset] (by first | (simp [entryFrame, mkF, argsToLocals, Value.category, maxLocals]; done) | rfl) ?_
  refine g_iloadN w at_0 rfl 1 rfl ?_
  refine g_bipush w at_1 (7 : Int32) rfl 3 rfl ?_
  refine g_iand w at_3 4 rfl ?_
  refine g_bipush w at_4 (6 : Int32) rfl 6 rfl ?_
  refine g_isub w at_6 7 rfl ?_
  refine g_i2l w at_7 8 rfl ?_
  obtain ⟨w0, hw0⟩ : ∃ own_z, own_z = ((((sh &&& (7 : Int32)) - (6 : Int32)).toInt64) : Int64) := ⟨_, rfl⟩
  refine g_lstore w at_8 10 rfl hw0.symm #[.val (.int sh), .val (.long sp), .second, .val (.int mq), .val (.int si), .val (.long w0), .second, .unset, .unset, .unset, .unset, .unset, .unset, .unset, .unset, .unset, .unset, .unset, .unset, .unset, .unset, .unset, .unset, .unset, .unset, .unset] rfl ?_
  refine g_lload w at_10 rfl 12 rfl ?_
  refine g_iloadN w at_12 rfl 13 rfl ?_
  refine g_iconst w at_13 (3 : Int32) rfl 14 rfl ?_
  refine g_iushr w at_14 15 rfl ?_
  refine g_iconst w at_15 (3 : Int32) rfl 16 rfl ?_
  refine g_iand w at_16 17 rfl ?_
  refine g_i2l w at_17 18 rfl ?_
  refine g_ladd w at_18 19 rfl ?_
  obtain ⟨w1, hw1⟩ : ∃ own_z, own_z = ((w0 + (((ushrI sh (3 : Int32)) &&& (3 : Int32)).toInt64)) : Int64) := ⟨_, rfl⟩
  refine g_lstore w at_19 21 rfl hw1.symm #[.val (.int sh), .val (.long sp), .second, .val (.int mq), .val (.int si), .val (.long w0), .second, .val (.long w1), .second, .unset, .unset, .unset, .unset, .unset, .unset, .unset, .unset, .unset, .unset, .unset, .unset, .unset, .unset, .unset, .unset, .unset] rfl ?_
  refine g_lload w at_21 rfl 23 rfl ?_
  refine g_iloadN w at_23 rfl 24 rfl ?_
  refine g_iconst w at_24 (5 : Int32) rfl 25 rfl ?_
  refine g_iushr w at_25 26 rfl ?_
  refine g_iconst w at_26 (3 : Int32) rfl 27 rfl ?_
  refine g_iand w at_27 28 rfl ?_
  refine g_i2l w at_28 29 rfl ?_
  refine g_ladd w at_29 30 rfl ?_
  obtain ⟨w2, hw2⟩ : ∃ own_z, own_z = ((w1 + (((ushrI sh (5 : Int32)) &&& (3 : Int32)).toInt64)) : Int64) := ⟨_, rfl⟩
  refine g_lstore w at_30 32 rfl hw2.symm #[.val (.int sh), .val (.long sp), .second, .val (.int mq), .val (.int si), .val (.long w0), .second, .val (.long w1), .second, .val (.long w2), .second, .unset, .unset, .unset, .unset, .unset, .unset, .unset, .unset, .unset, .unset, .unset, .unset, .unset, .unset, .unset] rfl ?_
  refine g_lload w at_32 rfl 34 rfl ?_
  refine g_iloadN w at_34 rfl 35 rfl ?_
  refine g_bipush w at_35 (7 : Int32) rfl 37 rfl ?_
  refine g_iushr w at_37 38 rfl ?_
  refine g_iconst w at_38 (3 : Int32) rfl 39 rfl ?_
  refine g_iand w at_39 40 rfl ?_
  refine g_i2l w at_40 41 rfl ?_
  refine g_ladd w at_41 42 rfl ?_
  obtain ⟨w3, hw3⟩ : ∃ own_z, own_z = ((w2 + (((ushrI sh (7 : Int32)) &&& (3 : Int32)).toInt64)) : Int64) := ⟨_, rfl⟩
  refine g_lstore w at_42 44 rfl hw3.symm #[.val (.int sh), .val (.long sp), .second, .val (.int mq), .val (.int si), .val (.long w0), .second, .val (.long w1), .second, .val (.long w2), .second, .val (.long w3), .second, .unset, .unset, .unset, .unset, .unset, .unset, .unset, .unset, .unset, .unset, .unset, .unset, .unset] rfl ?_
  refine g_lload w at_44 rfl 46 rfl ?_
  refine g_static w (argsL := [(.long w0)]) (rest := []) (rm1 l Z a0 hw n0 w0 ([])) at_46 0 rfl 1 rfl 2 rfl 3 rfl ⟨by decide, by decide⟩ pd_7 rfl rfl rfl 0 rfl (by decide) (by decide) (by decide) (by decide) 49 rfl (fun T v L w h => ?_)
  obtain ⟨rfl, hL⟩ := h
  replace w := w.to hL
  obtain ⟨x0, hx0⟩ : ∃ own_z, own_z = ((own_nzf w0) : Int64) := ⟨_, rfl⟩
  refine g_lstore w at_49 51 rfl hx0.symm #[.val (.int sh), .val (.long sp), .second, .val (.int mq), .val (.int si), .val (.long w0), .second, .val (.long w1), .second, .val (.long w2), .second, .val (.long w3), .second, .val (.long x0), .second, .unset, .unset, .unset, .unset, .unset, .unset, .unset, .unset, .unset, .unset, .unset] rfl ?_
  refine g_lload w at_51 rfl 53 rfl ?_
  refine g_static w (argsL := [(.long w1)]) (rest := []) (rm1 l Z a0 hw n0 w1 ([])) at_53 0 rfl 1 rfl 2 rfl 3 rfl ⟨by decide, by decide⟩ pd_7 rfl rfl rfl 0 rfl (by decide) (by decide) (by decide) (by decide) 56 rfl (fun T v L w h => ?_)
  obtain ⟨rfl, hL⟩ := h
  replace w := w.to hL
  obtain ⟨x1, hx1⟩ : ∃ own_z, own_z = ((own_nzf w1) : Int64) := ⟨_, rfl⟩
  refine g_lstore w at_56 58 rfl hx1.symm #[.val (.int sh), .val (.long sp), .second, .val (.int mq), .val (.int si), .val (.long w0), .second, .val (.long w1), .second, .val (.long w2), .second, .val (.long w3), .second, .val (.long x0), .second, .val (.long x1), .second, .unset, .unset, .unset, .unset, .unset, .unset, .unset, .unset, .unset] rfl ?_
  refine g_lload w at_58 rfl 60 rfl ?_
  refine g_static w (argsL := [(.long w2)]) (rest := []) (rm1 l Z a0 hw n0 w2 ([])) at_60 0 rfl 1 rfl 2 rfl 3 rfl ⟨by decide, by decide⟩ pd_7 rfl rfl rfl 0 rfl (by decide) (by decide) (by decide) (by decide) 63 rfl (fun T v L w h => ?_)
  obtain ⟨rfl, hL⟩ := h
  replace w := w.to hL
  obtain ⟨x2, hx2⟩ : ∃ own_z, own_z = ((own_nzf w2) : Int64) := ⟨_, rfl⟩
  refine g_lstore w at_63 65 rfl hx2.symm #[.val (.int sh), .val (.long sp), .second, .val (.int mq), .val (.int si), .val (.long w0), .second, .val (.long w1), .second, .val (.long w2), .second, .val (.long w3), .second, .val (.long x0), .second, .val (.long x1), .second, .val (.long x2), .second, .unset, .unset, .unset, .unset, .unset, .unset, .unset] rfl ?_
  refine g_lload w at_65 rfl 67 rfl ?_
  refine g_static w (argsL := [(.long w3)]) (rest := []) (rm1 l Z a0 hw n0 w3 ([])) at_67 0 rfl 1 rfl 2 rfl 3 rfl ⟨by decide, by decide⟩ pd_7 rfl rfl rfl 0 rfl (by decide) (by decide) (by decide) (by decide) 70 rfl (fun T v L w h => ?_)
  obtain ⟨rfl, hL⟩ := h
  replace w := w.to hL
  obtain ⟨x3, hx3⟩ : ∃ own_z, own_z = ((own_nzf w3) : Int64) := ⟨_, rfl⟩
  refine g_lstore w at_70 72 rfl hx3.symm #[.val (.int sh), .val (.long sp), .second, .val (.int mq), .val (.int si), .val (.long w0), .second, .val (.long w1), .second, .val (.long w2), .second, .val (.long w3), .second, .val (.long x0), .second, .val (.long x1), .second, .val (.long x2), .second, .val (.long x3), .second, .unset, .unset, .unset, .unset, .unset] rfl ?_
  refine g_iloadN w at_72 rfl 73 rfl ?_
  refine g_bipush w at_73 (7 : Int32) rfl 75 rfl ?_
  refine g_iand w at_75 76 rfl ?_
  obtain ⟨mo, hmo⟩ : ∃ own_z, own_z = ((mq &&& (7 : Int32)) : Int32) := ⟨_, rfl⟩
  refine g_istore w at_76 78 rfl hmo.symm #[.val (.int sh), .val (.long sp), .second, .val (.int mq), .val (.int si), .val (.long w0), .second, .val (.long w1), .second, .val (.long w2), .second, .val (.long w3), .second, .val (.long x0), .second, .val (.long x1), .second, .val (.long x2), .second, .val (.long x3), .second, .val (.int mo), .unset, .unset, .unset, .unset] rfl ?_
  have hA : own_A x0 x1 x2 x3 := own_shape hw0 hw1 hw2 hw3 hx0 hx1 hx2 hx3
  obtain ⟨M, hmo', hM⟩ := own_most hmo
  refine g_lload w at_78 rfl 80 rfl ?_
  refine g_lload w at_80 rfl 82 rfl ?_
  refine g_ladd w at_82 83 rfl ?_
  refine g_lload w at_83 rfl 85 rfl ?_
  refine g_ladd w at_85 86 rfl ?_
  refine g_static w (argsL := [(.long ((x0 + x1) + x2))]) (rest := []) (rm2 l Z a0 hw n0 ((x0 + x1) + x2) ([])) at_86 4 rfl 5 rfl 2 rfl 6 rfl ⟨by decide, by decide⟩ pd_8 rfl rfl rfl 0 rfl (by decide) (by decide) (by decide) (by decide) 89 rfl (fun T v L w h => ?_)
  obtain ⟨rfl, hL⟩ := h
  replace w := w.to hL
  refine g_lload w at_89 rfl 91 rfl ?_
  refine g_lload w at_91 rfl 93 rfl ?_
  refine g_ladd w at_93 94 rfl ?_
  refine g_lload w at_94 rfl 96 rfl ?_
  refine g_ladd w at_96 97 rfl ?_
  refine g_static w (argsL := [(.long ((x0 + x1) + x3))]) (rest := [(.int (own_zf ((x0 + x1) + x2)))]) (rm2 l Z a0 hw n0 ((x0 + x1) + x3) ([])) at_97 4 rfl 5 rfl 2 rfl 6 rfl ⟨by decide, by decide⟩ pd_8 rfl rfl rfl 1 rfl (by decide) (by decide) (by decide) (by decide) 100 rfl (fun T v L w h => ?_)
  obtain ⟨rfl, hL⟩ := h
  replace w := w.to hL
  refine g_iadd w at_100 101 rfl ?_
  refine g_lload w at_101 rfl 103 rfl ?_
  refine g_lload w at_103 rfl 105 rfl ?_
  refine g_ladd w at_105 106 rfl ?_
  refine g_lload w at_106 rfl 108 rfl ?_
  refine g_ladd w at_108 109 rfl ?_
  refine g_static w (argsL := [(.long ((x0 + x2) + x3))]) (rest := [(.int ((own_zf ((x0 + x1) + x2)) + (own_zf ((x0 + x1) + x3))))]) (rm2 l Z a0 hw n0 ((x0 + x2) + x3) ([])) at_109 4 rfl 5 rfl 2 rfl 6 rfl ⟨by decide, by decide⟩ pd_8 rfl rfl rfl 1 rfl (by decide) (by decide) (by decide) (by decide) 112 rfl (fun T v L w h => ?_)
  obtain ⟨rfl, hL⟩ := h
  replace w := w.to hL
  refine g_iadd w at_112 113 rfl ?_
  refine g_lload w at_113 rfl 115 rfl ?_
  refine g_lload w at_115 rfl 117 rfl ?_
  refine g_ladd w at_117 118 rfl ?_
  refine g_lload w at_118 rfl 120 rfl ?_
  refine g_ladd w at_120 121 rfl ?_
  refine g_static w (argsL := [(.long ((x1 + x2) + x3))]) (rest := [(.int (((own_zf ((x0 + x1) + x2)) + (own_zf ((x0 + x1) + x3))) + (own_zf ((x0 + x2) + x3))))]) (rm2 l Z a0 hw n0 ((x1 + x2) + x3) ([])) at_121 4 rfl 5 rfl 2 rfl 6 rfl ⟨by decide, by decide⟩ pd_8 rfl rfl rfl 1 rfl (by decide) (by decide) (by decide) (by decide) 124 rfl (fun T v L w h => ?_)
  obtain ⟨rfl, hL⟩ := h
  replace w := w.to hL
  refine g_iadd w at_124 125 rfl ?_
  obtain ⟨t3, ht3⟩ : ∃ own_z, own_z = (((((own_zf ((x0 + x1) + x2)) + (own_zf ((x0 + x1) + x3))) + (own_zf ((x0 + x2) + x3))) + (own_zf ((x1 + x2) + x3))) : Int32) := ⟨_, rfl⟩
  refine g_istore w at_125 127 rfl ht3.symm #[.val (.int sh), .val (.long sp), .second, .val (.int mq), .val (.int si), .val (.long w0), .second, .val (.long w1), .second, .val (.long w2), .second, .val (.long w3), .second, .val (.long x0), .second, .val (.long x1), .second, .val (.long x2), .second, .val (.long x3), .second, .val (.int mo), .val (.int t3), .unset, .unset, .unset] rfl ?_
  have e3 := own_t3 hA ht3
  refine g_lload w at_127 rfl 129 rfl ?_
  refine g_lload w at_129 rfl 131 rfl ?_
  refine g_ladd w at_131 132 rfl ?_
  refine g_lload w at_132 rfl 134 rfl ?_
  refine g_ladd w at_134 135 rfl ?_
  refine g_lload w at_135 rfl 137 rfl ?_
  refine g_ladd w at_137 138 rfl ?_
  refine g_static w (argsL := [(.long (((x0 + x1) + x2) + x3))]) (rest := []) (rm2 l Z a0 hw n0 (((x0 + x1) + x2) + x3) ([])) at_138 4 rfl 5 rfl 2 rfl 6 rfl ⟨by decide, by decide⟩ pd_8 rfl rfl rfl 0 rfl (by decide) (by decide) (by decide) (by decide) 141 rfl (fun T v L w h => ?_)
  obtain ⟨rfl, hL⟩ := h
  replace w := w.to hL
  obtain ⟨t4, ht4⟩ : ∃ own_z, own_z = ((own_zf (((x0 + x1) + x2) + x3)) : Int32) := ⟨_, rfl⟩
  refine g_istore w at_141 143 rfl ht4.symm #[.val (.int sh), .val (.long sp), .second, .val (.int mq), .val (.int si), .val (.long w0), .second, .val (.long w1), .second, .val (.long w2), .second, .val (.long w3), .second, .val (.long x0), .second, .val (.long x1), .second, .val (.long x2), .second, .val (.long x3), .second, .val (.int mo), .val (.int t3), .val (.int t4), .unset, .unset] rfl ?_
  have e4 := own_t4 hA ht4
  have o0 := own_zn1 (x0.toInt + x1.toInt + x2.toInt)
  have o1 := own_zn1 (x0.toInt + x1.toInt + x3.toInt)
  have o2 := own_zn1 (x0.toInt + x2.toInt + x3.toInt)
  have o3 := own_zn1 (x1.toInt + x2.toInt + x3.toInt)
  have o4 := own_zn1 (x0.toInt + x1.toInt + x2.toInt + x3.toInt)
  refine g_iconst w at_143 (2 : Int32) rfl 144 rfl ?_
  refine g_istore w at_144 146 rfl rfl #[.val (.int sh), .val (.long sp), .second, .val (.int mq), .val (.int si), .val (.long w0), .second, .val (.long w1), .second, .val (.long w2), .second, .val (.long w3), .second, .val (.long x0), .second, .val (.long x1), .second, .val (.long x2), .second, .val (.long x3), .second, .val (.int mo), .val (.int t3), .val (.int t4), .val (.int (2 : Int32)), .unset] rfl ?_
  refine g_ldcl w at_146 7 rfl 149 rfl ?_
  refine g_lloadN w at_149 rfl 150 rfl ?_
  refine g_lcmp w at_150 151 rfl ?_
  refine g_lif_gt w at_151 185 (by decide) (by decide) 154 rfl (fun hc151 => ?_) (fun hc151 => ?_)
  · -- pc 185 (taken: sp < (8 : Int64))
    have q151 := (own_ltL (rfl : sp.toInt = sp.toInt) (show (8 : Int64).toInt = 8 from rfl)).mp hc151
    refine g_new w [("com/example/cangdan/cangdan/fewest/SmallGroups", "members", "[I", .null), ("com/example/cangdan/cangdan/fewest/SmallGroups", "kinds", "[B", .null), ("com/example/cangdan/cangdan/fewest/SmallGroups", "itemCount", "I", (.int (0 : Int32))), ("com/example/cangdan/cangdan/fewest/SmallGroups", "byAmount", "[I", .null), ("com/example/cangdan/cangdan/fewest/SmallGroups", "amounts", "[J", .null), ("com/example/cangdan/cangdan/fewest/SmallGroups", "most", "I", (.int (0 : Int32))), ("com/example/cangdan/cangdan/fewest/SmallGroups", "listedUpTo", "I", (.int (0 : Int32))), ("com/example/cangdan/cangdan/fewest/SmallGroups", "start", "[I", .null), ("com/example/cangdan/cangdan/fewest/SmallGroups", "holding", "[I", .null), ("com/example/cangdan/cangdan/fewest/SmallGroups", "count", "I", (.int (0 : Int32))), ("com/example/cangdan/cangdan/fewest/SmallGroups", "groupsOf", "[I", .null), ("com/example/cangdan/cangdan/fewest/SmallGroups", "gone", "[I", .null), ("com/example/cangdan/cangdan/fewest/SmallGroups", "listingSteps", "J", (.long (0 : Int64)))] at_185 8 rfl 9 rfl 10 rfl (FOk.cons (Or.inl (w.hw (k := 20) rfl)) (ty := (.array .int)) (by decide) rfl (FOk.cons (Or.inl (w.hw (k := 23) rfl)) (ty := (.array .byte)) (by decide) rfl (FOk.cons (Or.inr (w.hw (k := 25) rfl)) (ty := .int) (by decide) rfl (FOk.cons (Or.inr (w.hw (k := 27) rfl)) (ty := (.array .int)) (by decide) rfl (FOk.cons (Or.inr (w.hw (k := 29) rfl)) (ty := (.array .long)) (by decide) rfl (FOk.cons (Or.inr (w.hw (k := 31) rfl)) (ty := .int) (by decide) rfl (FOk.cons (Or.inr (w.hw (k := 34) rfl)) (ty := .int) (by decide) rfl (FOk.cons (Or.inr (w.hw (k := 36) rfl)) (ty := (.array .int)) (by decide) rfl (FOk.cons (Or.inr (w.hw (k := 38) rfl)) (ty := (.array .int)) (by decide) rfl (FOk.cons (Or.inl (w.hw (k := 40) rfl)) (ty := .int) (by decide) rfl (FOk.cons (Or.inr (w.hw (k := 42) rfl)) (ty := (.array .int)) (by decide) rfl (FOk.cons (Or.inr (w.hw (k := 56) rfl)) (ty := (.array .int)) (by decide) rfl (FOk.cons (Or.inl (w.hw (k := 58) rfl)) (ty := .long) (by decide) rfl trivial))))))))))))) (by decide) (by decide) (by decide) 188 rfl (fun T b1 w => ?_)
    replace w := w.to (L' := [(b1, O_SmallGroups .null .null (.int (0 : Int32)) .null .null (.int (0 : Int32)) (.int (0 : Int32)) .null .null (.int (0 : Int32)) .null .null (.long (0 : Int64)))]) rfl
    refine g_dup w at_188 rfl 189 rfl ?_
    refine g_iconst w at_189 (4 : Int32) rfl 190 rfl ?_
    refine g_newarr w at_190 11 rfl 4 4 (by decide) (by decide) (by decide) [(.long (0 : Int64)), (.long (0 : Int64)), (.long (0 : Int64)), (.long (0 : Int64))] rfl (by decide) (by decide) 192 rfl (fun T b2 w => ?_)
    replace w := w.to (L' := [(b1, O_SmallGroups .null .null (.int (0 : Int32)) .null .null (.int (0 : Int32)) (.int (0 : Int32)) .null .null (.int (0 : Int32)) .null .null (.long (0 : Int64))), (b2, .inr (.long, [(.long (0 : Int64)), (.long (0 : Int64)), (.long (0 : Int64)), (.long (0 : Int64))]))]) rfl
    refine g_dup w at_192 rfl 193 rfl ?_
    refine g_iconst w at_193 (0 : Int32) rfl 194 rfl ?_
    refine g_lload w at_194 rfl 196 rfl ?_
    refine g_lastore w at_196 1 rfl 0 (by decide) (Nat.le_of_ble_eq_true rfl) (.long x0) rfl 197 rfl (fun T w => ?_)
    replace w := w.to (L' := [(b1, O_SmallGroups .null .null (.int (0 : Int32)) .null .null (.int (0 : Int32)) (.int (0 : Int32)) .null .null (.int (0 : Int32)) .null .null (.long (0 : Int64))), (b2, .inr (.long, [(.long x0), (.long (0 : Int64)), (.long (0 : Int64)), (.long (0 : Int64))]))]) rfl
    refine g_dup w at_197 rfl 198 rfl ?_
    refine g_iconst w at_198 (1 : Int32) rfl 199 rfl ?_
    refine g_lload w at_199 rfl 201 rfl ?_
    refine g_lastore w at_201 1 rfl 1 (by decide) (Nat.le_of_ble_eq_true rfl) (.long x1) rfl 202 rfl (fun T w => ?_)
    replace w := w.to (L' := [(b1, O_SmallGroups .null .null (.int (0 : Int32)) .null .null (.int (0 : Int32)) (.int (0 : Int32)) .null .null (.int (0 : Int32)) .null .null (.long (0 : Int64))), (b2, .inr (.long, [(.long x0), (.long x1), (.long (0 : Int64)), (.long (0 : Int64))]))]) rfl
    refine g_dup w at_202 rfl 203 rfl ?_
    refine g_iconst w at_203 (2 : Int32) rfl 204 rfl ?_
    refine g_lload w at_204 rfl 206 rfl ?_
    refine g_lastore w at_206 1 rfl 2 (by decide) (Nat.le_of_ble_eq_true rfl) (.long x2) rfl 207 rfl (fun T w => ?_)
    replace w := w.to (L' := [(b1, O_SmallGroups .null .null (.int (0 : Int32)) .null .null (.int (0 : Int32)) (.int (0 : Int32)) .null .null (.int (0 : Int32)) .null .null (.long (0 : Int64))), (b2, .inr (.long, [(.long x0), (.long x1), (.long x2), (.long (0 : Int64))]))]) rfl
    refine g_dup w at_207 rfl 208 rfl ?_
    refine g_iconst w at_208 (3 : Int32) rfl 209 rfl ?_
    refine g_lload w at_209 rfl 211 rfl ?_
    refine g_lastore w at_211 1 rfl 3 (by decide) (Nat.le_of_ble_eq_true rfl) (.long x3) rfl 212 rfl (fun T w => ?_)
    replace w := w.to (L' := [(b1, O_SmallGroups .null .null (.int (0 : Int32)) .null .null (.int (0 : Int32)) (.int (0 : Int32)) .null .null (.int (0 : Int32)) .null .null (.long (0 : Int64))), (b2, .inr (.long, [(.long x0), (.long x1), (.long x2), (.long x3)]))]) rfl
    refine g_iconst w at_212 (4 : Int32) rfl 213 rfl ?_
    refine g_newarr w at_213 12 rfl 4 4 (by decide) (by decide) (by decide) [(.int (0 : Int32)), (.int (0 : Int32)), (.int (0 : Int32)), (.int (0 : Int32))] rfl (by decide) (by decide) 215 rfl (fun T b3 w => ?_)
    replace w := w.to (L' := [(b1, O_SmallGroups .null .null (.int (0 : Int32)) .null .null (.int (0 : Int32)) (.int (0 : Int32)) .null .null (.int (0 : Int32)) .null .null (.long (0 : Int64))), (b2, .inr (.long, [(.long x0), (.long x1), (.long x2), (.long x3)])), (b3, .inr (.int, [(.int (0 : Int32)), (.int (0 : Int32)), (.int (0 : Int32)), (.int (0 : Int32))]))]) rfl
    refine g_dup w at_215 rfl 216 rfl ?_
    refine g_iconst w at_216 (0 : Int32) rfl 217 rfl ?_
    refine g_iconst w at_217 (0 : Int32) rfl 218 rfl ?_
    refine g_iastore w at_218 2 rfl 0 (by decide) (Nat.le_of_ble_eq_true rfl) (.int (0 : Int32)) rfl 219 rfl (fun T w => ?_)
    replace w := w.to (L' := [(b1, O_SmallGroups .null .null (.int (0 : Int32)) .null .null (.int (0 : Int32)) (.int (0 : Int32)) .null .null (.int (0 : Int32)) .null .null (.long (0 : Int64))), (b2, .inr (.long, [(.long x0), (.long x1), (.long x2), (.long x3)])), (b3, .inr (.int, [(.int (0 : Int32)), (.int (0 : Int32)), (.int (0 : Int32)), (.int (0 : Int32))]))]) rfl
    refine g_dup w at_219 rfl 220 rfl ?_
    refine g_iconst w at_220 (1 : Int32) rfl 221 rfl ?_
    refine g_iconst w at_221 (1 : Int32) rfl 222 rfl ?_
    refine g_iastore w at_222 2 rfl 1 (by decide) (Nat.le_of_ble_eq_true rfl) (.int (1 : Int32)) rfl 223 rfl (fun T w => ?_)
    replace w := w.to (L' := [(b1, O_SmallGroups .null .null (.int (0 : Int32)) .null .null (.int (0 : Int32)) (.int (0 : Int32)) .null .null (.int (0 : Int32)) .null .null (.long (0 : Int64))), (b2, .inr (.long, [(.long x0), (.long x1), (.long x2), (.long x3)])), (b3, .inr (.int, [(.int (0 : Int32)), (.int (1 : Int32)), (.int (0 : Int32)), (.int (0 : Int32))]))]) rfl
    refine g_dup w at_223 rfl 224 rfl ?_
    refine g_iconst w at_224 (2 : Int32) rfl 225 rfl ?_
    refine g_iconst w at_225 (2 : Int32) rfl 226 rfl ?_
    refine g_iastore w at_226 2 rfl 2 (by decide) (Nat.le_of_ble_eq_true rfl) (.int (2 : Int32)) rfl 227 rfl (fun T w => ?_)
    replace w := w.to (L' := [(b1, O_SmallGroups .null .null (.int (0 : Int32)) .null .null (.int (0 : Int32)) (.int (0 : Int32)) .null .null (.int (0 : Int32)) .null .null (.long (0 : Int64))), (b2, .inr (.long, [(.long x0), (.long x1), (.long x2), (.long x3)])), (b3, .inr (.int, [(.int (0 : Int32)), (.int (1 : Int32)), (.int (2 : Int32)), (.int (0 : Int32))]))]) rfl
    refine g_dup w at_227 rfl 228 rfl ?_
    refine g_iconst w at_228 (3 : Int32) rfl 229 rfl ?_
    refine g_iconst w at_229 (3 : Int32) rfl 230 rfl ?_
    refine g_iastore w at_230 2 rfl 3 (by decide) (Nat.le_of_ble_eq_true rfl) (.int (3 : Int32)) rfl 231 rfl (fun T w => ?_)
    replace w := w.to (L' := [(b1, O_SmallGroups .null .null (.int (0 : Int32)) .null .null (.int (0 : Int32)) (.int (0 : Int32)) .null .null (.int (0 : Int32)) .null .null (.long (0 : Int64))), (b2, .inr (.long, [(.long x0), (.long x1), (.long x2), (.long x3)])), (b3, .inr (.int, [(.int (0 : Int32)), (.int (1 : Int32)), (.int (2 : Int32)), (.int (3 : Int32))]))]) rfl
    refine g_lloadN w at_231 rfl 232 rfl ?_
    refine g_iload w at_232 rfl 234 rfl ?_
    refine g_ctor w (argsL := [(.ref b2), (.ref b3), (.long sp), (.int mo)]) (rest := [(.ref b1)]) (rm3 l Z a0 hw n0 b1 b2 b3 x0 x1 x2 x3 sp mo M hmo' hM hA) at_234 13 rfl 14 rfl 10 rfl 15 rfl rfl ⟨by decide, by decide⟩ pd_9 rfl rfl rfl 1 rfl (by decide) (by decide) (by decide) (by decide) 237 rfl (fun T v L w h => ?_)
    obtain ⟨rfl, up, f0, f1, f2, f3, f4, f5, f7, f8, f9, f10, f11, f12, hup, hL⟩ := h
    replace w := w.to hL
    obtain rfl : up = (2 : Int32) := by rcases hup with ⟨h, h2, h3⟩ | ⟨h, h2, h3, h4⟩ | ⟨h, h2⟩ <;> first | exact h | (exfalso; omega)
    refine g_astore w at_237 239 rfl rfl #[.val (.int sh), .val (.long sp), .second, .val (.int mq), .val (.int si), .val (.long w0), .second, .val (.long w1), .second, .val (.long w2), .second, .val (.long w3), .second, .val (.long x0), .second, .val (.long x1), .second, .val (.long x2), .second, .val (.long x3), .second, .val (.int mo), .val (.int t3), .val (.int t4), .val (.int (2 : Int32)), .val (.ref b1)] rfl ?_
    refine g_aload w at_239 rfl rfl 241 rfl ?_
    refine g_iload w at_241 rfl 243 rfl ?_
    refine g_virt w (argsL := [(.int si)]) (rest := []) (rm7 l Z a0 hw n0 b1 f0 f1 f2 f3 f4 f5 f7 f8 f9 f10 f11 f12 (2 : Int32) si [(b1, O_SmallGroups f0 f1 f2 f3 f4 f5 (.int (2 : Int32)) f7 f8 f9 f10 f11 f12)] 0 rfl) at_243 0 rfl 59 rfl 60 rfl 10 rfl 63 rfl 62 rfl 61 rfl ⟨by decide, by decide⟩ pd_5 rfl rfl rfl 0 rfl (by decide) (by decide) (by decide) (by decide) 246 rfl (fun T v L w h => ?_)
    obtain ⟨rfl, hL⟩ := h
    replace w := w.to hL
    refine g_iload w at_246 rfl 248 rfl ?_
    refine g_iload w at_248 rfl 250 rfl ?_
    refine g_icmp_gt w at_250 257 (by decide) (by decide) 253 rfl (fun hc250 => ?_) (fun hc250 => ?_)
    · -- pc 257 (taken: (2 : Int32) < si)
      refine g_iconst w at_257 (0 : Int32) rfl 258 rfl ?_
      refine g_icmp_ne w at_258 265 (by decide) (by decide) 261 rfl (fun h => absurd (if_pos hc250) h) (fun hc258 => ?_)
      refine g_iconst w at_261 (1 : Int32) rfl 262 rfl ?_
      refine g_goto w at_262 266 (by decide) (by decide) ?_
      exact g_iretn w (by simp) at_266 (by decide) (by decide) rfl
    · -- pc 253 (on: not (2 : Int32) < si)
      refine g_iconst w at_253 (1 : Int32) rfl 254 rfl ?_
      refine g_goto w at_254 258 (by decide) (by decide) ?_
      refine g_icmp_ne w at_258 265 (by decide) (by decide) 261 rfl (fun h => absurd (if_neg hc250) h) (fun hc258 => ?_)
      refine g_iconst w at_261 (1 : Int32) rfl 262 rfl ?_
      refine g_goto w at_262 266 (by decide) (by decide) ?_
      exact g_iretn w (by simp) at_266 (by decide) (by decide) rfl
  · -- pc 154 (on: not sp < (8 : Int64))
    have q151 := mt (own_ltL (rfl : sp.toInt = sp.toInt) (show (8 : Int64).toInt = 8 from rfl)).mpr hc151
    refine g_iload w at_154 rfl 156 rfl ?_
    refine g_iload w at_156 rfl 158 rfl ?_
    refine g_icmp_gt w at_158 185 (by decide) (by decide) 161 rfl (fun hc158 => ?_) (fun hc158 => ?_)
    · -- pc 185 (taken: mo < t3)
      have q158 := (own_ltN hmo' e3).mp hc158
      refine g_new w [("com/example/cangdan/cangdan/fewest/SmallGroups", "members", "[I", .null), ("com/example/cangdan/cangdan/fewest/SmallGroups", "kinds", "[B", .null), ("com/example/cangdan/cangdan/fewest/SmallGroups", "itemCount", "I", (.int (0 : Int32))), ("com/example/cangdan/cangdan/fewest/SmallGroups", "byAmount", "[I", .null), ("com/example/cangdan/cangdan/fewest/SmallGroups", "amounts", "[J", .null), ("com/example/cangdan/cangdan/fewest/SmallGroups", "most", "I", (.int (0 : Int32))), ("com/example/cangdan/cangdan/fewest/SmallGroups", "listedUpTo", "I", (.int (0 : Int32))), ("com/example/cangdan/cangdan/fewest/SmallGroups", "start", "[I", .null), ("com/example/cangdan/cangdan/fewest/SmallGroups", "holding", "[I", .null), ("com/example/cangdan/cangdan/fewest/SmallGroups", "count", "I", (.int (0 : Int32))), ("com/example/cangdan/cangdan/fewest/SmallGroups", "groupsOf", "[I", .null), ("com/example/cangdan/cangdan/fewest/SmallGroups", "gone", "[I", .null), ("com/example/cangdan/cangdan/fewest/SmallGroups", "listingSteps", "J", (.long (0 : Int64)))] at_185 8 rfl 9 rfl 10 rfl (FOk.cons (Or.inl (w.hw (k := 20) rfl)) (ty := (.array .int)) (by decide) rfl (FOk.cons (Or.inl (w.hw (k := 23) rfl)) (ty := (.array .byte)) (by decide) rfl (FOk.cons (Or.inr (w.hw (k := 25) rfl)) (ty := .int) (by decide) rfl (FOk.cons (Or.inr (w.hw (k := 27) rfl)) (ty := (.array .int)) (by decide) rfl (FOk.cons (Or.inr (w.hw (k := 29) rfl)) (ty := (.array .long)) (by decide) rfl (FOk.cons (Or.inr (w.hw (k := 31) rfl)) (ty := .int) (by decide) rfl (FOk.cons (Or.inr (w.hw (k := 34) rfl)) (ty := .int) (by decide) rfl (FOk.cons (Or.inr (w.hw (k := 36) rfl)) (ty := (.array .int)) (by decide) rfl (FOk.cons (Or.inr (w.hw (k := 38) rfl)) (ty := (.array .int)) (by decide) rfl (FOk.cons (Or.inl (w.hw (k := 40) rfl)) (ty := .int) (by decide) rfl (FOk.cons (Or.inr (w.hw (k := 42) rfl)) (ty := (.array .int)) (by decide) rfl (FOk.cons (Or.inr (w.hw (k := 56) rfl)) (ty := (.array .int)) (by decide) rfl (FOk.cons (Or.inl (w.hw (k := 58) rfl)) (ty := .long) (by decide) rfl trivial))))))))))))) (by decide) (by decide) (by decide) 188 rfl (fun T b4 w => ?_)
      replace w := w.to (L' := [(b4, O_SmallGroups .null .null (.int (0 : Int32)) .null .null (.int (0 : Int32)) (.int (0 : Int32)) .null .null (.int (0 : Int32)) .null .null (.long (0 : Int64)))]) rfl
      refine g_dup w at_188 rfl 189 rfl ?_
      refine g_iconst w at_189 (4 : Int32) rfl 190 rfl ?_
      refine g_newarr w at_190 11 rfl 4 4 (by decide) (by decide) (by decide) [(.long (0 : Int64)), (.long (0 : Int64)), (.long (0 : Int64)), (.long (0 : Int64))] rfl (by decide) (by decide) 192 rfl (fun T b5 w => ?_)
      replace w := w.to (L' := [(b4, O_SmallGroups .null .null (.int (0 : Int32)) .null .null (.int (0 : Int32)) (.int (0 : Int32)) .null .null (.int (0 : Int32)) .null .null (.long (0 : Int64))), (b5, .inr (.long, [(.long (0 : Int64)), (.long (0 : Int64)), (.long (0 : Int64)), (.long (0 : Int64))]))]) rfl
      refine g_dup w at_192 rfl 193 rfl ?_
      refine g_iconst w at_193 (0 : Int32) rfl 194 rfl ?_
      refine g_lload w at_194 rfl 196 rfl ?_
      refine g_lastore w at_196 1 rfl 0 (by decide) (Nat.le_of_ble_eq_true rfl) (.long x0) rfl 197 rfl (fun T w => ?_)
      replace w := w.to (L' := [(b4, O_SmallGroups .null .null (.int (0 : Int32)) .null .null (.int (0 : Int32)) (.int (0 : Int32)) .null .null (.int (0 : Int32)) .null .null (.long (0 : Int64))), (b5, .inr (.long, [(.long x0), (.long (0 : Int64)), (.long (0 : Int64)), (.long (0 : Int64))]))]) rfl
      refine g_dup w at_197 rfl 198 rfl ?_
      refine g_iconst w at_198 (1 : Int32) rfl 199 rfl ?_
      refine g_lload w at_199 rfl 201 rfl ?_
      refine g_lastore w at_201 1 rfl 1 (by decide) (Nat.le_of_ble_eq_true rfl) (.long x1) rfl 202 rfl (fun T w => ?_)
      replace w := w.to (L' := [(b4, O_SmallGroups .null .null (.int (0 : Int32)) .null .null (.int (0 : Int32)) (.int (0 : Int32)) .null .null (.int (0 : Int32)) .null .null (.long (0 : Int64))), (b5, .inr (.long, [(.long x0), (.long x1), (.long (0 : Int64)), (.long (0 : Int64))]))]) rfl
      refine g_dup w at_202 rfl 203 rfl ?_
      refine g_iconst w at_203 (2 : Int32) rfl 204 rfl ?_
      refine g_lload w at_204 rfl 206 rfl ?_
      refine g_lastore w at_206 1 rfl 2 (by decide) (Nat.le_of_ble_eq_true rfl) (.long x2) rfl 207 rfl (fun T w => ?_)
      replace w := w.to (L' := [(b4, O_SmallGroups .null .null (.int (0 : Int32)) .null .null (.int (0 : Int32)) (.int (0 : Int32)) .null .null (.int (0 : Int32)) .null .null (.long (0 : Int64))), (b5, .inr (.long, [(.long x0), (.long x1), (.long x2), (.long (0 : Int64))]))]) rfl
      refine g_dup w at_207 rfl 208 rfl ?_
      refine g_iconst w at_208 (3 : Int32) rfl 209 rfl ?_
      refine g_lload w at_209 rfl 211 rfl ?_
      refine g_lastore w at_211 1 rfl 3 (by decide) (Nat.le_of_ble_eq_true rfl) (.long x3) rfl 212 rfl (fun T w => ?_)
      replace w := w.to (L' := [(b4, O_SmallGroups .null .null (.int (0 : Int32)) .null .null (.int (0 : Int32)) (.int (0 : Int32)) .null .null (.int (0 : Int32)) .null .null (.long (0 : Int64))), (b5, .inr (.long, [(.long x0), (.long x1), (.long x2), (.long x3)]))]) rfl
      refine g_iconst w at_212 (4 : Int32) rfl 213 rfl ?_
      refine g_newarr w at_213 12 rfl 4 4 (by decide) (by decide) (by decide) [(.int (0 : Int32)), (.int (0 : Int32)), (.int (0 : Int32)), (.int (0 : Int32))] rfl (by decide) (by decide) 215 rfl (fun T b6 w => ?_)
      replace w := w.to (L' := [(b4, O_SmallGroups .null .null (.int (0 : Int32)) .null .null (.int (0 : Int32)) (.int (0 : Int32)) .null .null (.int (0 : Int32)) .null .null (.long (0 : Int64))), (b5, .inr (.long, [(.long x0), (.long x1), (.long x2), (.long x3)])), (b6, .inr (.int, [(.int (0 : Int32)), (.int (0 : Int32)), (.int (0 : Int32)), (.int (0 : Int32))]))]) rfl
      refine g_dup w at_215 rfl 216 rfl ?_
      refine g_iconst w at_216 (0 : Int32) rfl 217 rfl ?_
      refine g_iconst w at_217 (0 : Int32) rfl 218 rfl ?_
      refine g_iastore w at_218 2 rfl 0 (by decide) (Nat.le_of_ble_eq_true rfl) (.int (0 : Int32)) rfl 219 rfl (fun T w => ?_)
      replace w := w.to (L' := [(b4, O_SmallGroups .null .null (.int (0 : Int32)) .null .null (.int (0 : Int32)) (.int (0 : Int32)) .null .null (.int (0 : Int32)) .null .null (.long (0 : Int64))), (b5, .inr (.long, [(.long x0), (.long x1), (.long x2), (.long x3)])), (b6, .inr (.int, [(.int (0 : Int32)), (.int (0 : Int32)), (.int (0 : Int32)), (.int (0 : Int32))]))]) rfl
      refine g_dup w at_219 rfl 220 rfl ?_
      refine g_iconst w at_220 (1 : Int32) rfl 221 rfl ?_
      refine g_iconst w at_221 (1 : Int32) rfl 222 rfl ?_
      refine g_iastore w at_222 2 rfl 1 (by decide) (Nat.le_of_ble_eq_true rfl) (.int (1 : Int32)) rfl 223 rfl (fun T w => ?_)
      replace w := w.to (L' := [(b4, O_SmallGroups .null .null (.int (0 : Int32)) .null .null (.int (0 : Int32)) (.int (0 : Int32)) .null .null (.int (0 : Int32)) .null .null (.long (0 : Int64))), (b5, .inr (.long, [(.long x0), (.long x1), (.long x2), (.long x3)])), (b6, .inr (.int, [(.int (0 : Int32)), (.int (1 : Int32)), (.int (0 : Int32)), (.int (0 : Int32))]))]) rfl
      refine g_dup w at_223 rfl 224 rfl ?_
      refine g_iconst w at_224 (2 : Int32) rfl 225 rfl ?_
      refine g_iconst w at_225 (2 : Int32) rfl 226 rfl ?_
      refine g_iastore w at_226 2 rfl 2 (by decide) (Nat.le_of_ble_eq_true rfl) (.int (2 : Int32)) rfl 227 rfl (fun T w => ?_)
      replace w := w.to (L' := [(b4, O_SmallGroups .null .null (.int (0 : Int32)) .null .null (.int (0 : Int32)) (.int (0 : Int32)) .null .null (.int (0 : Int32)) .null .null (.long (0 : Int64))), (b5, .inr (.long, [(.long x0), (.long x1), (.long x2), (.long x3)])), (b6, .inr (.int, [(.int (0 : Int32)), (.int (1 : Int32)), (.int (2 : Int32)), (.int (0 : Int32))]))]) rfl
      refine g_dup w at_227 rfl 228 rfl ?_
      refine g_iconst w at_228 (3 : Int32) rfl 229 rfl ?_
      refine g_iconst w at_229 (3 : Int32) rfl 230 rfl ?_
      refine g_iastore w at_230 2 rfl 3 (by decide) (Nat.le_of_ble_eq_true rfl) (.int (3 : Int32)) rfl 231 rfl (fun T w => ?_)
      replace w := w.to (L' := [(b4, O_SmallGroups .null .null (.int (0 : Int32)) .null .null (.int (0 : Int32)) (.int (0 : Int32)) .null .null (.int (0 : Int32)) .null .null (.long (0 : Int64))), (b5, .inr (.long, [(.long x0), (.long x1), (.long x2), (.long x3)])), (b6, .inr (.int, [(.int (0 : Int32)), (.int (1 : Int32)), (.int (2 : Int32)), (.int (3 : Int32))]))]) rfl
      refine g_lloadN w at_231 rfl 232 rfl ?_
      refine g_iload w at_232 rfl 234 rfl ?_
      refine g_ctor w (argsL := [(.ref b5), (.ref b6), (.long sp), (.int mo)]) (rest := [(.ref b4)]) (rm3 l Z a0 hw n0 b4 b5 b6 x0 x1 x2 x3 sp mo M hmo' hM hA) at_234 13 rfl 14 rfl 10 rfl 15 rfl rfl ⟨by decide, by decide⟩ pd_9 rfl rfl rfl 1 rfl (by decide) (by decide) (by decide) (by decide) 237 rfl (fun T v L w h => ?_)
      obtain ⟨rfl, up, f0, f1, f2, f3, f4, f5, f7, f8, f9, f10, f11, f12, hup, hL⟩ := h
      replace w := w.to hL
      obtain rfl : up = (2 : Int32) := by rcases hup with ⟨h, h2, h3⟩ | ⟨h, h2, h3, h4⟩ | ⟨h, h2⟩ <;> first | exact h | (exfalso; omega)
      refine g_astore w at_237 239 rfl rfl #[.val (.int sh), .val (.long sp), .second, .val (.int mq), .val (.int si), .val (.long w0), .second, .val (.long w1), .second, .val (.long w2), .second, .val (.long w3), .second, .val (.long x0), .second, .val (.long x1), .second, .val (.long x2), .second, .val (.long x3), .second, .val (.int mo), .val (.int t3), .val (.int t4), .val (.int (2 : Int32)), .val (.ref b4)] rfl ?_
      refine g_aload w at_239 rfl rfl 241 rfl ?_
      refine g_iload w at_241 rfl 243 rfl ?_
      refine g_virt w (argsL := [(.int si)]) (rest := []) (rm7 l Z a0 hw n0 b4 f0 f1 f2 f3 f4 f5 f7 f8 f9 f10 f11 f12 (2 : Int32) si [(b4, O_SmallGroups f0 f1 f2 f3 f4 f5 (.int (2 : Int32)) f7 f8 f9 f10 f11 f12)] 0 rfl) at_243 0 rfl 59 rfl 60 rfl 10 rfl 63 rfl 62 rfl 61 rfl ⟨by decide, by decide⟩ pd_5 rfl rfl rfl 0 rfl (by decide) (by decide) (by decide) (by decide) 246 rfl (fun T v L w h => ?_)
      obtain ⟨rfl, hL⟩ := h
      replace w := w.to hL
      refine g_iload w at_246 rfl 248 rfl ?_
      refine g_iload w at_248 rfl 250 rfl ?_
      refine g_icmp_gt w at_250 257 (by decide) (by decide) 253 rfl (fun hc250 => ?_) (fun hc250 => ?_)
      · -- pc 257 (taken: (2 : Int32) < si)
        refine g_iconst w at_257 (0 : Int32) rfl 258 rfl ?_
        refine g_icmp_ne w at_258 265 (by decide) (by decide) 261 rfl (fun h => absurd (if_pos hc250) h) (fun hc258 => ?_)
        refine g_iconst w at_261 (1 : Int32) rfl 262 rfl ?_
        refine g_goto w at_262 266 (by decide) (by decide) ?_
        exact g_iretn w (by simp) at_266 (by decide) (by decide) rfl
      · -- pc 253 (on: not (2 : Int32) < si)
        refine g_iconst w at_253 (1 : Int32) rfl 254 rfl ?_
        refine g_goto w at_254 258 (by decide) (by decide) ?_
        refine g_icmp_ne w at_258 265 (by decide) (by decide) 261 rfl (fun h => absurd (if_neg hc250) h) (fun hc258 => ?_)
        refine g_iconst w at_261 (1 : Int32) rfl 262 rfl ?_
        refine g_goto w at_262 266 (by decide) (by decide) ?_
        exact g_iretn w (by simp) at_266 (by decide) (by decide) rfl
    · -- pc 161 (on: not mo < t3)
      have q158 := mt (own_ltN hmo' e3).mpr hc158
      refine g_iconst w at_161 (3 : Int32) rfl 162 rfl ?_
      refine g_istore w at_162 164 rfl rfl #[.val (.int sh), .val (.long sp), .second, .val (.int mq), .val (.int si), .val (.long w0), .second, .val (.long w1), .second, .val (.long w2), .second, .val (.long w3), .second, .val (.long x0), .second, .val (.long x1), .second, .val (.long x2), .second, .val (.long x3), .second, .val (.int mo), .val (.int t3), .val (.int t4), .val (.int (3 : Int32)), .unset] rfl ?_
      refine g_ldcl w at_164 64 rfl 167 rfl ?_
      refine g_lloadN w at_167 rfl 168 rfl ?_
      refine g_lcmp w at_168 169 rfl ?_
      refine g_lif_gt w at_169 185 (by decide) (by decide) 172 rfl (fun hc169 => ?_) (fun hc169 => ?_)
      · -- pc 185 (taken: sp < (10 : Int64))
        have q169 := (own_ltL (rfl : sp.toInt = sp.toInt) (show (10 : Int64).toInt = 10 from rfl)).mp hc169
        refine g_new w [("com/example/cangdan/cangdan/fewest/SmallGroups", "members", "[I", .null), ("com/example/cangdan/cangdan/fewest/SmallGroups", "kinds", "[B", .null), ("com/example/cangdan/cangdan/fewest/SmallGroups", "itemCount", "I", (.int (0 : Int32))), ("com/example/cangdan/cangdan/fewest/SmallGroups", "byAmount", "[I", .null), ("com/example/cangdan/cangdan/fewest/SmallGroups", "amounts", "[J", .null), ("com/example/cangdan/cangdan/fewest/SmallGroups", "most", "I", (.int (0 : Int32))), ("com/example/cangdan/cangdan/fewest/SmallGroups", "listedUpTo", "I", (.int (0 : Int32))), ("com/example/cangdan/cangdan/fewest/SmallGroups", "start", "[I", .null), ("com/example/cangdan/cangdan/fewest/SmallGroups", "holding", "[I", .null), ("com/example/cangdan/cangdan/fewest/SmallGroups", "count", "I", (.int (0 : Int32))), ("com/example/cangdan/cangdan/fewest/SmallGroups", "groupsOf", "[I", .null), ("com/example/cangdan/cangdan/fewest/SmallGroups", "gone", "[I", .null), ("com/example/cangdan/cangdan/fewest/SmallGroups", "listingSteps", "J", (.long (0 : Int64)))] at_185 8 rfl 9 rfl 10 rfl (FOk.cons (Or.inl (w.hw (k := 20) rfl)) (ty := (.array .int)) (by decide) rfl (FOk.cons (Or.inl (w.hw (k := 23) rfl)) (ty := (.array .byte)) (by decide) rfl (FOk.cons (Or.inr (w.hw (k := 25) rfl)) (ty := .int) (by decide) rfl (FOk.cons (Or.inr (w.hw (k := 27) rfl)) (ty := (.array .int)) (by decide) rfl (FOk.cons (Or.inr (w.hw (k := 29) rfl)) (ty := (.array .long)) (by decide) rfl (FOk.cons (Or.inr (w.hw (k := 31) rfl)) (ty := .int) (by decide) rfl (FOk.cons (Or.inr (w.hw (k := 34) rfl)) (ty := .int) (by decide) rfl (FOk.cons (Or.inr (w.hw (k := 36) rfl)) (ty := (.array .int)) (by decide) rfl (FOk.cons (Or.inr (w.hw (k := 38) rfl)) (ty := (.array .int)) (by decide) rfl (FOk.cons (Or.inl (w.hw (k := 40) rfl)) (ty := .int) (by decide) rfl (FOk.cons (Or.inr (w.hw (k := 42) rfl)) (ty := (.array .int)) (by decide) rfl (FOk.cons (Or.inr (w.hw (k := 56) rfl)) (ty := (.array .int)) (by decide) rfl (FOk.cons (Or.inl (w.hw (k := 58) rfl)) (ty := .long) (by decide) rfl trivial))))))))))))) (by decide) (by decide) (by decide) 188 rfl (fun T b7 w => ?_)
        replace w := w.to (L' := [(b7, O_SmallGroups .null .null (.int (0 : Int32)) .null .null (.int (0 : Int32)) (.int (0 : Int32)) .null .null (.int (0 : Int32)) .null .null (.long (0 : Int64)))]) rfl
        refine g_dup w at_188 rfl 189 rfl ?_
        refine g_iconst w at_189 (4 : Int32) rfl 190 rfl ?_
        refine g_newarr w at_190 11 rfl 4 4 (by decide) (by decide) (by decide) [(.long (0 : Int64)), (.long (0 : Int64)), (.long (0 : Int64)), (.long (0 : Int64))] rfl (by decide) (by decide) 192 rfl (fun T b8 w => ?_)
        replace w := w.to (L' := [(b7, O_SmallGroups .null .null (.int (0 : Int32)) .null .null (.int (0 : Int32)) (.int (0 : Int32)) .null .null (.int (0 : Int32)) .null .null (.long (0 : Int64))), (b8, .inr (.long, [(.long (0 : Int64)), (.long (0 : Int64)), (.long (0 : Int64)), (.long (0 : Int64))]))]) rfl
        refine g_dup w at_192 rfl 193 rfl ?_
        refine g_iconst w at_193 (0 : Int32) rfl 194 rfl ?_
        refine g_lload w at_194 rfl 196 rfl ?_
        refine g_lastore w at_196 1 rfl 0 (by decide) (Nat.le_of_ble_eq_true rfl) (.long x0) rfl 197 rfl (fun T w => ?_)
        replace w := w.to (L' := [(b7, O_SmallGroups .null .null (.int (0 : Int32)) .null .null (.int (0 : Int32)) (.int (0 : Int32)) .null .null (.int (0 : Int32)) .null .null (.long (0 : Int64))), (b8, .inr (.long, [(.long x0), (.long (0 : Int64)), (.long (0 : Int64)), (.long (0 : Int64))]))]) rfl
        refine g_dup w at_197 rfl 198 rfl ?_
        refine g_iconst w at_198 (1 : Int32) rfl 199 rfl ?_
        refine g_lload w at_199 rfl 201 rfl ?_
        refine g_lastore w at_201 1 rfl 1 (by decide) (Nat.le_of_ble_eq_true rfl) (.long x1) rfl 202 rfl (fun T w => ?_)
        replace w := w.to (L' := [(b7, O_SmallGroups .null .null (.int (0 : Int32)) .null .null (.int (0 : Int32)) (.int (0 : Int32)) .null .null (.int (0 : Int32)) .null .null (.long (0 : Int64))), (b8, .inr (.long, [(.long x0), (.long x1), (.long (0 : Int64)), (.long (0 : Int64))]))]) rfl
        refine g_dup w at_202 rfl 203 rfl ?_
        refine g_iconst w at_203 (2 : Int32) rfl 204 rfl ?_
        refine g_lload w at_204 rfl 206 rfl ?_
        refine g_lastore w at_206 1 rfl 2 (by decide) (Nat.le_of_ble_eq_true rfl) (.long x2) rfl 207 rfl (fun T w => ?_)
        replace w := w.to (L' := [(b7, O_SmallGroups .null .null (.int (0 : Int32)) .null .null (.int (0 : Int32)) (.int (0 : Int32)) .null .null (.int (0 : Int32)) .null .null (.long (0 : Int64))), (b8, .inr (.long, [(.long x0), (.long x1), (.long x2), (.long (0 : Int64))]))]) rfl
        refine g_dup w at_207 rfl 208 rfl ?_
        refine g_iconst w at_208 (3 : Int32) rfl 209 rfl ?_
        refine g_lload w at_209 rfl 211 rfl ?_
        refine g_lastore w at_211 1 rfl 3 (by decide) (Nat.le_of_ble_eq_true rfl) (.long x3) rfl 212 rfl (fun T w => ?_)
        replace w := w.to (L' := [(b7, O_SmallGroups .null .null (.int (0 : Int32)) .null .null (.int (0 : Int32)) (.int (0 : Int32)) .null .null (.int (0 : Int32)) .null .null (.long (0 : Int64))), (b8, .inr (.long, [(.long x0), (.long x1), (.long x2), (.long x3)]))]) rfl
        refine g_iconst w at_212 (4 : Int32) rfl 213 rfl ?_
        refine g_newarr w at_213 12 rfl 4 4 (by decide) (by decide) (by decide) [(.int (0 : Int32)), (.int (0 : Int32)), (.int (0 : Int32)), (.int (0 : Int32))] rfl (by decide) (by decide) 215 rfl (fun T b9 w => ?_)
        replace w := w.to (L' := [(b7, O_SmallGroups .null .null (.int (0 : Int32)) .null .null (.int (0 : Int32)) (.int (0 : Int32)) .null .null (.int (0 : Int32)) .null .null (.long (0 : Int64))), (b8, .inr (.long, [(.long x0), (.long x1), (.long x2), (.long x3)])), (b9, .inr (.int, [(.int (0 : Int32)), (.int (0 : Int32)), (.int (0 : Int32)), (.int (0 : Int32))]))]) rfl
        refine g_dup w at_215 rfl 216 rfl ?_
        refine g_iconst w at_216 (0 : Int32) rfl 217 rfl ?_
        refine g_iconst w at_217 (0 : Int32) rfl 218 rfl ?_
        refine g_iastore w at_218 2 rfl 0 (by decide) (Nat.le_of_ble_eq_true rfl) (.int (0 : Int32)) rfl 219 rfl (fun T w => ?_)
        replace w := w.to (L' := [(b7, O_SmallGroups .null .null (.int (0 : Int32)) .null .null (.int (0 : Int32)) (.int (0 : Int32)) .null .null (.int (0 : Int32)) .null .null (.long (0 : Int64))), (b8, .inr (.long, [(.long x0), (.long x1), (.long x2), (.long x3)])), (b9, .inr (.int, [(.int (0 : Int32)), (.int (0 : Int32)), (.int (0 : Int32)), (.int (0 : Int32))]))]) rfl
        refine g_dup w at_219 rfl 220 rfl ?_
        refine g_iconst w at_220 (1 : Int32) rfl 221 rfl ?_
        refine g_iconst w at_221 (1 : Int32) rfl 222 rfl ?_
        refine g_iastore w at_222 2 rfl 1 (by decide) (Nat.le_of_ble_eq_true rfl) (.int (1 : Int32)) rfl 223 rfl (fun T w => ?_)
        replace w := w.to (L' := [(b7, O_SmallGroups .null .null (.int (0 : Int32)) .null .null (.int (0 : Int32)) (.int (0 : Int32)) .null .null (.int (0 : Int32)) .null .null (.long (0 : Int64))), (b8, .inr (.long, [(.long x0), (.long x1), (.long x2), (.long x3)])), (b9, .inr (.int, [(.int (0 : Int32)), (.int (1 : Int32)), (.int (0 : Int32)), (.int (0 : Int32))]))]) rfl
        refine g_dup w at_223 rfl 224 rfl ?_
        refine g_iconst w at_224 (2 : Int32) rfl 225 rfl ?_
        refine g_iconst w at_225 (2 : Int32) rfl 226 rfl ?_
        refine g_iastore w at_226 2 rfl 2 (by decide) (Nat.le_of_ble_eq_true rfl) (.int (2 : Int32)) rfl 227 rfl (fun T w => ?_)
        replace w := w.to (L' := [(b7, O_SmallGroups .null .null (.int (0 : Int32)) .null .null (.int (0 : Int32)) (.int (0 : Int32)) .null .null (.int (0 : Int32)) .null .null (.long (0 : Int64))), (b8, .inr (.long, [(.long x0), (.long x1), (.long x2), (.long x3)])), (b9, .inr (.int, [(.int (0 : Int32)), (.int (1 : Int32)), (.int (2 : Int32)), (.int (0 : Int32))]))]) rfl
        refine g_dup w at_227 rfl 228 rfl ?_
        refine g_iconst w at_228 (3 : Int32) rfl 229 rfl ?_
        refine g_iconst w at_229 (3 : Int32) rfl 230 rfl ?_
        refine g_iastore w at_230 2 rfl 3 (by decide) (Nat.le_of_ble_eq_true rfl) (.int (3 : Int32)) rfl 231 rfl (fun T w => ?_)
        replace w := w.to (L' := [(b7, O_SmallGroups .null .null (.int (0 : Int32)) .null .null (.int (0 : Int32)) (.int (0 : Int32)) .null .null (.int (0 : Int32)) .null .null (.long (0 : Int64))), (b8, .inr (.long, [(.long x0), (.long x1), (.long x2), (.long x3)])), (b9, .inr (.int, [(.int (0 : Int32)), (.int (1 : Int32)), (.int (2 : Int32)), (.int (3 : Int32))]))]) rfl
        refine g_lloadN w at_231 rfl 232 rfl ?_
        refine g_iload w at_232 rfl 234 rfl ?_
        refine g_ctor w (argsL := [(.ref b8), (.ref b9), (.long sp), (.int mo)]) (rest := [(.ref b7)]) (rm3 l Z a0 hw n0 b7 b8 b9 x0 x1 x2 x3 sp mo M hmo' hM hA) at_234 13 rfl 14 rfl 10 rfl 15 rfl rfl ⟨by decide, by decide⟩ pd_9 rfl rfl rfl 1 rfl (by decide) (by decide) (by decide) (by decide) 237 rfl (fun T v L w h => ?_)
        obtain ⟨rfl, up, f0, f1, f2, f3, f4, f5, f7, f8, f9, f10, f11, f12, hup, hL⟩ := h
        replace w := w.to hL
        obtain rfl : up = (3 : Int32) := by rcases hup with ⟨h, h2, h3⟩ | ⟨h, h2, h3, h4⟩ | ⟨h, h2⟩ <;> first | exact h | (exfalso; omega)
        refine g_astore w at_237 239 rfl rfl #[.val (.int sh), .val (.long sp), .second, .val (.int mq), .val (.int si), .val (.long w0), .second, .val (.long w1), .second, .val (.long w2), .second, .val (.long w3), .second, .val (.long x0), .second, .val (.long x1), .second, .val (.long x2), .second, .val (.long x3), .second, .val (.int mo), .val (.int t3), .val (.int t4), .val (.int (3 : Int32)), .val (.ref b7)] rfl ?_
        refine g_aload w at_239 rfl rfl 241 rfl ?_
        refine g_iload w at_241 rfl 243 rfl ?_
        refine g_virt w (argsL := [(.int si)]) (rest := []) (rm7 l Z a0 hw n0 b7 f0 f1 f2 f3 f4 f5 f7 f8 f9 f10 f11 f12 (3 : Int32) si [(b7, O_SmallGroups f0 f1 f2 f3 f4 f5 (.int (3 : Int32)) f7 f8 f9 f10 f11 f12)] 0 rfl) at_243 0 rfl 59 rfl 60 rfl 10 rfl 63 rfl 62 rfl 61 rfl ⟨by decide, by decide⟩ pd_5 rfl rfl rfl 0 rfl (by decide) (by decide) (by decide) (by decide) 246 rfl (fun T v L w h => ?_)
        obtain ⟨rfl, hL⟩ := h
        replace w := w.to hL
        refine g_iload w at_246 rfl 248 rfl ?_
        refine g_iload w at_248 rfl 250 rfl ?_
        refine g_icmp_gt w at_250 257 (by decide) (by decide) 253 rfl (fun hc250 => ?_) (fun hc250 => ?_)
        · -- pc 257 (taken: (3 : Int32) < si)
          refine g_iconst w at_257 (0 : Int32) rfl 258 rfl ?_
          refine g_icmp_ne w at_258 265 (by decide) (by decide) 261 rfl (fun h => absurd (if_pos hc250) h) (fun hc258 => ?_)
          refine g_iconst w at_261 (1 : Int32) rfl 262 rfl ?_
          refine g_goto w at_262 266 (by decide) (by decide) ?_
          exact g_iretn w (by simp) at_266 (by decide) (by decide) rfl
        · -- pc 253 (on: not (3 : Int32) < si)
          refine g_iconst w at_253 (1 : Int32) rfl 254 rfl ?_
          refine g_goto w at_254 258 (by decide) (by decide) ?_
          refine g_icmp_ne w at_258 265 (by decide) (by decide) 261 rfl (fun h => absurd (if_neg hc250) h) (fun hc258 => ?_)
          refine g_iconst w at_261 (1 : Int32) rfl 262 rfl ?_
          refine g_goto w at_262 266 (by decide) (by decide) ?_
          exact g_iretn w (by simp) at_266 (by decide) (by decide) rfl
      · -- pc 172 (on: not sp < (10 : Int64))
        have q169 := mt (own_ltL (rfl : sp.toInt = sp.toInt) (show (10 : Int64).toInt = 10 from rfl)).mpr hc169
        refine g_iload w at_172 rfl 174 rfl ?_
        refine g_iload w at_174 rfl 176 rfl ?_
        refine g_iadd w at_176 177 rfl ?_
        refine g_iload w at_177 rfl 179 rfl ?_
        refine g_icmp_gt w at_179 185 (by decide) (by decide) 182 rfl (fun hc179 => ?_) (fun hc179 => ?_)
        · -- pc 185 (taken: mo < (t3 + t4))
          have q179 := (own_ltN hmo' (own_add32 e3 e4 (by omega) (by omega))).mp hc179
          refine g_new w [("com/example/cangdan/cangdan/fewest/SmallGroups", "members", "[I", .null), ("com/example/cangdan/cangdan/fewest/SmallGroups", "kinds", "[B", .null), ("com/example/cangdan/cangdan/fewest/SmallGroups", "itemCount", "I", (.int (0 : Int32))), ("com/example/cangdan/cangdan/fewest/SmallGroups", "byAmount", "[I", .null), ("com/example/cangdan/cangdan/fewest/SmallGroups", "amounts", "[J", .null), ("com/example/cangdan/cangdan/fewest/SmallGroups", "most", "I", (.int (0 : Int32))), ("com/example/cangdan/cangdan/fewest/SmallGroups", "listedUpTo", "I", (.int (0 : Int32))), ("com/example/cangdan/cangdan/fewest/SmallGroups", "start", "[I", .null), ("com/example/cangdan/cangdan/fewest/SmallGroups", "holding", "[I", .null), ("com/example/cangdan/cangdan/fewest/SmallGroups", "count", "I", (.int (0 : Int32))), ("com/example/cangdan/cangdan/fewest/SmallGroups", "groupsOf", "[I", .null), ("com/example/cangdan/cangdan/fewest/SmallGroups", "gone", "[I", .null), ("com/example/cangdan/cangdan/fewest/SmallGroups", "listingSteps", "J", (.long (0 : Int64)))] at_185 8 rfl 9 rfl 10 rfl (FOk.cons (Or.inl (w.hw (k := 20) rfl)) (ty := (.array .int)) (by decide) rfl (FOk.cons (Or.inl (w.hw (k := 23) rfl)) (ty := (.array .byte)) (by decide) rfl (FOk.cons (Or.inr (w.hw (k := 25) rfl)) (ty := .int) (by decide) rfl (FOk.cons (Or.inr (w.hw (k := 27) rfl)) (ty := (.array .int)) (by decide) rfl (FOk.cons (Or.inr (w.hw (k := 29) rfl)) (ty := (.array .long)) (by decide) rfl (FOk.cons (Or.inr (w.hw (k := 31) rfl)) (ty := .int) (by decide) rfl (FOk.cons (Or.inr (w.hw (k := 34) rfl)) (ty := .int) (by decide) rfl (FOk.cons (Or.inr (w.hw (k := 36) rfl)) (ty := (.array .int)) (by decide) rfl (FOk.cons (Or.inr (w.hw (k := 38) rfl)) (ty := (.array .int)) (by decide) rfl (FOk.cons (Or.inl (w.hw (k := 40) rfl)) (ty := .int) (by decide) rfl (FOk.cons (Or.inr (w.hw (k := 42) rfl)) (ty := (.array .int)) (by decide) rfl (FOk.cons (Or.inr (w.hw (k := 56) rfl)) (ty := (.array .int)) (by decide) rfl (FOk.cons (Or.inl (w.hw (k := 58) rfl)) (ty := .long) (by decide) rfl trivial))))))))))))) (by decide) (by decide) (by decide) 188 rfl (fun T b10 w => ?_)
          replace w := w.to (L' := [(b10, O_SmallGroups .null .null (.int (0 : Int32)) .null .null (.int (0 : Int32)) (.int (0 : Int32)) .null .null (.int (0 : Int32)) .null .null (.long (0 : Int64)))]) rfl
          refine g_dup w at_188 rfl 189 rfl ?_
          refine g_iconst w at_189 (4 : Int32) rfl 190 rfl ?_
          refine g_newarr w at_190 11 rfl 4 4 (by decide) (by decide) (by decide) [(.long (0 : Int64)), (.long (0 : Int64)), (.long (0 : Int64)), (.long (0 : Int64))] rfl (by decide) (by decide) 192 rfl (fun T b11 w => ?_)
          replace w := w.to (L' := [(b10, O_SmallGroups .null .null (.int (0 : Int32)) .null .null (.int (0 : Int32)) (.int (0 : Int32)) .null .null (.int (0 : Int32)) .null .null (.long (0 : Int64))), (b11, .inr (.long, [(.long (0 : Int64)), (.long (0 : Int64)), (.long (0 : Int64)), (.long (0 : Int64))]))]) rfl
          refine g_dup w at_192 rfl 193 rfl ?_
          refine g_iconst w at_193 (0 : Int32) rfl 194 rfl ?_
          refine g_lload w at_194 rfl 196 rfl ?_
          refine g_lastore w at_196 1 rfl 0 (by decide) (Nat.le_of_ble_eq_true rfl) (.long x0) rfl 197 rfl (fun T w => ?_)
          replace w := w.to (L' := [(b10, O_SmallGroups .null .null (.int (0 : Int32)) .null .null (.int (0 : Int32)) (.int (0 : Int32)) .null .null (.int (0 : Int32)) .null .null (.long (0 : Int64))), (b11, .inr (.long, [(.long x0), (.long (0 : Int64)), (.long (0 : Int64)), (.long (0 : Int64))]))]) rfl
          refine g_dup w at_197 rfl 198 rfl ?_
          refine g_iconst w at_198 (1 : Int32) rfl 199 rfl ?_
          refine g_lload w at_199 rfl 201 rfl ?_
          refine g_lastore w at_201 1 rfl 1 (by decide) (Nat.le_of_ble_eq_true rfl) (.long x1) rfl 202 rfl (fun T w => ?_)
          replace w := w.to (L' := [(b10, O_SmallGroups .null .null (.int (0 : Int32)) .null .null (.int (0 : Int32)) (.int (0 : Int32)) .null .null (.int (0 : Int32)) .null .null (.long (0 : Int64))), (b11, .inr (.long, [(.long x0), (.long x1), (.long (0 : Int64)), (.long (0 : Int64))]))]) rfl
          refine g_dup w at_202 rfl 203 rfl ?_
          refine g_iconst w at_203 (2 : Int32) rfl 204 rfl ?_
          refine g_lload w at_204 rfl 206 rfl ?_
          refine g_lastore w at_206 1 rfl 2 (by decide) (Nat.le_of_ble_eq_true rfl) (.long x2) rfl 207 rfl (fun T w => ?_)
          replace w := w.to (L' := [(b10, O_SmallGroups .null .null (.int (0 : Int32)) .null .null (.int (0 : Int32)) (.int (0 : Int32)) .null .null (.int (0 : Int32)) .null .null (.long (0 : Int64))), (b11, .inr (.long, [(.long x0), (.long x1), (.long x2), (.long (0 : Int64))]))]) rfl
          refine g_dup w at_207 rfl 208 rfl ?_
          refine g_iconst w at_208 (3 : Int32) rfl 209 rfl ?_
          refine g_lload w at_209 rfl 211 rfl ?_
          refine g_lastore w at_211 1 rfl 3 (by decide) (Nat.le_of_ble_eq_true rfl) (.long x3) rfl 212 rfl (fun T w => ?_)
          replace w := w.to (L' := [(b10, O_SmallGroups .null .null (.int (0 : Int32)) .null .null (.int (0 : Int32)) (.int (0 : Int32)) .null .null (.int (0 : Int32)) .null .null (.long (0 : Int64))), (b11, .inr (.long, [(.long x0), (.long x1), (.long x2), (.long x3)]))]) rfl
          refine g_iconst w at_212 (4 : Int32) rfl 213 rfl ?_
          refine g_newarr w at_213 12 rfl 4 4 (by decide) (by decide) (by decide) [(.int (0 : Int32)), (.int (0 : Int32)), (.int (0 : Int32)), (.int (0 : Int32))] rfl (by decide) (by decide) 215 rfl (fun T b12 w => ?_)
          replace w := w.to (L' := [(b10, O_SmallGroups .null .null (.int (0 : Int32)) .null .null (.int (0 : Int32)) (.int (0 : Int32)) .null .null (.int (0 : Int32)) .null .null (.long (0 : Int64))), (b11, .inr (.long, [(.long x0), (.long x1), (.long x2), (.long x3)])), (b12, .inr (.int, [(.int (0 : Int32)), (.int (0 : Int32)), (.int (0 : Int32)), (.int (0 : Int32))]))]) rfl
          refine g_dup w at_215 rfl 216 rfl ?_
          refine g_iconst w at_216 (0 : Int32) rfl 217 rfl ?_
          refine g_iconst w at_217 (0 : Int32) rfl 218 rfl ?_
          refine g_iastore w at_218 2 rfl 0 (by decide) (Nat.le_of_ble_eq_true rfl) (.int (0 : Int32)) rfl 219 rfl (fun T w => ?_)
          replace w := w.to (L' := [(b10, O_SmallGroups .null .null (.int (0 : Int32)) .null .null (.int (0 : Int32)) (.int (0 : Int32)) .null .null (.int (0 : Int32)) .null .null (.long (0 : Int64))), (b11, .inr (.long, [(.long x0), (.long x1), (.long x2), (.long x3)])), (b12, .inr (.int, [(.int (0 : Int32)), (.int (0 : Int32)), (.int (0 : Int32)), (.int (0 : Int32))]))]) rfl
          refine g_dup w at_219 rfl 220 rfl ?_
          refine g_iconst w at_220 (1 : Int32) rfl 221 rfl ?_
          refine g_iconst w at_221 (1 : Int32) rfl 222 rfl ?_
          refine g_iastore w at_222 2 rfl 1 (by decide) (Nat.le_of_ble_eq_true rfl) (.int (1 : Int32)) rfl 223 rfl (fun T w => ?_)
          replace w := w.to (L' := [(b10, O_SmallGroups .null .null (.int (0 : Int32)) .null .null (.int (0 : Int32)) (.int (0 : Int32)) .null .null (.int (0 : Int32)) .null .null (.long (0 : Int64))), (b11, .inr (.long, [(.long x0), (.long x1), (.long x2), (.long x3)])), (b12, .inr (.int, [(.int (0 : Int32)), (.int (1 : Int32)), (.int (0 : Int32)), (.int (0 : Int32))]))]) rfl
          refine g_dup w at_223 rfl 224 rfl ?_
          refine g_iconst w at_224 (2 : Int32) rfl 225 rfl ?_
          refine g_iconst w at_225 (2 : Int32) rfl 226 rfl ?_
          refine g_iastore w at_226 2 rfl 2 (by decide) (Nat.le_of_ble_eq_true rfl) (.int (2 : Int32)) rfl 227 rfl (fun T w => ?_)
          replace w := w.to (L' := [(b10, O_SmallGroups .null .null (.int (0 : Int32)) .null .null (.int (0 : Int32)) (.int (0 : Int32)) .null .null (.int (0 : Int32)) .null .null (.long (0 : Int64))), (b11, .inr (.long, [(.long x0), (.long x1), (.long x2), (.long x3)])), (b12, .inr (.int, [(.int (0 : Int32)), (.int (1 : Int32)), (.int (2 : Int32)), (.int (0 : Int32))]))]) rfl
          refine g_dup w at_227 rfl 228 rfl ?_
          refine g_iconst w at_228 (3 : Int32) rfl 229 rfl ?_
          refine g_iconst w at_229 (3 : Int32) rfl 230 rfl ?_
          refine g_iastore w at_230 2 rfl 3 (by decide) (Nat.le_of_ble_eq_true rfl) (.int (3 : Int32)) rfl 231 rfl (fun T w => ?_)
          replace w := w.to (L' := [(b10, O_SmallGroups .null .null (.int (0 : Int32)) .null .null (.int (0 : Int32)) (.int (0 : Int32)) .null .null (.int (0 : Int32)) .null .null (.long (0 : Int64))), (b11, .inr (.long, [(.long x0), (.long x1), (.long x2), (.long x3)])), (b12, .inr (.int, [(.int (0 : Int32)), (.int (1 : Int32)), (.int (2 : Int32)), (.int (3 : Int32))]))]) rfl
          refine g_lloadN w at_231 rfl 232 rfl ?_
          refine g_iload w at_232 rfl 234 rfl ?_
          refine g_ctor w (argsL := [(.ref b11), (.ref b12), (.long sp), (.int mo)]) (rest := [(.ref b10)]) (rm3 l Z a0 hw n0 b10 b11 b12 x0 x1 x2 x3 sp mo M hmo' hM hA) at_234 13 rfl 14 rfl 10 rfl 15 rfl rfl ⟨by decide, by decide⟩ pd_9 rfl rfl rfl 1 rfl (by decide) (by decide) (by decide) (by decide) 237 rfl (fun T v L w h => ?_)
          obtain ⟨rfl, up, f0, f1, f2, f3, f4, f5, f7, f8, f9, f10, f11, f12, hup, hL⟩ := h
          replace w := w.to hL
          obtain rfl : up = (3 : Int32) := by rcases hup with ⟨h, h2, h3⟩ | ⟨h, h2, h3, h4⟩ | ⟨h, h2⟩ <;> first | exact h | (exfalso; omega)
          refine g_astore w at_237 239 rfl rfl #[.val (.int sh), .val (.long sp), .second, .val (.int mq), .val (.int si), .val (.long w0), .second, .val (.long w1), .second, .val (.long w2), .second, .val (.long w3), .second, .val (.long x0), .second, .val (.long x1), .second, .val (.long x2), .second, .val (.long x3), .second, .val (.int mo), .val (.int t3), .val (.int t4), .val (.int (3 : Int32)), .val (.ref b10)] rfl ?_
          refine g_aload w at_239 rfl rfl 241 rfl ?_
          refine g_iload w at_241 rfl 243 rfl ?_
          refine g_virt w (argsL := [(.int si)]) (rest := []) (rm7 l Z a0 hw n0 b10 f0 f1 f2 f3 f4 f5 f7 f8 f9 f10 f11 f12 (3 : Int32) si [(b10, O_SmallGroups f0 f1 f2 f3 f4 f5 (.int (3 : Int32)) f7 f8 f9 f10 f11 f12)] 0 rfl) at_243 0 rfl 59 rfl 60 rfl 10 rfl 63 rfl 62 rfl 61 rfl ⟨by decide, by decide⟩ pd_5 rfl rfl rfl 0 rfl (by decide) (by decide) (by decide) (by decide) 246 rfl (fun T v L w h => ?_)
          obtain ⟨rfl, hL⟩ := h
          replace w := w.to hL
          refine g_iload w at_246 rfl 248 rfl ?_
          refine g_iload w at_248 rfl 250 rfl ?_
          refine g_icmp_gt w at_250 257 (by decide) (by decide) 253 rfl (fun hc250 => ?_) (fun hc250 => ?_)
          · -- pc 257 (taken: (3 : Int32) < si)
            refine g_iconst w at_257 (0 : Int32) rfl 258 rfl ?_
            refine g_icmp_ne w at_258 265 (by decide) (by decide) 261 rfl (fun h => absurd (if_pos hc250) h) (fun hc258 => ?_)
            refine g_iconst w at_261 (1 : Int32) rfl 262 rfl ?_
            refine g_goto w at_262 266 (by decide) (by decide) ?_
            exact g_iretn w (by simp) at_266 (by decide) (by decide) rfl
          · -- pc 253 (on: not (3 : Int32) < si)
            refine g_iconst w at_253 (1 : Int32) rfl 254 rfl ?_
            refine g_goto w at_254 258 (by decide) (by decide) ?_
            refine g_icmp_ne w at_258 265 (by decide) (by decide) 261 rfl (fun h => absurd (if_neg hc250) h) (fun hc258 => ?_)
            refine g_iconst w at_261 (1 : Int32) rfl 262 rfl ?_
            refine g_goto w at_262 266 (by decide) (by decide) ?_
            exact g_iretn w (by simp) at_266 (by decide) (by decide) rfl
        · -- pc 182 (on: not mo < (t3 + t4))
          have q179 := mt (own_ltN hmo' (own_add32 e3 e4 (by omega) (by omega))).mpr hc179
          refine g_iconst w at_182 (4 : Int32) rfl 183 rfl ?_
          refine g_istore w at_183 185 rfl rfl #[.val (.int sh), .val (.long sp), .second, .val (.int mq), .val (.int si), .val (.long w0), .second, .val (.long w1), .second, .val (.long w2), .second, .val (.long w3), .second, .val (.long x0), .second, .val (.long x1), .second, .val (.long x2), .second, .val (.long x3), .second, .val (.int mo), .val (.int t3), .val (.int t4), .val (.int (4 : Int32)), .unset] rfl ?_
          refine g_new w [("com/example/cangdan/cangdan/fewest/SmallGroups", "members", "[I", .null), ("com/example/cangdan/cangdan/fewest/SmallGroups", "kinds", "[B", .null), ("com/example/cangdan/cangdan/fewest/SmallGroups", "itemCount", "I", (.int (0 : Int32))), ("com/example/cangdan/cangdan/fewest/SmallGroups", "byAmount", "[I", .null), ("com/example/cangdan/cangdan/fewest/SmallGroups", "amounts", "[J", .null), ("com/example/cangdan/cangdan/fewest/SmallGroups", "most", "I", (.int (0 : Int32))), ("com/example/cangdan/cangdan/fewest/SmallGroups", "listedUpTo", "I", (.int (0 : Int32))), ("com/example/cangdan/cangdan/fewest/SmallGroups", "start", "[I", .null), ("com/example/cangdan/cangdan/fewest/SmallGroups", "holding", "[I", .null), ("com/example/cangdan/cangdan/fewest/SmallGroups", "count", "I", (.int (0 : Int32))), ("com/example/cangdan/cangdan/fewest/SmallGroups", "groupsOf", "[I", .null), ("com/example/cangdan/cangdan/fewest/SmallGroups", "gone", "[I", .null), ("com/example/cangdan/cangdan/fewest/SmallGroups", "listingSteps", "J", (.long (0 : Int64)))] at_185 8 rfl 9 rfl 10 rfl (FOk.cons (Or.inl (w.hw (k := 20) rfl)) (ty := (.array .int)) (by decide) rfl (FOk.cons (Or.inl (w.hw (k := 23) rfl)) (ty := (.array .byte)) (by decide) rfl (FOk.cons (Or.inr (w.hw (k := 25) rfl)) (ty := .int) (by decide) rfl (FOk.cons (Or.inr (w.hw (k := 27) rfl)) (ty := (.array .int)) (by decide) rfl (FOk.cons (Or.inr (w.hw (k := 29) rfl)) (ty := (.array .long)) (by decide) rfl (FOk.cons (Or.inr (w.hw (k := 31) rfl)) (ty := .int) (by decide) rfl (FOk.cons (Or.inr (w.hw (k := 34) rfl)) (ty := .int) (by decide) rfl (FOk.cons (Or.inr (w.hw (k := 36) rfl)) (ty := (.array .int)) (by decide) rfl (FOk.cons (Or.inr (w.hw (k := 38) rfl)) (ty := (.array .int)) (by decide) rfl (FOk.cons (Or.inl (w.hw (k := 40) rfl)) (ty := .int) (by decide) rfl (FOk.cons (Or.inr (w.hw (k := 42) rfl)) (ty := (.array .int)) (by decide) rfl (FOk.cons (Or.inr (w.hw (k := 56) rfl)) (ty := (.array .int)) (by decide) rfl (FOk.cons (Or.inl (w.hw (k := 58) rfl)) (ty := .long) (by decide) rfl trivial))))))))))))) (by decide) (by decide) (by decide) 188 rfl (fun T b13 w => ?_)
          replace w := w.to (L' := [(b13, O_SmallGroups .null .null (.int (0 : Int32)) .null .null (.int (0 : Int32)) (.int (0 : Int32)) .null .null (.int (0 : Int32)) .null .null (.long (0 : Int64)))]) rfl
          refine g_dup w at_188 rfl 189 rfl ?_
          refine g_iconst w at_189 (4 : Int32) rfl 190 rfl ?_
          refine g_newarr w at_190 11 rfl 4 4 (by decide) (by decide) (by decide) [(.long (0 : Int64)), (.long (0 : Int64)), (.long (0 : Int64)), (.long (0 : Int64))] rfl (by decide) (by decide) 192 rfl (fun T b14 w => ?_)
          replace w := w.to (L' := [(b13, O_SmallGroups .null .null (.int (0 : Int32)) .null .null (.int (0 : Int32)) (.int (0 : Int32)) .null .null (.int (0 : Int32)) .null .null (.long (0 : Int64))), (b14, .inr (.long, [(.long (0 : Int64)), (.long (0 : Int64)), (.long (0 : Int64)), (.long (0 : Int64))]))]) rfl
          refine g_dup w at_192 rfl 193 rfl ?_
          refine g_iconst w at_193 (0 : Int32) rfl 194 rfl ?_
          refine g_lload w at_194 rfl 196 rfl ?_
          refine g_lastore w at_196 1 rfl 0 (by decide) (Nat.le_of_ble_eq_true rfl) (.long x0) rfl 197 rfl (fun T w => ?_)
          replace w := w.to (L' := [(b13, O_SmallGroups .null .null (.int (0 : Int32)) .null .null (.int (0 : Int32)) (.int (0 : Int32)) .null .null (.int (0 : Int32)) .null .null (.long (0 : Int64))), (b14, .inr (.long, [(.long x0), (.long (0 : Int64)), (.long (0 : Int64)), (.long (0 : Int64))]))]) rfl
          refine g_dup w at_197 rfl 198 rfl ?_
          refine g_iconst w at_198 (1 : Int32) rfl 199 rfl ?_
          refine g_lload w at_199 rfl 201 rfl ?_
          refine g_lastore w at_201 1 rfl 1 (by decide) (Nat.le_of_ble_eq_true rfl) (.long x1) rfl 202 rfl (fun T w => ?_)
          replace w := w.to (L' := [(b13, O_SmallGroups .null .null (.int (0 : Int32)) .null .null (.int (0 : Int32)) (.int (0 : Int32)) .null .null (.int (0 : Int32)) .null .null (.long (0 : Int64))), (b14, .inr (.long, [(.long x0), (.long x1), (.long (0 : Int64)), (.long (0 : Int64))]))]) rfl
          refine g_dup w at_202 rfl 203 rfl ?_
          refine g_iconst w at_203 (2 : Int32) rfl 204 rfl ?_
          refine g_lload w at_204 rfl 206 rfl ?_
          refine g_lastore w at_206 1 rfl 2 (by decide) (Nat.le_of_ble_eq_true rfl) (.long x2) rfl 207 rfl (fun T w => ?_)
          replace w := w.to (L' := [(b13, O_SmallGroups .null .null (.int (0 : Int32)) .null .null (.int (0 : Int32)) (.int (0 : Int32)) .null .null (.int (0 : Int32)) .null .null (.long (0 : Int64))), (b14, .inr (.long, [(.long x0), (.long x1), (.long x2), (.long (0 : Int64))]))]) rfl
          refine g_dup w at_207 rfl 208 rfl ?_
          refine g_iconst w at_208 (3 : Int32) rfl 209 rfl ?_
          refine g_lload w at_209 rfl 211 rfl ?_
          refine g_lastore w at_211 1 rfl 3 (by decide) (Nat.le_of_ble_eq_true rfl) (.long x3) rfl 212 rfl (fun T w => ?_)
          replace w := w.to (L' := [(b13, O_SmallGroups .null .null (.int (0 : Int32)) .null .null (.int (0 : Int32)) (.int (0 : Int32)) .null .null (.int (0 : Int32)) .null .null (.long (0 : Int64))), (b14, .inr (.long, [(.long x0), (.long x1), (.long x2), (.long x3)]))]) rfl
          refine g_iconst w at_212 (4 : Int32) rfl 213 rfl ?_
          refine g_newarr w at_213 12 rfl 4 4 (by decide) (by decide) (by decide) [(.int (0 : Int32)), (.int (0 : Int32)), (.int (0 : Int32)), (.int (0 : Int32))] rfl (by decide) (by decide) 215 rfl (fun T b15 w => ?_)
          replace w := w.to (L' := [(b13, O_SmallGroups .null .null (.int (0 : Int32)) .null .null (.int (0 : Int32)) (.int (0 : Int32)) .null .null (.int (0 : Int32)) .null .null (.long (0 : Int64))), (b14, .inr (.long, [(.long x0), (.long x1), (.long x2), (.long x3)])), (b15, .inr (.int, [(.int (0 : Int32)), (.int (0 : Int32)), (.int (0 : Int32)), (.int (0 : Int32))]))]) rfl
          refine g_dup w at_215 rfl 216 rfl ?_
          refine g_iconst w at_216 (0 : Int32) rfl 217 rfl ?_
          refine g_iconst w at_217 (0 : Int32) rfl 218 rfl ?_
          refine g_iastore w at_218 2 rfl 0 (by decide) (Nat.le_of_ble_eq_true rfl) (.int (0 : Int32)) rfl 219 rfl (fun T w => ?_)
          replace w := w.to (L' := [(b13, O_SmallGroups .null .null (.int (0 : Int32)) .null .null (.int (0 : Int32)) (.int (0 : Int32)) .null .null (.int (0 : Int32)) .null .null (.long (0 : Int64))), (b14, .inr (.long, [(.long x0), (.long x1), (.long x2), (.long x3)])), (b15, .inr (.int, [(.int (0 : Int32)), (.int (0 : Int32)), (.int (0 : Int32)), (.int (0 : Int32))]))]) rfl
          refine g_dup w at_219 rfl 220 rfl ?_
          refine g_iconst w at_220 (1 : Int32) rfl 221 rfl ?_
          refine g_iconst w at_221 (1 : Int32) rfl 222 rfl ?_
          refine g_iastore w at_222 2 rfl 1 (by decide) (Nat.le_of_ble_eq_true rfl) (.int (1 : Int32)) rfl 223 rfl (fun T w => ?_)
          replace w := w.to (L' := [(b13, O_SmallGroups .null .null (.int (0 : Int32)) .null .null (.int (0 : Int32)) (.int (0 : Int32)) .null .null (.int (0 : Int32)) .null .null (.long (0 : Int64))), (b14, .inr (.long, [(.long x0), (.long x1), (.long x2), (.long x3)])), (b15, .inr (.int, [(.int (0 : Int32)), (.int (1 : Int32)), (.int (0 : Int32)), (.int (0 : Int32))]))]) rfl
          refine g_dup w at_223 rfl 224 rfl ?_
          refine g_iconst w at_224 (2 : Int32) rfl 225 rfl ?_
          refine g_iconst w at_225 (2 : Int32) rfl 226 rfl ?_
          refine g_iastore w at_226 2 rfl 2 (by decide) (Nat.le_of_ble_eq_true rfl) (.int (2 : Int32)) rfl 227 rfl (fun T w => ?_)
          replace w := w.to (L' := [(b13, O_SmallGroups .null .null (.int (0 : Int32)) .null .null (.int (0 : Int32)) (.int (0 : Int32)) .null .null (.int (0 : Int32)) .null .null (.long (0 : Int64))), (b14, .inr (.long, [(.long x0), (.long x1), (.long x2), (.long x3)])), (b15, .inr (.int, [(.int (0 : Int32)), (.int (1 : Int32)), (.int (2 : Int32)), (.int (0 : Int32))]))]) rfl
          refine g_dup w at_227 rfl 228 rfl ?_
          refine g_iconst w at_228 (3 : Int32) rfl 229 rfl ?_
          refine g_iconst w at_229 (3 : Int32) rfl 230 rfl ?_
          refine g_iastore w at_230 2 rfl 3 (by decide) (Nat.le_of_ble_eq_true rfl) (.int (3 : Int32)) rfl 231 rfl (fun T w => ?_)
          replace w := w.to (L' := [(b13, O_SmallGroups .null .null (.int (0 : Int32)) .null .null (.int (0 : Int32)) (.int (0 : Int32)) .null .null (.int (0 : Int32)) .null .null (.long (0 : Int64))), (b14, .inr (.long, [(.long x0), (.long x1), (.long x2), (.long x3)])), (b15, .inr (.int, [(.int (0 : Int32)), (.int (1 : Int32)), (.int (2 : Int32)), (.int (3 : Int32))]))]) rfl
          refine g_lloadN w at_231 rfl 232 rfl ?_
          refine g_iload w at_232 rfl 234 rfl ?_
          refine g_ctor w (argsL := [(.ref b14), (.ref b15), (.long sp), (.int mo)]) (rest := [(.ref b13)]) (rm3 l Z a0 hw n0 b13 b14 b15 x0 x1 x2 x3 sp mo M hmo' hM hA) at_234 13 rfl 14 rfl 10 rfl 15 rfl rfl ⟨by decide, by decide⟩ pd_9 rfl rfl rfl 1 rfl (by decide) (by decide) (by decide) (by decide) 237 rfl (fun T v L w h => ?_)
          obtain ⟨rfl, up, f0, f1, f2, f3, f4, f5, f7, f8, f9, f10, f11, f12, hup, hL⟩ := h
          replace w := w.to hL
          obtain rfl : up = (4 : Int32) := by rcases hup with ⟨h, h2, h3⟩ | ⟨h, h2, h3, h4⟩ | ⟨h, h2⟩ <;> first | exact h | (exfalso; omega)
          refine g_astore w at_237 239 rfl rfl #[.val (.int sh), .val (.long sp), .second, .val (.int mq), .val (.int si), .val (.long w0), .second, .val (.long w1), .second, .val (.long w2), .second, .val (.long w3), .second, .val (.long x0), .second, .val (.long x1), .second, .val (.long x2), .second, .val (.long x3), .second, .val (.int mo), .val (.int t3), .val (.int t4), .val (.int (4 : Int32)), .val (.ref b13)] rfl ?_
          refine g_aload w at_239 rfl rfl 241 rfl ?_
          refine g_iload w at_241 rfl 243 rfl ?_
          refine g_virt w (argsL := [(.int si)]) (rest := []) (rm7 l Z a0 hw n0 b13 f0 f1 f2 f3 f4 f5 f7 f8 f9 f10 f11 f12 (4 : Int32) si [(b13, O_SmallGroups f0 f1 f2 f3 f4 f5 (.int (4 : Int32)) f7 f8 f9 f10 f11 f12)] 0 rfl) at_243 0 rfl 59 rfl 60 rfl 10 rfl 63 rfl 62 rfl 61 rfl ⟨by decide, by decide⟩ pd_5 rfl rfl rfl 0 rfl (by decide) (by decide) (by decide) (by decide) 246 rfl (fun T v L w h => ?_)
          obtain ⟨rfl, hL⟩ := h
          replace w := w.to hL
          refine g_iload w at_246 rfl 248 rfl ?_
          refine g_iload w at_248 rfl 250 rfl ?_
          refine g_icmp_gt w at_250 257 (by decide) (by decide) 253 rfl (fun hc250 => ?_) (fun hc250 => ?_)
          · -- pc 257 (taken: (4 : Int32) < si)
            refine g_iconst w at_257 (0 : Int32) rfl 258 rfl ?_
            refine g_icmp_ne w at_258 265 (by decide) (by decide) 261 rfl (fun h => absurd (if_pos hc250) h) (fun hc258 => ?_)
            refine g_iconst w at_261 (1 : Int32) rfl 262 rfl ?_
            refine g_goto w at_262 266 (by decide) (by decide) ?_
            exact g_iretn w (by simp) at_266 (by decide) (by decide) rfl
          · -- pc 253 (on: not (4 : Int32) < si)
            refine g_iconst w at_253 (1 : Int32) rfl 254 rfl ?_
            refine g_goto w at_254 258 (by decide) (by decide) ?_
            refine g_icmp_ne w at_258 265 (by decide) (by decide) 261 rfl (fun h => absurd (if_neg hc250) h) (fun hc258 => ?_)
            refine g_iconst w at_261 (1 : Int32) rfl 262 rfl ?_
            refine g_goto w at_262 266 (by decide) (by decide) ?_
            exact g_iretn w (by simp) at_266 (by decide) (by decide) rfl
set_option maxRecDepth 65536 in
set_option maxHeartbeats 40000000 in
theorem comes_1 {Post : Tables → Env → Array Value → State → Outcome → State → Prop} (hpost : ∀ tb e args s v u, (limb_1_1.after args s (.returned v) u = true ∧ limb_1_2.after args s (.returned v) u = true ∧ True) → FrameEnd s (.returned v) u (Jvm.fieldLocs frame_1_writes args s ++ Jvm.arrayLocs frame_1_arrays args s ++ Jvm.staticLocs frame_1_statics s) 56 448 → Post tb e args s (.returned v) u) :
    ArmFor flags0 classFile x code maxLocals ret World_1 tables_1 room_1 Calls_1 rest_1 Pre_1 Post := by
  intro l hfl _ _ p e ha hc hk s m args below hf hA hF happ hP
  obtain ⟨hcalls, hrest, hpre⟩ := hP
  obtain ⟨-, -, -, hnamed, -, -, -, hat⟩ := (Spec.applies_iff hf).mp happ
  obtain ⟨hg, hn⟩ := and_e (Cond.before_iff.mp (show (Jvm.Cond.and given_1 narrow_1).before args s = true from hpre))
  obtain ⟨hcnt, g0⟩ := and_e hg
  obtain ⟨k0, g1⟩ := and_e g0
  obtain ⟨k1, g2⟩ := and_e g1
  obtain ⟨k2, g3⟩ := and_e g2
  have k3 := g3
  obtain ⟨w0, w1, w2, w3, rfl⟩ : ∃ w0 w1 w2 w3 : Value, args = #[w0, w1, w2, w3] := by
    have hs : args.size = 4 := by simpa [Cond.value, given_1] using hcnt
    obtain ⟨L⟩ := args
    match L, hs with
    | [w0, w1, w2, w3], _ => exact ⟨w0, w1, w2, w3, rfl⟩
  have hw := fun d (hd : d ∈ tables_1) => atoms_spec (ws := Jvm.Cond.code x code maxLocals ret :: tables_1) hat d (List.mem_cons_of_mem _ hd)
  obtain ⟨i0, e0⟩ := is_v k0
  obtain rfl : w0 = (.int i0) := Option.some.inj e0
  obtain ⟨i1, e1⟩ := isL_v k1
  obtain rfl : w1 = (.long i1) := Option.some.inj e1
  obtain ⟨i2, e2⟩ := is_v k2
  obtain rfl : w2 = (.int i2) := Option.some.inj e2
  obtain ⟨i3, e3⟩ := is_v k3
  obtain rfl : w3 = (.int i3) := Option.some.inj e3
  obtain ⟨n, o, h1, h2, h3, _, Lc, rfl, ⟨N, LL, hH, rfl⟩, hq⟩ := rm0 l s _ hw s.heap.size i0 i1 i2 i3 tables_1 0 s.heap (Hp.nil (Old.start s) (Nat.zero_le _)) p e ha hc hk s m _ below hf ((Spec.applies_iff_loose hf).mp happ).1 ⟨rfl, State.Warmed39.refl s, rfl⟩ trivial
  exact ⟨n, _, h1, h2, h3, hpost _ _ _ _ _ _ ⟨Cond.after_iff.mpr rfl, Cond.after_iff.mpr (eq_i res_at (Term.int_eval (1)) rfl), trivial⟩ (fr_end N hq _ (by decide) (by decide))⟩
theorem main_1_1 : Claimed_1_1 := comes_1 fun _ _ _ _ _ _ h hF => ⟨h.1, hF⟩
theorem main_1_2 : Claimed_1_2 := comes_1 fun _ _ _ _ _ _ h hF => ⟨h.2.1, hF⟩
end Jvm.Pilot.@@N@@
namespace Jvm.Pilot.@@N@@
open Jvm Jvm.ClassFile Sem Op Lib Jvm.Free Jvm.Stand Jvm.Pilot.@@N@@.Jvm.D
/-! MADE BY PROGRAM (witnessworld.py) out of the Statement's table words and the real class files: 14 classes; the members and pool entries that the words name. The judged class is class 1, her method 3. -/
namespace start1
open Jvm.ClassFile
def u (s : String) : CpInfo := .utf8 (stringToUtf16 s)
/-- a pool by its gaps: so many unusable entries, then the entry; so many at the end -/
def gap : Nat → List CpInfo → List CpInfo
  | 0, r => r
  | n + 1, r => .unusable :: gap n r
def poolList (es : List (Nat × CpInfo)) (last : Nat) : List CpInfo := es.foldr (fun e r => gap e.1 (e.2 :: r)) (gap last [])
def pool (es : List (Nat × CpInfo)) (last : Nat) : Array CpInfo := ⟨poolList es last⟩
def fileOf (pool : Array CpInfo) (this : Nat) (attrs : Array Attribute := #[]) (ms : Array MethodInfo := #[]) (fl : Nat := 33) (sup : Nat := 0) (ifs : Array Nat := #[]) (fds : Array FieldInfo := #[]) : ClassFile where
  minorVersion := 0
  majorVersion := 65
  constantPool := pool
  accessFlags := fl
  thisClass := this
  superClass := sup
  interfaces := ifs
  fields := fds
  methods := ms
  attributes := attrs
def plain (name : String) (sup : Option ClassId) : Class where
  name := name
  kind := .ordinary
  loader := none
  accessFlags := 33
  super := sup
  interfaces := #[]
  cf := none
  fields := #[]
  methods := #[]
  instanceTypes := #[]
  staticTypes := #[]
  resolved := #[]
  callSites := []
  init := .initialized
  statics := none
  mirror := none

def pool0 : Array CpInfo := pool [(5, u "<init>"), (0, u "()V"), (1, .class_ 10), (1, u "java/lang/Object")] 113

def k0c0 : Code := { maxStack := 0, maxLocals := 1, code := object_method_1_code, exceptionTable := #[], attributes := #[] }
def k0m0 : Method := { name := "<init>", desc := "()V", sig := { parameters := [], returnType := none }, accessFlags := 1, code := some k0c0 }
/-- java/lang/Object -/
def k0 : Class := { plain "java/lang/Object" none with
  accessFlags := 33
  interfaces := #[]
  cf := some (fileOf pool0 8 #[] #[{ accessFlags := 1, nameIndex := 5, descriptorIndex := 6, attributes := #[] }] 33 0 #[] #[])
  fields := #[]
  methods := #[k0m0]
  instanceTypes := #[]
  staticTypes := #[]
  resolved := Array.replicate 124 none
  statics := none }

def pool1 : Array CpInfo := pool [(2, .class_ 4), (1, u "java/lang/Object"), (0, u "<init>"), (0, u "()V"), (0, .methodref 8 9), (0, .class_ 10), (0, .nameAndType 11 12), (0, u "com/example/cangdan/cangdan/fewest/SmallGroupsListsPinLaw"), (0, u "nz"), (0, u "(J)J"), (0, .methodref 8 14), (0, .nameAndType 15 16), (0, u "z"), (0, u "(J)I"), (0, .long 8), (1, .long 10), (1, .class_ 22), (0, u "com/example/cangdan/cangdan/fewest/SmallGroups"), (0, .methodref 21 24), (0, .nameAndType 5 25), (0, u "([J[IJI)V"), (0, .methodref 21 27), (0, .nameAndType 28 29), (0, u "lists"), (0, u "(I)Z"), (3, u "law"), (0, u "(IJII)Z")] 2

def k1m0 : Method := { name := "<init>", desc := "()V", sig := { parameters := [], returnType := none }, accessFlags := 1, code := none }
def k1c1 : Code := { maxStack := 4, maxLocals := 2, code := method_2_code, exceptionTable := #[], attributes := #[] }
def k1m1 : Method := { name := "nz", desc := "(J)J", sig := { parameters := [.long], returnType := some .long }, accessFlags := 10, code := some k1c1 }
def k1c2 : Code := { maxStack := 4, maxLocals := 2, code := method_3_code, exceptionTable := #[], attributes := #[] }
def k1m2 : Method := { name := "z", desc := "(J)I", sig := { parameters := [.long], returnType := some .int }, accessFlags := 10, code := some k1c2 }
def k1c3 : Code := { maxStack := 7, maxLocals := 26, code := code, exceptionTable := #[], attributes := #[] }
def k1m3 : Method := { name := "law", desc := "(IJII)Z", sig := { parameters := [.int, .long, .int, .int], returnType := some .boolean }, accessFlags := 9, code := some k1c3 }
/-- com/example/cangdan/cangdan/fewest/SmallGroupsListsPinLaw -/
def k1 : Class := { plain "com/example/cangdan/cangdan/fewest/SmallGroupsListsPinLaw" (some 0) with
  accessFlags := 49
  interfaces := #[]
  cf := some (fileOf pool1 8 #[] #[{ accessFlags := 1, nameIndex := 5, descriptorIndex := 6, attributes := #[] }, { accessFlags := 10, nameIndex := 11, descriptorIndex := 12, attributes := #[] }, { accessFlags := 10, nameIndex := 15, descriptorIndex := 16, attributes := #[] }, { accessFlags := 9, nameIndex := 33, descriptorIndex := 34, attributes := #[] }] 49 2 #[] #[])
  fields := #[]
  methods := #[k1m0, k1m1, k1m2, k1m3]
  instanceTypes := #[]
  staticTypes := #[]
  resolved := Array.replicate 37 none
  statics := none }

def pool2 : Array CpInfo := pool [(1, .methodref 2 3), (0, .class_ 4), (0, .nameAndType 5 6), (0, u "java/lang/Object"), (0, u "<init>"), (0, u "()V"), (0, .fieldref 8 9), (0, .class_ 10), (0, .nameAndType 11 12), (0, u "com/example/cangdan/cangdan/fewest/SmallGroups"), (0, u "members"), (0, u "[I"), (0, .fieldref 8 14), (0, .nameAndType 15 16), (0, u "kinds"), (0, u "[B"), (0, .fieldref 8 18), (0, .nameAndType 19 20), (0, u "itemCount"), (0, u "I"), (0, .fieldref 8 22), (0, .nameAndType 23 12), (0, u "byAmount"), (0, .fieldref 8 25), (0, .nameAndType 26 27), (0, u "amounts"), (0, u "[J"), (0, .fieldref 8 29), (0, .nameAndType 30 20), (0, u "most"), (0, .long 2), (1, .methodref 8 34), (0, .nameAndType 35 36), (0, u "list"), (0, u "(I)Z"), (0, .methodref 8 38), (0, .nameAndType 39 40), (0, u "foursListing"), (0, u "(I)J"), (0, .fieldref 8 42), (0, .nameAndType 43 20), (0, u "listedUpTo"), (0, .fieldref 8 45), (0, .nameAndType 46 12), (0, u "start"), (0, .fieldref 8 48), (0, .nameAndType 49 12), (0, u "holding"), (0, .fieldref 8 51), (0, .nameAndType 52 20), (0, u "count"), (0, .methodref 8 54), (0, .nameAndType 55 56), (0, u "size"), (0, u "(I)I"), (0, .fieldref 8 58), (0, .nameAndType 59 12), (0, u "groupsOf"), (0, .methodref 61 62), (0, .class_ 63), (0, .nameAndType 64 65), (0, u "java/util/Arrays"), (0, u "copyOf"), (0, u "([II)[I"), (0, .fieldref 8 67), (0, .nameAndType 68 12), (0, u "gone"), (0, .fieldref 8 70), (0, .nameAndType 71 72), (0, u "listingSteps"), (0, u "J"), (0, .long 6), (1, .methodref 8 76), (0, .nameAndType 77 78), (0, u "kind"), (0, u "(II)I"), (8, u "add"), (7, .methodref 8 96), (0, .nameAndType 97 98), (0, u "pairs"), (0, u "([IIJ)Z"), (0, .methodref 8 100), (0, .nameAndType 87 101), (0, u "([III)Z"), (3, u "KINDS"), (2, u "([J[IJI)V"), (7, u "lists")] 9

def k2c0 : Code := { maxStack := 7, maxLocals := 12, code := prog_29_method_1_code, exceptionTable := #[], attributes := #[] }
def k2m0 : Method := { name := "<init>", desc := "([J[IJI)V", sig := { parameters := [(.array .long), (.array .int), .long, .int], returnType := none }, accessFlags := 0, code := some k2c0 }
def k2c1 : Code := { maxStack := 4, maxLocals := 1, code := prog_29_method_2_code, exceptionTable := #[], attributes := #[] }
def k2m1 : Method := { name := "foursListing", desc := "(I)J", sig := { parameters := [.int], returnType := some .long }, accessFlags := 8, code := some k2c1 }
def k2c2 : Code := { maxStack := 3, maxLocals := 2, code := prog_29_method_6_code, exceptionTable := #[], attributes := #[] }
def k2m2 : Method := { name := "kind", desc := "(II)I", sig := { parameters := [.int, .int], returnType := some .int }, accessFlags := 10, code := some k2c2 }
def k2c3 : Code := { maxStack := 2, maxLocals := 2, code := prog_29_method_7_code, exceptionTable := #[], attributes := #[] }
def k2m3 : Method := { name := "lists", desc := "(I)Z", sig := { parameters := [.int], returnType := some .boolean }, accessFlags := 0, code := some k2c3 }
def k2c4 : Code := { maxStack := 3, maxLocals := 2, code := prog_29_method_13_code, exceptionTable := #[], attributes := #[] }
def k2m4 : Method := { name := "size", desc := "(I)I", sig := { parameters := [.int], returnType := some .int }, accessFlags := 2, code := some k2c4 }
def k2c5 : Code := { maxStack := 7, maxLocals := 6, code := prog_29_method_14_code, exceptionTable := #[], attributes := #[] }
def k2m5 : Method := { name := "list", desc := "(I)Z", sig := { parameters := [.int], returnType := some .boolean }, accessFlags := 2, code := some k2c5 }
def k2c6 : Code := { maxStack := 5, maxLocals := 14, code := prog_29_method_15_code, exceptionTable := #[], attributes := #[] }
def k2m6 : Method := { name := "pairs", desc := "([IIJ)Z", sig := { parameters := [(.array .int), .int, .long], returnType := some .boolean }, accessFlags := 2, code := some k2c6 }
def k2c7 : Code := { maxStack := 6, maxLocals := 10, code := prog_29_method_16_code, exceptionTable := #[], attributes := #[] }
def k2m7 : Method := { name := "add", desc := "([III)Z", sig := { parameters := [(.array .int), .int, .int], returnType := some .boolean }, accessFlags := 2, code := some k2c7 }
/-- com/example/cangdan/cangdan/fewest/SmallGroups -/
def k2 : Class := { plain "com/example/cangdan/cangdan/fewest/SmallGroups" (some 0) with
  accessFlags := 32
  interfaces := #[]
  cf := some (fileOf pool2 8 #[] #[{ accessFlags := 0, nameIndex := 5, descriptorIndex := 108, attributes := #[] }, { accessFlags := 8, nameIndex := 39, descriptorIndex := 40, attributes := #[] }, { accessFlags := 10, nameIndex := 77, descriptorIndex := 78, attributes := #[] }, { accessFlags := 0, nameIndex := 116, descriptorIndex := 36, attributes := #[] }, { accessFlags := 2, nameIndex := 55, descriptorIndex := 56, attributes := #[] }, { accessFlags := 2, nameIndex := 35, descriptorIndex := 36, attributes := #[] }, { accessFlags := 2, nameIndex := 97, descriptorIndex := 98, attributes := #[] }, { accessFlags := 2, nameIndex := 87, descriptorIndex := 101, attributes := #[] }] 32 2 #[] #[{ accessFlags := 26, nameIndex := 105, descriptorIndex := 20, attributes := #[] }, { accessFlags := 18, nameIndex := 19, descriptorIndex := 20, attributes := #[] }, { accessFlags := 18, nameIndex := 26, descriptorIndex := 27, attributes := #[] }, { accessFlags := 18, nameIndex := 23, descriptorIndex := 12, attributes := #[] }, { accessFlags := 18, nameIndex := 30, descriptorIndex := 20, attributes := #[] }, { accessFlags := 18, nameIndex := 43, descriptorIndex := 20, attributes := #[] }, { accessFlags := 2, nameIndex := 11, descriptorIndex := 12, attributes := #[] }, { accessFlags := 2, nameIndex := 15, descriptorIndex := 16, attributes := #[] }, { accessFlags := 2, nameIndex := 52, descriptorIndex := 20, attributes := #[] }, { accessFlags := 2, nameIndex := 71, descriptorIndex := 72, attributes := #[] }, { accessFlags := 18, nameIndex := 46, descriptorIndex := 12, attributes := #[] }, { accessFlags := 18, nameIndex := 59, descriptorIndex := 12, attributes := #[] }, { accessFlags := 18, nameIndex := 68, descriptorIndex := 12, attributes := #[] }, { accessFlags := 18, nameIndex := 49, descriptorIndex := 12, attributes := #[] }])
  fields := #[{ name := "KINDS", type := .int, accessFlags := 26, slot := 0, constantValue := 0 }, { name := "itemCount", type := .int, accessFlags := 18, slot := 0, constantValue := 0 }, { name := "amounts", type := (.array .long), accessFlags := 18, slot := 1, constantValue := 0 }, { name := "byAmount", type := (.array .int), accessFlags := 18, slot := 2, constantValue := 0 }, { name := "most", type := .int, accessFlags := 18, slot := 3, constantValue := 0 }, { name := "listedUpTo", type := .int, accessFlags := 18, slot := 4, constantValue := 0 }, { name := "members", type := (.array .int), accessFlags := 2, slot := 5, constantValue := 0 }, { name := "kinds", type := (.array .byte), accessFlags := 2, slot := 6, constantValue := 0 }, { name := "count", type := .int, accessFlags := 2, slot := 7, constantValue := 0 }, { name := "listingSteps", type := .long, accessFlags := 2, slot := 8, constantValue := 0 }, { name := "start", type := (.array .int), accessFlags := 18, slot := 9, constantValue := 0 }, { name := "groupsOf", type := (.array .int), accessFlags := 18, slot := 10, constantValue := 0 }, { name := "gone", type := (.array .int), accessFlags := 18, slot := 11, constantValue := 0 }, { name := "holding", type := (.array .int), accessFlags := 18, slot := 12, constantValue := 0 }]
  methods := #[k2m0, k2m1, k2m2, k2m3, k2m4, k2m5, k2m6, k2m7]
  instanceTypes := #[.int, (.array .long), (.array .int), .int, .int, (.array .int), (.array .byte), .int, .long, (.array .int), (.array .int), (.array .int), (.array .int)]
  staticTypes := #[.int]
  resolved := Array.replicate 126 none
  statics := none }

def pool3 : Array CpInfo := pool [(2, .class_ 4), (1, u "java/lang/Object"), (0, u "<init>"), (0, u "()V"), (7, .class_ 16), (1, u "java/util/Arrays"), (57, .class_ 76), (1, u "java/util/Arrays$NaturalOrder"), (36, .class_ 115), (1, u "java/util/Arrays$LegacyMergeSort"), (1, u "Z"), (32, .methodref 151 152), (0, .class_ 153), (0, .nameAndType 154 155), (0, u "java/lang/System"), (0, u "arraycopy"), (0, u "(Ljava/lang/Object;ILjava/lang/Object;II)V"), (146, u "copyOf"), (1, .methodref 305 306), (0, .class_ 307), (0, .nameAndType 308 309), (0, u "java/lang/Math"), (0, u "min"), (0, u "(II)I"), (65, .class_ 376), (0, u "java/util/Arrays$ArrayList"), (68, u "$assertionsDisabled"), (269, u "MIN_ARRAY_SORT_GRAN"), (0, u "I"), (2, u "INSERTIONSORT_THRESHOLD"), (151, u "([II)[I"), (103, .class_ 976), (0, u "java/util/Arrays$ArrayItr")] 52

def k3m0 : Method := { name := "<init>", desc := "()V", sig := { parameters := [], returnType := none }, accessFlags := 2, code := none }
def k3c1 : Code := { maxStack := 6, maxLocals := 3, code := jdk_65_method_123_code, exceptionTable := #[], attributes := #[] }
def k3m1 : Method := { name := "copyOf", desc := "([II)[I", sig := { parameters := [(.array .int), .int], returnType := some (.array .int) }, accessFlags := 9, code := some k3c1 }
/-- java/util/Arrays -/
def k3 : Class := { plain "java/util/Arrays" (some 0) with
  accessFlags := 49
  interfaces := #[]
  cf := some (fileOf pool3 14 #[.nestMembers #[975, 375, 113, 74]] #[{ accessFlags := 2, nameIndex := 5, descriptorIndex := 6, attributes := #[] }, { accessFlags := 9, nameIndex := 302, descriptorIndex := 871, attributes := #[] }] 49 2 #[] #[{ accessFlags := 26, nameIndex := 715, descriptorIndex := 716, attributes := #[] }, { accessFlags := 26, nameIndex := 719, descriptorIndex := 716, attributes := #[] }, { accessFlags := 4120, nameIndex := 445, descriptorIndex := 117, attributes := #[] }])
  fields := #[{ name := "MIN_ARRAY_SORT_GRAN", type := .int, accessFlags := 26, slot := 0, constantValue := 0 }, { name := "INSERTIONSORT_THRESHOLD", type := .int, accessFlags := 26, slot := 1, constantValue := 0 }, { name := "$assertionsDisabled", type := .boolean, accessFlags := 4120, slot := 2, constantValue := 0 }]
  methods := #[k3m0, k3m1]
  instanceTypes := #[]
  staticTypes := #[.int, .int, .boolean]
  resolved := Array.replicate 1029 none
  statics := none }

def pool4 : Array CpInfo := pool [(1, .class_ 2), (0, u "java/lang/Math"), (1, .class_ 6), (1, u "java/lang/Object"), (0, u "<init>"), (0, u "()V"), (89, .class_ 100), (1, u "java/lang/Math$RandomNumberGeneratorHolder"), (71, u "negativeZeroFloatBits"), (0, u "J"), (2, u "negativeZeroDoubleBits"), (24, u "min"), (43, u "$assertionsDisabled"), (0, u "Z"), (88, u "(II)I"), (2, u "twoToTheDoubleScaleDown"), (0, u "D"), (4, u "twoToTheDoubleScaleUp"), (9, u "E"), (3, u "PI"), (2, u "TAU"), (2, u "DEGREES_TO_RADIANS"), (0, u "RADIANS_TO_DEGREES")] 94

def k4m0 : Method := { name := "<init>", desc := "()V", sig := { parameters := [], returnType := none }, accessFlags := 2, code := none }
def k4c1 : Code := { maxStack := 2, maxLocals := 2, code := jdk_29_method_69_code, exceptionTable := #[], attributes := #[] }
def k4m1 : Method := { name := "min", desc := "(II)I", sig := { parameters := [.int, .int], returnType := some .int }, accessFlags := 9, code := some k4c1 }
/-- java/lang/Math -/
def k4 : Class := { plain "java/lang/Math" (some 0) with
  accessFlags := 49
  interfaces := #[]
  cf := some (fileOf pool4 1 #[.nestMembers #[98]] #[{ accessFlags := 2, nameIndex := 7, descriptorIndex := 8, attributes := #[] }, { accessFlags := 9, nameIndex := 201, descriptorIndex := 335, attributes := #[] }] 49 4 #[] #[{ accessFlags := 25, nameIndex := 354, descriptorIndex := 339, attributes := #[] }, { accessFlags := 25, nameIndex := 358, descriptorIndex := 339, attributes := #[] }, { accessFlags := 25, nameIndex := 361, descriptorIndex := 339, attributes := #[] }, { accessFlags := 26, nameIndex := 364, descriptorIndex := 339, attributes := #[] }, { accessFlags := 26, nameIndex := 365, descriptorIndex := 339, attributes := #[] }, { accessFlags := 26, nameIndex := 172, descriptorIndex := 173, attributes := #[] }, { accessFlags := 26, nameIndex := 176, descriptorIndex := 173, attributes := #[] }, { accessFlags := 8, nameIndex := 344, descriptorIndex := 339, attributes := #[] }, { accessFlags := 8, nameIndex := 338, descriptorIndex := 339, attributes := #[] }, { accessFlags := 4120, nameIndex := 245, descriptorIndex := 246, attributes := #[] }])
  fields := #[{ name := "E", type := .double, accessFlags := 25, slot := 0, constantValue := 0 }, { name := "PI", type := .double, accessFlags := 25, slot := 1, constantValue := 0 }, { name := "TAU", type := .double, accessFlags := 25, slot := 2, constantValue := 0 }, { name := "DEGREES_TO_RADIANS", type := .double, accessFlags := 26, slot := 3, constantValue := 0 }, { name := "RADIANS_TO_DEGREES", type := .double, accessFlags := 26, slot := 4, constantValue := 0 }, { name := "negativeZeroFloatBits", type := .long, accessFlags := 26, slot := 5, constantValue := 0 }, { name := "negativeZeroDoubleBits", type := .long, accessFlags := 26, slot := 6, constantValue := 0 }, { name := "twoToTheDoubleScaleUp", type := .double, accessFlags := 8, slot := 7, constantValue := 0 }, { name := "twoToTheDoubleScaleDown", type := .double, accessFlags := 8, slot := 8, constantValue := 0 }, { name := "$assertionsDisabled", type := .boolean, accessFlags := 4120, slot := 9, constantValue := 0 }]
  methods := #[k4m0, k4m1]
  instanceTypes := #[]
  staticTypes := #[.double, .double, .double, .double, .double, .long, .long, .double, .double, .boolean]
  resolved := Array.replicate 460 none
  statics := none }

def pool5 : Array CpInfo := pool [(2, .class_ 4), (1, u "java/lang/Object"), (0, u "<init>"), (0, u "()V"), (1, .class_ 10), (1, u "java/lang/System"), (0, u "allowSecurityManager"), (0, u "I"), (16, u "cons"), (0, u "Ljava/io/Console;"), (77, .class_ 110), (1, u "java/lang/System$CallersHolder"), (43, u "initialErrStream"), (0, u "Ljava/io/PrintStream;"), (19, u "security"), (0, u "Ljava/lang/SecurityManager;"), (31, .class_ 209), (0, u "java/lang/System$1"), (7, u "props"), (0, u "Ljava/util/Properties;"), (2, u "lineSeparator"), (0, u "Ljava/lang/String;"), (96, .class_ 321), (1, u "java/lang/System$LoggerFinder"), (5, .class_ 328), (0, u "java/lang/System$Logger"), (67, u "err"), (2, u "out"), (91, u "notSupportedJnuEncoding"), (15, u "in"), (17, u "initialIn"), (0, u "Ljava/io/InputStream;"), (35, u "bootLayer"), (0, u "Ljava/lang/ModuleLayer;"), (99, .class_ 664), (0, u "java/lang/System$2"), (9, u "NEVER"), (2, u "MAYBE"), (49, u "arraycopy"), (0, u "(Ljava/lang/Object;ILjava/lang/Object;II)V"), (72, .class_ 802), (0, u "java/lang/System$Logger$Level")] 31

def k5m0 : Method := { name := "<init>", desc := "()V", sig := { parameters := [], returnType := none }, accessFlags := 2, code := none }
def k5m1 : Method := { name := "arraycopy", desc := "(Ljava/lang/Object;ILjava/lang/Object;II)V", sig := { parameters := [(.object "java/lang/Object"), .int, (.object "java/lang/Object"), .int, .int], returnType := none }, accessFlags := 265, code := none }
/-- java/lang/System -/
def k5 : Class := { plain "java/lang/System" (some 0) with
  accessFlags := 49
  interfaces := #[]
  cf := some (fileOf pool5 8 #[.nestMembers #[319, 327, 801, 108, 663, 208]] #[{ accessFlags := 2, nameIndex := 5, descriptorIndex := 6, attributes := #[] }, { accessFlags := 265, nameIndex := 727, descriptorIndex := 728, attributes := #[] }] 49 2 #[] #[{ accessFlags := 25, nameIndex := 507, descriptorIndex := 526, attributes := #[] }, { accessFlags := 25, nameIndex := 399, descriptorIndex := 155, attributes := #[] }, { accessFlags := 25, nameIndex := 396, descriptorIndex := 155, attributes := #[] }, { accessFlags := 10, nameIndex := 525, descriptorIndex := 526, attributes := #[] }, { accessFlags := 26, nameIndex := 674, descriptorIndex := 12, attributes := #[] }, { accessFlags := 26, nameIndex := 677, descriptorIndex := 12, attributes := #[] }, { accessFlags := 10, nameIndex := 11, descriptorIndex := 12, attributes := #[] }, { accessFlags := 74, nameIndex := 175, descriptorIndex := 176, attributes := #[] }, { accessFlags := 10, nameIndex := 491, descriptorIndex := 222, attributes := #[] }, { accessFlags := 74, nameIndex := 29, descriptorIndex := 30, attributes := #[] }, { accessFlags := 74, nameIndex := 154, descriptorIndex := 155, attributes := #[] }, { accessFlags := 10, nameIndex := 217, descriptorIndex := 218, attributes := #[] }, { accessFlags := 10, nameIndex := 221, descriptorIndex := 222, attributes := #[] }, { accessFlags := 8, nameIndex := 562, descriptorIndex := 563, attributes := #[] }])
  fields := #[{ name := "in", type := (.object "java/io/InputStream"), accessFlags := 25, slot := 0, constantValue := 0 }, { name := "out", type := (.object "java/io/PrintStream"), accessFlags := 25, slot := 1, constantValue := 0 }, { name := "err", type := (.object "java/io/PrintStream"), accessFlags := 25, slot := 2, constantValue := 0 }, { name := "initialIn", type := (.object "java/io/InputStream"), accessFlags := 10, slot := 3, constantValue := 0 }, { name := "NEVER", type := .int, accessFlags := 26, slot := 4, constantValue := 0 }, { name := "MAYBE", type := .int, accessFlags := 26, slot := 5, constantValue := 0 }, { name := "allowSecurityManager", type := .int, accessFlags := 10, slot := 6, constantValue := 0 }, { name := "security", type := (.object "java/lang/SecurityManager"), accessFlags := 74, slot := 7, constantValue := 0 }, { name := "notSupportedJnuEncoding", type := (.object "java/lang/String"), accessFlags := 10, slot := 8, constantValue := 0 }, { name := "cons", type := (.object "java/io/Console"), accessFlags := 74, slot := 9, constantValue := 0 }, { name := "initialErrStream", type := (.object "java/io/PrintStream"), accessFlags := 74, slot := 10, constantValue := 0 }, { name := "props", type := (.object "java/util/Properties"), accessFlags := 10, slot := 11, constantValue := 0 }, { name := "lineSeparator", type := (.object "java/lang/String"), accessFlags := 10, slot := 12, constantValue := 0 }, { name := "bootLayer", type := (.object "java/lang/ModuleLayer"), accessFlags := 8, slot := 13, constantValue := 0 }]
  methods := #[k5m0, k5m1]
  instanceTypes := #[]
  staticTypes := #[(.object "java/io/InputStream"), (.object "java/io/PrintStream"), (.object "java/io/PrintStream"), (.object "java/io/InputStream"), .int, .int, .int, (.object "java/lang/SecurityManager"), (.object "java/lang/String"), (.object "java/io/Console"), (.object "java/io/PrintStream"), (.object "java/util/Properties"), (.object "java/lang/String"), (.object "java/lang/ModuleLayer")]
  resolved := Array.replicate 834 none
  statics := none }

def pool6 : Array CpInfo := pool [(1, u "java/lang/Cloneable"), (0, .class_ 1), (0, u "java/lang/Object"), (0, .class_ 3)] 3

/-- java/lang/Cloneable -/
def k6 : Class := { plain "java/lang/Cloneable" (some 0) with
  accessFlags := 1537
  interfaces := #[]
  cf := some (fileOf pool6 2 #[] #[] 1537 4 #[] #[])
  fields := #[]
  methods := #[]
  instanceTypes := #[]
  staticTypes := #[]
  resolved := Array.replicate 8 none
  statics := none }

def pool7 : Array CpInfo := pool [(1, u "java/io/Serializable"), (0, .class_ 1), (0, u "java/lang/Object"), (0, .class_ 3)] 3

/-- java/io/Serializable -/
def k7 : Class := { plain "java/io/Serializable" (some 0) with
  accessFlags := 1537
  interfaces := #[]
  cf := some (fileOf pool7 2 #[] #[] 1537 4 #[] #[])
  fields := #[]
  methods := #[]
  instanceTypes := #[]
  staticTypes := #[]
  resolved := Array.replicate 8 none
  statics := none }

/-- the primitive byte -/
def k8 : Class := { plain "byte" none with kind := .primitive 'B', accessFlags := 0x411 }
/-- [B -/
def k9 : Class := { plain "[B" (some 0) with kind := .array 8 .byte, interfaces := #[6, 7], accessFlags := 1041 }

/-- the primitive int -/
def k10 : Class := { plain "int" none with kind := .primitive 'I', accessFlags := 0x411 }
/-- [I -/
def k11 : Class := { plain "[I" (some 0) with kind := .array 10 .int, interfaces := #[6, 7], accessFlags := 1041 }

/-- the primitive long -/
def k12 : Class := { plain "long" none with kind := .primitive 'J', accessFlags := 0x411 }
/-- [J -/
def k13 : Class := { plain "[J" (some 0) with kind := .array 12 .long, interfaces := #[6, 7], accessFlags := 1041 }

def heap : Heap := #[]
def classes : Array Class := #[k0, k1, k2, k3, k4, k5, k6, k7, k8, k9, k10, k11, k12, k13]
def interned : List (Array UInt16 × Addr) := []
def slotsUsed : Nat := 0
def theMethod : MethodId := ⟨1, 3⟩
def args0 : Array Value := #[.int 1, .long 20, .int 7, .int 3]
def aboutOver (below : List Frame) : State where
  vm := { classes := classes, interned := interned.toArray }
  heap := heap
  slotsUsed := slotsUsed
  threads := #[{ frames := .invoking theMethod args0 :: below }]
def below0 : List Frame := [.native { method := ⟨0, 0⟩, args := #[] }]
def about1 : State := aboutOver below0
def p0 : Program := .bare "" "" ""
def e0 : Env := launch0.env 0 0 0
theorem w_frames : about1.frames = Frame.invoking theMethod args0 :: below0 := rfl
set_option maxRecDepth 65536 in
theorem w_args : argsFit about1.vm theMethod args0 = true := by decide +kernel
set_option maxRecDepth 65536 in
theorem w_heap : heapFits about1 = true := by decide +kernel
set_option maxRecDepth 65536 in
theorem w_runnable : about1.curStatus? = some .runnable := by decide +kernel
set_option maxRecDepth 65536 in
theorem w_alone : about1.alone = true := by decide +kernel
set_option maxRecDepth 65536 in
theorem w_named : about1.methodNamed? x = some theMethod := by decide +kernel
set_option maxRecDepth 65536 in
theorem w_hears : about1.hears theMethod below0 = true := by decide +kernel
set_option maxRecDepth 65536 in
theorem w_ripe : about1.ripe theMethod args0 below0 = true := by decide +kernel
theorem w_running : about1.status = .running := rfl
set_option maxRecDepth 65536 in
theorem w_room : about1.hasRoom e0.platform room_1 = true :=
  launch0.hasRoom_least _ room_1 (by decide +kernel) (by decide +kernel) (by decide +kernel) (by decide +kernel) (by decide +kernel) (by decide +kernel)
theorem allAtoms_all (ts : List Jvm.Cond) (a : Array Jvm.Value) (st : Jvm.State) : (allAtoms ts).before a st = ts.all (fun c => c.before a st) := by
  induction ts with
  | nil => rfl
  | cons c t ih =>
    show (Jvm.Cond.and c (allAtoms t)).before a st = _
    rw [Jvm.Cond.before_and, ih, List.all_cons]
def words1 : List Jvm.Cond := Jvm.Cond.code x code maxLocals ret :: tables_1
/-- a 'code' word, met by the world's own term for the bytes: nothing is compared byte by byte -/
theorem code_word {y : MethodName} {bytes : ByteArray} {mx : Nat} {rt : Option FieldType} {a : Array Value} {s : State} {m : MethodId} {meth : Method} {c : Code} (h1 : s.methodNamed? y = some m) (h2 : s.vm.method? m = some meth) (h3 : meth.code = some c) (h4 : c.code = bytes)
    (h5 : (c.maxLocals == mx && c.exceptionTable.isEmpty && decide (c.maxStack ≤ mostOperands) && decide (meth.sig.returnType = rt) && !meth.locks && decide (parseMethodDescriptor y.desc = some meth.sig)) = true) : (Jvm.Cond.code y bytes mx rt).before a s = true := by
  simp only [Bool.and_eq_true, beq_iff_eq, Bool.not_eq_true', decide_eq_true_eq] at h5
  obtain ⟨⟨⟨⟨⟨g1, g2⟩, g3⟩, g4⟩, g5⟩, g6⟩ := h5
  simp [Cond.before, Cond.holds, Cond.value, h1, h2, h3, h4, g1, g2, g3, g4, g5, g6]
def isCode : Jvm.Cond → Bool
  | .code _ _ _ _ => true
  | _ => false
theorem all_split {L : List Jvm.Cond} {P : Jvm.Cond → Bool} (h1 : L.all (fun c => isCode c || P c) = true) (h2 : ∀ c ∈ L.filter isCode, P c = true) : L.all P = true := by
  refine List.all_eq_true.mpr fun c hc => ?_
  have h := List.all_eq_true.mp h1 c hc
  rcases Bool.eq_false_or_eq_true (isCode c) with hi | hi
  · exact h2 c (List.mem_filter.mpr ⟨hc, hi⟩)
  · simpa [hi] using h
set_option maxRecDepth 65536 in
theorem w_c0 : (Jvm.Cond.code x code maxLocals ret).before args0 about1 = true := code_word (m := ⟨1, 3⟩) (meth := k1m3) (c := k1c3) (by decide +kernel) rfl rfl rfl (by decide +kernel)
set_option maxRecDepth 65536 in
theorem w_c1 : (Jvm.Cond.code ({ cls := "com/example/cangdan/cangdan/fewest/SmallGroupsListsPinLaw", name := "nz", desc := "(J)J" } : Jvm.MethodName) method_2_code (2 : Nat) (Option.some Jvm.ClassFile.FieldType.long)).before args0 about1 = true := code_word (m := ⟨1, 1⟩) (meth := k1m1) (c := k1c1) (by decide +kernel) rfl rfl rfl (by decide +kernel)
set_option maxRecDepth 65536 in
theorem w_c2 : (Jvm.Cond.code ({ cls := "com/example/cangdan/cangdan/fewest/SmallGroupsListsPinLaw", name := "z", desc := "(J)I" } : Jvm.MethodName) method_3_code (2 : Nat) (Option.some Jvm.ClassFile.FieldType.int)).before args0 about1 = true := code_word (m := ⟨1, 2⟩) (meth := k1m2) (c := k1c2) (by decide +kernel) rfl rfl rfl (by decide +kernel)
set_option maxRecDepth 65536 in
theorem w_c3 : (Jvm.Cond.code ({ cls := "com/example/cangdan/cangdan/fewest/SmallGroups", name := "<init>", desc := "([J[IJI)V" } : Jvm.MethodName) prog_29_method_1_code (12 : Nat) (Option.none : Option Jvm.ClassFile.FieldType)).before args0 about1 = true := code_word (m := ⟨2, 0⟩) (meth := k2m0) (c := k2c0) (by decide +kernel) rfl rfl rfl (by decide +kernel)
set_option maxRecDepth 65536 in
theorem w_c4 : (Jvm.Cond.code ({ cls := "java/lang/Object", name := "<init>", desc := "()V" } : Jvm.MethodName) object_method_1_code (1 : Nat) (Option.none : Option Jvm.ClassFile.FieldType)).before args0 about1 = true := code_word (m := ⟨0, 0⟩) (meth := k0m0) (c := k0c0) (by decide +kernel) rfl rfl rfl (by decide +kernel)
set_option maxRecDepth 65536 in
theorem w_c5 : (Jvm.Cond.code ({ cls := "java/util/Arrays", name := "copyOf", desc := "([II)[I" } : Jvm.MethodName) jdk_65_method_123_code (3 : Nat) (Option.some (Jvm.ClassFile.FieldType.array Jvm.ClassFile.FieldType.int))).before args0 about1 = true := code_word (m := ⟨3, 1⟩) (meth := k3m1) (c := k3c1) (by decide +kernel) rfl rfl rfl (by decide +kernel)
set_option maxRecDepth 65536 in
theorem w_c6 : (Jvm.Cond.code ({ cls := "java/lang/Math", name := "min", desc := "(II)I" } : Jvm.MethodName) jdk_29_method_69_code (2 : Nat) (Option.some Jvm.ClassFile.FieldType.int)).before args0 about1 = true := code_word (m := ⟨4, 1⟩) (meth := k4m1) (c := k4c1) (by decide +kernel) rfl rfl rfl (by decide +kernel)
set_option maxRecDepth 65536 in
theorem w_c7 : (Jvm.Cond.code ({ cls := "com/example/cangdan/cangdan/fewest/SmallGroups", name := "lists", desc := "(I)Z" } : Jvm.MethodName) prog_29_method_7_code (2 : Nat) (Option.some Jvm.ClassFile.FieldType.boolean)).before args0 about1 = true := code_word (m := ⟨2, 3⟩) (meth := k2m3) (c := k2c3) (by decide +kernel) rfl rfl rfl (by decide +kernel)
set_option maxRecDepth 65536 in
theorem w_c8 : (Jvm.Cond.code ({ cls := "com/example/cangdan/cangdan/fewest/SmallGroups", name := "list", desc := "(I)Z" } : Jvm.MethodName) prog_29_method_14_code (6 : Nat) (Option.some Jvm.ClassFile.FieldType.boolean)).before args0 about1 = true := code_word (m := ⟨2, 5⟩) (meth := k2m5) (c := k2c5) (by decide +kernel) rfl rfl rfl (by decide +kernel)
set_option maxRecDepth 65536 in
theorem w_c9 : (Jvm.Cond.code ({ cls := "com/example/cangdan/cangdan/fewest/SmallGroups", name := "pairs", desc := "([IIJ)Z" } : Jvm.MethodName) prog_29_method_15_code (14 : Nat) (Option.some Jvm.ClassFile.FieldType.boolean)).before args0 about1 = true := code_word (m := ⟨2, 6⟩) (meth := k2m6) (c := k2c6) (by decide +kernel) rfl rfl rfl (by decide +kernel)
set_option maxRecDepth 65536 in
theorem w_c10 : (Jvm.Cond.code ({ cls := "com/example/cangdan/cangdan/fewest/SmallGroups", name := "foursListing", desc := "(I)J" } : Jvm.MethodName) prog_29_method_2_code (1 : Nat) (Option.some Jvm.ClassFile.FieldType.long)).before args0 about1 = true := code_word (m := ⟨2, 1⟩) (meth := k2m1) (c := k2c1) (by decide +kernel) rfl rfl rfl (by decide +kernel)
set_option maxRecDepth 65536 in
theorem w_c11 : (Jvm.Cond.code ({ cls := "com/example/cangdan/cangdan/fewest/SmallGroups", name := "add", desc := "([III)Z" } : Jvm.MethodName) prog_29_method_16_code (10 : Nat) (Option.some Jvm.ClassFile.FieldType.boolean)).before args0 about1 = true := code_word (m := ⟨2, 7⟩) (meth := k2m7) (c := k2c7) (by decide +kernel) rfl rfl rfl (by decide +kernel)
set_option maxRecDepth 65536 in
theorem w_c12 : (Jvm.Cond.code ({ cls := "com/example/cangdan/cangdan/fewest/SmallGroups", name := "kind", desc := "(II)I" } : Jvm.MethodName) prog_29_method_6_code (2 : Nat) (Option.some Jvm.ClassFile.FieldType.int)).before args0 about1 = true := code_word (m := ⟨2, 2⟩) (meth := k2m2) (c := k2c2) (by decide +kernel) rfl rfl rfl (by decide +kernel)
set_option maxRecDepth 65536 in
theorem w_c13 : (Jvm.Cond.code ({ cls := "com/example/cangdan/cangdan/fewest/SmallGroups", name := "size", desc := "(I)I" } : Jvm.MethodName) prog_29_method_13_code (2 : Nat) (Option.some Jvm.ClassFile.FieldType.int)).before args0 about1 = true := code_word (m := ⟨2, 4⟩) (meth := k2m4) (c := k2c4) (by decide +kernel) rfl rfl rfl (by decide +kernel)
def codes1 : List Jvm.Cond := [Jvm.Cond.code x code maxLocals ret, Jvm.Cond.code ({ cls := "com/example/cangdan/cangdan/fewest/SmallGroupsListsPinLaw", name := "nz", desc := "(J)J" } : Jvm.MethodName) method_2_code (2 : Nat) (Option.some Jvm.ClassFile.FieldType.long), Jvm.Cond.code ({ cls := "com/example/cangdan/cangdan/fewest/SmallGroupsListsPinLaw", name := "z", desc := "(J)I" } : Jvm.MethodName) method_3_code (2 : Nat) (Option.some Jvm.ClassFile.FieldType.int), Jvm.Cond.code ({ cls := "com/example/cangdan/cangdan/fewest/SmallGroups", name := "<init>", desc := "([J[IJI)V" } : Jvm.MethodName) prog_29_method_1_code (12 : Nat) (Option.none : Option Jvm.ClassFile.FieldType), Jvm.Cond.code ({ cls := "java/lang/Object", name := "<init>", desc := "()V" } : Jvm.MethodName) object_method_1_code (1 : Nat) (Option.none : Option Jvm.ClassFile.FieldType), Jvm.Cond.code ({ cls := "java/util/Arrays", name := "copyOf", desc := "([II)[I" } : Jvm.MethodName) jdk_65_method_123_code (3 : Nat) (Option.some (Jvm.ClassFile.FieldType.array Jvm.ClassFile.FieldType.int)), Jvm.Cond.code ({ cls := "java/lang/Math", name := "min", desc := "(II)I" } : Jvm.MethodName) jdk_29_method_69_code (2 : Nat) (Option.some Jvm.ClassFile.FieldType.int), Jvm.Cond.code ({ cls := "com/example/cangdan/cangdan/fewest/SmallGroups", name := "lists", desc := "(I)Z" } : Jvm.MethodName) prog_29_method_7_code (2 : Nat) (Option.some Jvm.ClassFile.FieldType.boolean), Jvm.Cond.code ({ cls := "com/example/cangdan/cangdan/fewest/SmallGroups", name := "list", desc := "(I)Z" } : Jvm.MethodName) prog_29_method_14_code (6 : Nat) (Option.some Jvm.ClassFile.FieldType.boolean), Jvm.Cond.code ({ cls := "com/example/cangdan/cangdan/fewest/SmallGroups", name := "pairs", desc := "([IIJ)Z" } : Jvm.MethodName) prog_29_method_15_code (14 : Nat) (Option.some Jvm.ClassFile.FieldType.boolean), Jvm.Cond.code ({ cls := "com/example/cangdan/cangdan/fewest/SmallGroups", name := "foursListing", desc := "(I)J" } : Jvm.MethodName) prog_29_method_2_code (1 : Nat) (Option.some Jvm.ClassFile.FieldType.long), Jvm.Cond.code ({ cls := "com/example/cangdan/cangdan/fewest/SmallGroups", name := "add", desc := "([III)Z" } : Jvm.MethodName) prog_29_method_16_code (10 : Nat) (Option.some Jvm.ClassFile.FieldType.boolean), Jvm.Cond.code ({ cls := "com/example/cangdan/cangdan/fewest/SmallGroups", name := "kind", desc := "(II)I" } : Jvm.MethodName) prog_29_method_6_code (2 : Nat) (Option.some Jvm.ClassFile.FieldType.int), Jvm.Cond.code ({ cls := "com/example/cangdan/cangdan/fewest/SmallGroups", name := "size", desc := "(I)I" } : Jvm.MethodName) prog_29_method_13_code (2 : Nat) (Option.some Jvm.ClassFile.FieldType.int)]
set_option maxRecDepth 65536 in
theorem codes_eq : words1.filter isCode = codes1 := rfl
theorem w_codes : ∀ c ∈ words1.filter isCode, c.before args0 about1 = true := by
  rw [codes_eq]
  intro c hc
  simp only [codes1, List.mem_cons, List.not_mem_nil, or_false] at hc
  rcases hc with rfl | rfl | rfl | rfl | rfl | rfl | rfl | rfl | rfl | rfl | rfl | rfl | rfl | rfl
  · exact w_c0
  · exact w_c1
  · exact w_c2
  · exact w_c3
  · exact w_c4
  · exact w_c5
  · exact w_c6
  · exact w_c7
  · exact w_c8
  · exact w_c9
  · exact w_c10
  · exact w_c11
  · exact w_c12
  · exact w_c13
set_option maxRecDepth 65536 in
theorem w_t1 : (words1.take 24).all (fun c => isCode c || c.before args0 about1) = true := by decide +kernel
set_option maxRecDepth 65536 in
theorem w_t2 : ((words1.drop 24).take 24).all (fun c => isCode c || c.before args0 about1) = true := by decide +kernel
set_option maxRecDepth 65536 in
theorem w_t3 : (((words1.drop 24).drop 24).take 24).all (fun c => isCode c || c.before args0 about1) = true := by decide +kernel
set_option maxRecDepth 65536 in
theorem w_t4 : (((words1.drop 24).drop 24).drop 24).all (fun c => isCode c || c.before args0 about1) = true := by decide +kernel
theorem w_tables : (allAtoms (Jvm.Cond.code x code maxLocals ret :: tables_1)).before args0 about1 = true := by
  rw [allAtoms_all]
  show words1.all (fun c => c.before args0 about1) = true
  refine all_split ?_ w_codes
  rw [← List.take_append_drop 24 words1, List.all_append, w_t1, ← List.take_append_drop 24 (words1.drop 24), List.all_append, w_t2, ← List.take_append_drop 24 ((words1.drop 24).drop 24), List.all_append, w_t3, w_t4]
  rfl
set_option maxRecDepth 65536 in
theorem w_case : (Jvm.Cond.and given_1 narrow_1).before args0 about1 = true := by decide +kernel
theorem w_applies : (headSpec (Jvm.Cond.code x code maxLocals ret :: tables_1) room_1).applies x e0.platform about1 = true :=
  (Spec.applies_iff w_frames).mpr ⟨w_running, w_runnable, w_alone, w_named, w_hears, w_ripe, w_room, w_tables⟩
theorem atStart : AtStart classFile x code maxLocals ret World_1 tables_1 room_1 Calls_1 rest_1 Pre_1 launch0 p0 e0 about1 theMethod args0 below0 :=
  ⟨lists_1, trivial, launch0.admits_env _ _ _, launch0.least_env, fairChoices_fair.cas, fairChoices_fair.clock, w_frames, w_args, w_heap, w_applies, trivial, trivial, w_case⟩
end start1
theorem witness_1 : WitnessClaimed_1 := ⟨start1.p0, start1.e0, start1.about1, start1.theMethod, start1.args0, start1.below0, start1.atStart⟩
end Jvm.Pilot.@@N@@
