import JvmDerived
import JvmDerived.Pilot.@@N@@Statement
import JvmDerived.Pilot.@@N@@Code
set_option linter.unusedVariables false
set_option linter.unusedSimpArgs false
namespace Jvm.OwnW
open Jvm Jvm.ClassFile Sem Op Lib Jvm.Free Jvm.Stand Jvm.LawKit Jvm.RoadKit
/-! ## shifts -/
def ushrI (x y : Int32) : Int32 := (x.toUInt32 >>> (y &&& 31).toUInt32).toInt32
def shlL (x : Int64) (y : Int32) : Int64 := x <<< (y &&& 0x3f).toInt64
def shrL (x : Int64) (y : Int32) : Int64 := x >>> (y &&& 0x3f).toInt64
def ushrL (x : Int64) (y : Int32) : Int64 := (x.toUInt64 >>> (y &&& 0x3f).toInt64.toUInt64).toInt64
theorem ushrI_c (x q : Int32) (k : Nat) (hk : q.toBitVec.toNat % 32 = k) (h0 : 0 < k) : (ushrI x q).toInt = (x.toInt % 4294967296) / (2 ^ k : Nat) := c_iushr x q k hk h0
theorem shlL_c (x : Int64) (q : Int32) (k : Nat) (hk : q.toBitVec.toNat % 64 = k) : ((shlL x q).toInt - x.toInt * (2 ^ k : Nat)) % 18446744073709551616 = 0 := c_lshl x q k hk
theorem shrL_c (x : Int64) (q : Int32) (k : Nat) (hk : q.toBitVec.toNat % 64 = k) : (shrL x q).toInt = x.toInt / (2 ^ k : Nat) := c_lshr x q k hk
theorem ushrL_c (x : Int64) (q : Int32) (k : Nat) (hk : q.toBitVec.toNat % 64 = k) (h0 : 0 < k) : (ushrL x q).toInt = (x.toInt % 18446744073709551616) / (2 ^ k : Nat) := c_lushr x q k hk h0
theorem ushrL_0 (x : Int64) : ushrL x 0 = x := by
  show (x.toUInt64 >>> (0 : UInt64)).toInt64 = x
  simp
/-! ## what the walk's own cells hold -/
/-- a field: the class that declares it, its name, its descriptor, its value -/
abbrev FldE := String × String × String × Value
/-- an object (its class, its fields) or an array (its component's kind, its values) -/
abbrev Obj := (String × List FldE) ⊕ (FieldType × List Value)
abbrev HL := List (Addr × Obj)
def Is (Z : State) (h : Heap) (a : Addr) : Obj → Prop
  | .inl (C, fs) => Exa Z h a C ∧ (∀ f ∈ fs, Fld Z h a f.1 f.2.1 f.2.2.1 f.2.2.2) ∧ fs.Pairwise fun f g => RoadKit.slotOf Z f.1 f.2.1 f.2.2.1 ≠ RoadKit.slotOf Z g.1 g.2.1 g.2.2.1
  | .inr (ty, vs) => ∃ c : Cell, Arr Z h a c ty ∧ Exa Z h a ("[" ++ ty.toString) ∧ c.slots.toList = vs ∧ vs.length < 2 ^ 31
def Hp (Z : State) (n0 kb : Nat) (h : Heap) (L : HL) : Prop :=
  (Old Z n0 h ∧ kb ≤ h.size) ∧ (∀ (i : Nat) (a : Addr) (o : Obj), L[i]? = some (a, o) → n0 ≤ a ∧ Is Z h a o) ∧ ∀ (i j : Nat) (a : Addr) (o o' : Obj), L[i]? = some (a, o) → L[j]? = some (a, o') → i = j
section Heaps
variable {Z : State} {a0 : Array Value} {n0 kb : Nat} {h h' : Heap} {a b : Addr} {o : Obj} {L : HL}
theorem Is.lt (F : Is Z h a o) : a < h.size := by
  rcases o with ⟨C, fs⟩ | ⟨ty, vs⟩
  · exact F.1.lt
  · obtain ⟨c, A, -⟩ := F; exact A.lt
theorem Is.ext (F : Is Z h a o) (E : Ext h h') : Is Z h' a o := by
  rcases o with ⟨C, fs⟩ | ⟨ty, vs⟩
  · exact ⟨F.1.ext E, fun f hf => (F.2.1 f hf).ext E, F.2.2⟩
  · obtain ⟨c, A, X, r⟩ := F; exact ⟨c, A.ext E, X.ext E, r⟩
theorem Is.other {sl : Nat} {v : Value} (F : Is Z h b o) (W : Wr h h' a sl v) (q : b ≠ a) : Is Z h' b o := by
  rcases o with ⟨C, fs⟩ | ⟨ty, vs⟩
  · exact ⟨F.1.wr W, fun f hf => (F.2.1 f hf).other W (Or.inl q), F.2.2⟩
  · obtain ⟨c, A, X, r⟩ := F; exact ⟨c, A.other W q, X.wr W, r⟩
theorem Hp.nil (O : Old Z n0 h) (hk : kb ≤ h.size) : Hp Z n0 kb h [] := ⟨⟨O, hk⟩, fun i a o q => by simp at q, fun i j a o o' q => by simp at q⟩
theorem Hp.at (H : Hp Z n0 kb h L) {i : Nat} (q : L[i]? = some (a, o)) : Is Z h a o := (H.2.1 i a o q).2
theorem Hp.obj {C : String} {fs : List FldE} (H : Hp Z n0 kb h L) {i : Nat} (q : L[i]? = some (a, .inl (C, fs))) : Exa Z h a C ∧ (∀ f ∈ fs, Fld Z h a f.1 f.2.1 f.2.2.1 f.2.2.2) ∧ fs.Pairwise fun f g => RoadKit.slotOf Z f.1 f.2.1 f.2.2.1 ≠ RoadKit.slotOf Z g.1 g.2.1 g.2.2.1 := (H.2.1 i a _ q).2
theorem Hp.arr {ty : FieldType} {vs : List Value} (H : Hp Z n0 kb h L) {i : Nat} (q : L[i]? = some (a, .inr (ty, vs))) : ∃ c : Cell, Arr Z h a c ty ∧ Exa Z h a ("[" ++ ty.toString) ∧ c.slots.toList = vs ∧ vs.length < 2 ^ 31 := (H.2.1 i a _ q).2
theorem Hp.ge (H : Hp Z n0 kb h L) {i : Nat} (q : L[i]? = some (a, o)) : n0 ≤ a := (H.2.1 i a o q).1
theorem Hp.push (H : Hp Z n0 kb h L) (E : Ext h h') (hn : n0 ≤ h.size) (F : Is Z h' h.size o) : Hp Z n0 kb h' (L ++ [(h.size, o)]) := by
  have lt : ∀ {i : Nat} {b : Addr} {o' : Obj}, (L ++ [(h.size, o)])[i]? = some (b, o') → (i < L.length ∧ L[i]? = some (b, o') ∧ b < h.size) ∨ (i = L.length ∧ b = h.size ∧ o' = o) := by
    intro i b o' q
    by_cases hi : i < L.length
    · rw [List.getElem?_append_left hi] at q
      exact Or.inl ⟨hi, q, (H.at q).lt⟩
    · rw [List.getElem?_append_right (Nat.le_of_not_lt hi)] at q
      have : i - L.length = 0 := by
        cases hk : i - L.length with
        | zero => rfl
        | succ k => rw [hk] at q; simp at q
      rw [this] at q
      simp at q
      exact Or.inr ⟨by omega, q.1.symm, q.2.symm⟩
  refine ⟨⟨H.1.1.ext E, Nat.le_trans H.1.2 E.1⟩, fun i b o' q => ?_, fun i j b o1 o2 q1 q2 => ?_⟩
  · rcases lt q with ⟨-, q', -⟩ | ⟨-, rfl, rfl⟩
    · exact ⟨H.ge q', (H.at q').ext E⟩
    · exact ⟨hn, F⟩
  · rcases lt q1 with ⟨-, q1', r1⟩ | ⟨e1, r1, -⟩ <;> rcases lt q2 with ⟨-, q2', r2⟩ | ⟨e2, r2, -⟩
    · exact H.2.2 i j b o1 o2 q1' q2'
    · exact absurd r2 (Nat.ne_of_lt r1)
    · exact absurd r1 (Nat.ne_of_lt r2)
    · exact e1.trans e2.symm
theorem Hp.size (H : Hp Z n0 kb h L) : n0 ≤ h.size := H.1.1.1 ▸ H.1.1.2.1
theorem Hp.lower {kb' : Nat} (H : Hp Z n0 kb h L) (q : kb' ≤ h.size) : Hp Z n0 kb' h L := ⟨⟨H.1.1, q⟩, H.2⟩
theorem Hp.put {sl : Nat} {v : Value} {o' : Obj} (H : Hp Z n0 kb h L) {i : Nat} (q : L[i]? = some (a, o)) (W : Wr h h' a sl v) (F : Is Z h' a o') : Hp Z n0 kb h' (L.set i (a, o')) := by
  have at' : ∀ {j : Nat} {b : Addr} {o2 : Obj}, (L.set i (a, o'))[j]? = some (b, o2) → (j = i ∧ b = a ∧ o2 = o') ∨ (j ≠ i ∧ L[j]? = some (b, o2)) := by
    intro j b o2 r
    by_cases hj : j = i
    · subst hj
      rw [List.getElem?_set_self (List.getElem?_eq_some_iff.mp q).1] at r
      simp at r
      exact Or.inl ⟨rfl, r.1.symm, r.2.symm⟩
    · rw [List.getElem?_set_ne (Ne.symm hj)] at r
      exact Or.inr ⟨hj, r⟩
  refine ⟨⟨H.1.1.wr W (H.ge q), by rw [W.size]; exact H.1.2⟩, fun j b o2 r => ?_, fun j j' b o1 o2 r1 r2 => ?_⟩
  · rcases at' r with ⟨rfl, rfl, rfl⟩ | ⟨hj, r'⟩
    · exact ⟨H.ge q, F⟩
    · exact ⟨H.ge r', (H.at r').other W fun e => hj (by subst e; exact H.2.2 _ _ _ _ _ r' q)⟩
  · rcases at' r1 with ⟨rfl, rfl, rfl⟩ | ⟨n1, r1'⟩ <;> rcases at' r2 with ⟨rfl, e2, -⟩ | ⟨n2, r2'⟩
    · rfl
    · exact absurd (H.2.2 _ _ _ _ _ r2' q) n2
    · subst e2; exact absurd (H.2.2 _ _ _ _ _ r1' q) n1
    · exact H.2.2 _ _ _ _ _ r1' r2'
theorem Is.field {C : String} {fs : List FldE} {j : Nat} {O n d : String} {v w : Value} (F : Is Z h a (.inl (C, fs))) (q : fs[j]? = some (O, n, d, w)) (W : Wr h h' a (RoadKit.slotOf Z O n d) v) : Is Z h' a (.inl (C, fs.set j (O, n, d, v))) := by
  obtain ⟨E, A, D⟩ := F
  obtain ⟨hj, e⟩ := List.getElem?_eq_some_iff.mp q
  have nth : ∀ k g, k ≠ j → fs[k]? = some g → RoadKit.slotOf Z g.1 g.2.1 g.2.2.1 ≠ RoadKit.slotOf Z O n d := by
    intro k g hk r
    obtain ⟨hk', e'⟩ := List.getElem?_eq_some_iff.mp r
    rw [List.pairwise_iff_getElem] at D
    rcases Nat.lt_or_gt_of_ne hk with u | u
    · have := D k j hk' hj u; rw [e, e'] at this; exact this
    · have := D j k hj hk' u; rw [e, e'] at this; exact Ne.symm this
  refine ⟨E.wr W, fun f hf => ?_, ?_⟩
  · obtain ⟨k, hk, ek⟩ := List.mem_iff_getElem.mp hf
    by_cases hkj : k = j
    · subst hkj
      have : f = (O, n, d, v) := by rw [← ek]; simp
      subst this
      exact (A (O, n, d, w) (List.mem_of_getElem? q)).same W
    · have r : fs[k]? = some f := by
        have : (fs.set j (O, n, d, v))[k]? = some f := List.getElem?_eq_some_iff.mpr ⟨hk, ek⟩
        rwa [List.getElem?_set_ne (Ne.symm hkj)] at this
      exact (A f (List.mem_of_getElem? r)).other W (Or.inr (nth k f hkj r))
  · have em : (fs.set j (O, n, d, v)).map (fun f => RoadKit.slotOf Z f.1 f.2.1 f.2.2.1) = fs.map (fun f => RoadKit.slotOf Z f.1 f.2.1 f.2.2.1) := by
      rw [List.map_set]
      refine List.ext_getElem? fun k => ?_
      by_cases hkj : j = k
      · subst hkj
        rw [List.getElem?_set_self (by simpa using hj)]
        simp [q]
      · rw [List.getElem?_set_ne hkj]
    have D' : (fs.map (fun f => RoadKit.slotOf Z f.1 f.2.1 f.2.2.1)).Pairwise (· ≠ ·) := List.pairwise_map.mpr D
    rw [← em] at D'
    exact List.pairwise_map.mp D'
theorem Is.elem {ty : FieldType} {vs : List Value} {v : Value} {c : Cell} (A : Arr Z h a c ty) (X : Exa Z h a ("[" ++ ty.toString)) (e : c.slots.toList = vs) (hl : vs.length < 2 ^ 31) {j : Nat} (W : Wr h h' a j v) : Is Z h' a (.inr (ty, vs.set j v)) :=
  ⟨c.setSlot j v, A.same W, X.wr W, by subst e; simp [Cell.setSlot], by simpa using hl⟩
/-- the fields of a fresh object -/
def FOk (Z : State) (a0 : Array Value) (C : String) : List FldE → Prop
  | [] => True
  | (O, n, d, v) :: r => Laid Z a0 C O n d ∧ (∃ ty, parseFieldDescriptor d = some ty ∧ v = defaultValue ty) ∧ FOk Z a0 C r
theorem FOk.cons {C O n d : String} {v : Value} {ty : FieldType} {r : List FldE} (l : Laid Z a0 C O n d) (p : parseFieldDescriptor d = some ty) (e : v = defaultValue ty) (k : FOk Z a0 C r) : FOk Z a0 C ((O, n, d, v) :: r) := ⟨l, ⟨ty, p, e⟩, k⟩
theorem FOk.mem {C : String} : ∀ {fs : List FldE}, FOk Z a0 C fs → ∀ f ∈ fs, Laid Z a0 C f.1 f.2.1 f.2.2.1 ∧ ∃ ty, parseFieldDescriptor f.2.2.1 = some ty ∧ f.2.2.2 = defaultValue ty
  | [], _, _, hf => by simp at hf
  | (O, n, d, v) :: r, k, f, hf => by
    rcases List.mem_cons.mp hf with rfl | hf
    · exact ⟨k.1, k.2.1⟩
    · exact FOk.mem k.2.2 f hf
theorem FOk.pw {C : String} {fs : List FldE} (k : FOk Z a0 C fs) (hn : (fs.map fun f => f.2.1).Nodup) : fs.Pairwise fun f g => RoadKit.slotOf Z f.1 f.2.1 f.2.2.1 ≠ RoadKit.slotOf Z g.1 g.2.1 g.2.2.1 := by
  have hn' : fs.Pairwise fun f g => f.2.1 ≠ g.2.1 := List.pairwise_map.mp hn
  refine List.Pairwise.imp_of_mem ?_ hn'
  intro f g hf hg q
  obtain ⟨l1, t1, p1, -⟩ := k.mem f hf
  obtain ⟨l2, t2, p2, -⟩ := k.mem g hg
  exact slot_ne l1 l2 q p1 p2
theorem set_at {L : HL} {i : Nat} {q r : Addr × Obj} (h : L[i]? = some q) : (L.set i r)[i]? = some r := List.getElem?_set_self (List.getElem?_eq_some_iff.mp h).1
theorem set_ne {L : HL} {i j : Nat} {q r : Addr × Obj} (n : i ≠ j) (h : L[j]? = some q) : (L.set i r)[j]? = some q := (List.getElem?_set_ne n).trans h
end Heaps
/-! ## the walk: where it stands, and that it comes to its end -/
def Wd (p : Program) (l : Launch) (e : Env) (R : Room) (s : State) (m : MethodId) (args : Array Value) (below : List Frame) (meth : Method) (c : Code) (Z : State) (a0 : Array Value) (n0 kb : Nat) (ws : List Cond)
    (y : MethodName) (bytes : ByteArray) (ml : Nat) (ret : Option FieldType) (T : State) (L : HL) (cells slots : Nat) : Prop :=
  (∃ locs, Stand p l e R s m args below meth c T locs cells slots ∧ Fr n0 locs) ∧ Hp Z n0 kb T.heap L ∧ p.tables.exec = Jvm.exec ∧ Z.Warmed39 s.vm ∧ s.vm.findClass y.cls = some m.cls ∧ c.code = bytes ∧ c.maxLocals = ml ∧
    meth.sig.returnType = ret ∧ meth.locks = false ∧ meth.name = y.name ∧ ∀ d ∈ ws, d.before a0 Z = true
/-- how a narrow walk ends: nothing of the tables has changed but what has been resolved -/
def EndN (s : State) (kc ks : Nat) (v : Option Value) (t : State) (Lc : List Loc) : Prop := FrameEnd s (.returned v) t Lc kc ks
def Go (p : Program) (e : Env) (below : List Frame) (Z : State) (n0 kg : Nat) (E : Option Value → State → List Loc → Prop) (P : Option Value → HL → Prop) (T : State) (g : JFrame) : Prop :=
  ∃ s₂ o, Steps p.tables e below (T.setTop g) s₂ ∧ s₂.status = .running ∧ Ended s₂ below o ∧ ∃ v Lc, o = .returned v ∧ (Fr n0 Lc ∧ ∃ L', Hp Z n0 kg s₂.heap L' ∧ P v L') ∧ E v s₂ Lc
/-- a method's contract: at these arguments and these cells it returns, with P of what it returns and of the cells -/
def Con (l : Launch) (y : MethodName) (bytes : ByteArray) (ml : Nat) (ret : Option FieldType) (rm : Room) (Z : State) (n0 : Nat) (as' : Array Value) (L : HL) (P : Option Value → HL → Prop) : Prop :=
  ∀ (wx : List Cond) (kb : Nat) (h : Heap), Hp Z n0 kb h L → MetFree l y (head1 (Cond.code y bytes ml ret :: wx) rm) (fun a U => a = as' ∧ Z.Warmed39 U.vm ∧ U.heap = h) (fun _ _ _ _ _ => True)
    (fun _ U o U' => ∃ v Lc, o = .returned v ∧ (Fr n0 Lc ∧ ∃ L', Hp Z n0 kb U'.heap L' ∧ P v L') ∧ FrameEnd U o U' Lc rm.cells rm.slots)
/-- what a call leaves on the stack -/
def pushV : Option Value → List Value → List Value
  | some v, r => v :: r
  | none, r => r
theorem pushV_eq (v : Option Value) (r : List Value) : v.toList ++ r = pushV v r := by cases v <;> rfl
section Walk
variable {p : Program} {l : Launch} {e : Env} {R : Room} {s : State} {m : MethodId} {args : Array Value} {below : List Frame} {meth : Method} {c : Code} {Z : State} {a0 : Array Value} {n0 kb kg : Nat} {ws : List Cond} {y : MethodName} {bytes : ByteArray} {ml : Nat} {ret : Option FieldType} {T T' : State} {L : HL} {cells slots : Nat} {P : Option Value → HL → Prop} {E : Option Value → State → List Loc → Prop} {kc ks : Nat}
theorem Go.pre {g g' : JFrame} (k : Go p e below Z n0 kg E P T' g') (f : ∀ t, Steps p.tables e below (T'.setTop g') t → Steps p.tables e below (T.setTop g) t) : Go p e below Z n0 kg E P T g := by
  obtain ⟨s₂, o, h1, r⟩ := k
  exact ⟨s₂, o, f _ h1, r⟩
theorem Go.mono {g : JFrame} {P' : Option Value → HL → Prop} (k : Go p e below Z n0 kg E P' T g) (f : ∀ v L, P' v L → P v L) : Go p e below Z n0 kg E P T g := by
  obtain ⟨s₂, o, h1, h2, h3, v, Lc, h4, ⟨h5, L', h6, h7⟩, h8⟩ := k
  exact ⟨s₂, o, h1, h2, h3, v, Lc, h4, ⟨h5, L', h6, f _ _ h7⟩, h8⟩
section Wds
variable (w : Wd p l e R s m args below meth c Z a0 n0 kb ws y bytes ml ret T L cells slots)
theorem Wd.here (w : Wd p l e R s m args below meth c Z a0 n0 kb ws y bytes ml ret T L cells slots) : At T m c below := by obtain ⟨⟨_, X, -⟩, -⟩ := w; exact X.here
theorem Wd.hx (w : Wd p l e R s m args below meth c Z a0 n0 kb ws y bytes ml ret T L cells slots) : p.tables.exec = Jvm.exec := w.2.2.1
theorem Wd.hby (w : Wd p l e R s m args below meth c Z a0 n0 kb ws y bytes ml ret T L cells slots) : c.code = bytes := w.2.2.2.2.2.1
theorem Wd.hp (w : Wd p l e R s m args below meth c Z a0 n0 kb ws y bytes ml ret T L cells slots) : Hp Z n0 kb T.heap L := w.2.1
theorem Wd.hw (w : Wd p l e R s m args below meth c Z a0 n0 kb ws y bytes ml ret T L cells slots) {k : Nat} {d : Cond} (h : ws[k]? = some d) : d.before a0 Z = true := w.2.2.2.2.2.2.2.2.2.2 _ (List.mem_of_getElem? h)
theorem Wd.to {L' : HL} (w : Wd p l e R s m args below meth c Z a0 n0 kb ws y bytes ml ret T L cells slots) (q : L = L') : Wd p l e R s m args below meth c Z a0 n0 kb ws y bytes ml ret T L' cells slots := q ▸ w
end Wds
theorem Con.of {rm : Room} {as' : Array Value} (hpl : plainFor y = true) (hws : ∀ d ∈ ws, d.before a0 Z = true)
    (body : ∀ {p : Program} {e : Env} {s : State} {m : MethodId} {below : List Frame} {meth : Method} {c : Code} {T : State} {kb : Nat}, Wd p l e rm s m as' below meth c Z a0 n0 kb ws y bytes ml ret T L 0 0 → Go p e below Z n0 kb (EndN s rm.cells rm.slots) P T (entryFrame m as' ml)) :
    Con l y bytes ml ret rm Z n0 as' L P := by
  intro wx kb h hH
  refine MetFree.of_bodySF hpl hisR ?_
  intro p e s m args below meth c s₁ Bd hml hP hK
  obtain ⟨rfl, hZ, hh⟩ := hP
  have X0 : Stand p l e rm s m args below meth c s₁ [] 0 0 := Stand.of_body Bd
  have e0 : s₁.heap = h := by rw [← hh, Bd.state]; rfl
  obtain ⟨s₂, o, h1, h2, h3, v, Lc, rfl, h5, h6⟩ := body ⟨⟨[], X0, Fr.nil n0⟩, by rw [e0]; exact hH, Bd.exec, hZ, findClass_of_methodNamed Bd.named, Bd.bytes, hml, Bd.returns, Bd.notSynchronized, (name_of_methodNamed Bd.named Bd.method).1, hws⟩
  obtain ⟨h5a, L', h5b, h5c⟩ := h5
  exact ⟨s₂, _, h1, h2, h3, v, Lc, rfl, ⟨h5a, L', h5b, h5c⟩, h6⟩
theorem g_entry {as' : Array Value} (Ls : Array Slot) (q : entryFrame m as' ml = mkF m 0 Ls []) (k : Go p e below Z n0 kg E P T (mkF m 0 Ls [])) : Go p e below Z n0 kg E P T (entryFrame m as' ml) := by rw [q]; exact k
theorem g_int {pc : Nat} {Ls : Array Slot} {x x' : Int32} {st : List Value} (q : x = x') (k : Go p e below Z n0 kg E P T (mkF m pc Ls (.int x' :: st))) : Go p e below Z n0 kg E P T (mkF m pc Ls (.int x :: st)) := by rw [q]; exact k
theorem g_long {pc : Nat} {Ls : Array Slot} {x x' : Int64} {st : List Value} (q : x = x') (k : Go p e below Z n0 kg E P T (mkF m pc Ls (.long x' :: st))) : Go p e below Z n0 kg E P T (mkF m pc Ls (.long x :: st)) := by rw [q]; exact k
theorem g_end {f : State → State} {fs : List Frame} {v : Option Value} {g : JFrame} {locs : List Loc} (X : Stand p l e R s m args below meth c T locs cells slots) (N : Fr n0 locs) (H : Hp Z n0 kb T.heap L) (hc : cells ≤ kc) (hs : slots ≤ ks) (hP : P v L)
    (st : Steps p.tables e below (T.setTop g) (T.setFrames fs)) (h1 : (T.setFrames fs).status = .running) (h2 : Ended (T.setFrames fs) below (.returned v)) (h3 : s.WarmedH (T.setFrames fs).vm) (h4 : s.sameButNew ({ T.setFrames fs with vm := s.vm } : State) locs cells slots) :
    Go p e below Z n0 kb (EndN s kc ks) P T g :=
  ⟨_, _, st, h1, h2, v, locs, rfl, ⟨N, L, H, hP⟩, ⟨_, rfl⟩, h3, h4.mono hc hs⟩
theorem g_ret (w : Wd p l e R s m args below meth c Z a0 n0 kb ws y bytes ml none T L cells slots) {pc : Nat} {Ls : Array Slot} (hd : decode bytes pc = .ok (.return_, 1)) (hc : cells ≤ kc) (hs : slots ≤ ks) (hP : P none L) :
    Go p e below Z n0 kb (EndN s kc ks) P T (mkF m pc Ls []) := by
  obtain ⟨⟨locs, X, N⟩, H, hx, hZ, hown, hby, hml, hret, hlk, hnm, hws⟩ := w
  obtain ⟨fs, hr, h1, h2, h3, h4⟩ := X.leave (v := none) (fun _ => rfl) hlk
  exact g_end (f := id) X N H hc hs hP (X.returnOut hx hret (hb hby hd) hr) h1 h2 h3 h4
theorem g_retW {t : FieldType} {i : Instr} (w : Wd p l e R s m args below meth c Z a0 n0 kb ws y bytes ml (some t) T L cells slots) {pc : Nat} {Ls : Array Slot} {v : Value} {st : List Value} (hd : decode bytes pc = .ok (i, 1)) (hn : narrow t v = v)
    (hi : (i = .ireturn ∧ (t = .int ∨ t = .boolean ∨ t = .byte ∨ t = .char ∨ t = .short) ∧ ∃ z, v = .int z) ∨ (i = .lreturn ∧ t = .long ∧ ∃ z, v = .long z) ∨ (i = .dreturn ∧ t = .double ∧ ∃ z, v = .double z) ∨ (i = .freturn ∧ t = .float ∧ ∃ z, v = .float z) ∨ (i = .areturn ∧ t.isReference = true ∧ v.isRef = true))
    (hc : cells ≤ kc) (hs : slots ≤ ks) (hP : P (some v) L) : Go p e below Z n0 kb (EndN s kc ks) P T (mkF m pc Ls (v :: st)) := by
  obtain ⟨⟨locs, X, N⟩, H, hx, hZ, hown, hby, hml, hret, hlk, hnm, hws⟩ := w
  obtain ⟨fs, hr, h1, h2, h3, h4⟩ := X.leave (v := some v) (fun q => by rw [hret] at q; cases q) hlk
  exact g_end (f := id) X N H hc hs hP (retOut X hx hret hn hi (hb hby hd) hr) h1 h2 h3 h4
theorem g_ireti (w : Wd p l e R s m args below meth c Z a0 n0 kb ws y bytes ml (some .int) T L cells slots) {pc : Nat} {Ls : Array Slot} {z : Int32} {st : List Value} (hd : decode bytes pc = .ok (.ireturn, 1)) (hc : cells ≤ kc) (hs : slots ≤ ks) (hP : P (some (.int z)) L) :
    Go p e below Z n0 kb (EndN s kc ks) P T (mkF m pc Ls (.int z :: st)) := g_retW w hd rfl (Or.inl ⟨rfl, Or.inl rfl, z, rfl⟩) hc hs hP
theorem g_lret (w : Wd p l e R s m args below meth c Z a0 n0 kb ws y bytes ml (some .long) T L cells slots) {pc : Nat} {Ls : Array Slot} {z : Int64} {st : List Value} (hd : decode bytes pc = .ok (.lreturn, 1)) (hc : cells ≤ kc) (hs : slots ≤ ks) (hP : P (some (.long z)) L) :
    Go p e below Z n0 kb (EndN s kc ks) P T (mkF m pc Ls (.long z :: st)) := g_retW w hd rfl (Or.inr (Or.inl ⟨rfl, rfl, z, rfl⟩)) hc hs hP
theorem g_aret {t : FieldType} (w : Wd p l e R s m args below meth c Z a0 n0 kb ws y bytes ml (some t) T L cells slots) {pc : Nat} {Ls : Array Slot} {v : Value} {st : List Value} (hd : decode bytes pc = .ok (.areturn, 1)) (ht : t.isReference = true) (hv : v.isRef = true) (hn : narrow t v = v) (hc : cells ≤ kc) (hs : slots ≤ ks) (hP : P (some v) L) :
    Go p e below Z n0 kb (EndN s kc ks) P T (mkF m pc Ls (v :: st)) := g_retW w hd hn (Or.inr (Or.inr (Or.inr (Or.inr ⟨rfl, ht, hv⟩)))) hc hs hP
/-- a boolean, byte, char or short: narrowed -/
theorem g_iretn {t : FieldType} (w : Wd p l e R s m args below meth c Z a0 n0 kb ws y bytes ml (some t) T L cells slots) (ht : t = .boolean ∨ t = .byte ∨ t = .char ∨ t = .short) {pc : Nat} {Ls : Array Slot} {z : Int32} {st : List Value} (hd : decode bytes pc = .ok (.ireturn, 1)) (hc : cells ≤ kc) (hs : slots ≤ ks) (hP : P (some (.int (nar t z))) L) :
    Go p e below Z n0 kb (EndN s kc ks) P T (mkF m pc Ls (.int z :: st)) := by
  obtain ⟨⟨locs, X, N⟩, H, hx, hZ, hown, hby, hml, hret, hlk, hnm, hws⟩ := w
  obtain ⟨fs, hr, h1, h2, h3, h4⟩ := X.leave (v := some (.int (nar t z))) (fun q => by rw [hret] at q; cases q) hlk
  exact g_end (f := id) X N H hc hs hP (retN X hx hret ht (hb hby hd) hr) h1 h2 h3 h4
/-! ## constants of the pool -/
theorem g_ldci (w : Wd p l e R s m args below meth c Z a0 n0 kb ws y bytes ml ret T L cells slots) {pc : Nat} {Ls : Array Slot} {st : List Value} {idx : Nat} (hd : decode bytes pc = .ok (.ldc idx, 2)) (k : Nat) {v : Int32} (hk : ws[k]? = some (.constant y.cls idx v)) (pc' : Nat) (hp : pc + 2 = pc')
    (kt : Go p e below Z n0 kg E P T (mkF m pc' Ls (.int v :: st))) : Go p e below Z n0 kg E P T (mkF m pc Ls st) := by
  subst hp
  have hk' := w.hw hk
  obtain ⟨⟨locs, X, N⟩, H, hx, hZ, hown, hby, hml, hret, hlk, hnm, hws⟩ := w
  exact kt.pre fun t q => X.ldcInt hx hown (mvT hZ hk') (g := mkF m pc Ls st) rfl (hb hby hd) t q
theorem g_ldcl (w : Wd p l e R s m args below meth c Z a0 n0 kb ws y bytes ml ret T L cells slots) {pc : Nat} {Ls : Array Slot} {st : List Value} {idx : Nat} (hd : decode bytes pc = .ok (.ldc2_w idx, 3)) (k : Nat) {v : Int64} (hk : ws[k]? = some (.constantLong y.cls idx v)) (pc' : Nat) (hp : pc + 3 = pc')
    (kt : Go p e below Z n0 kg E P T (mkF m pc' Ls (.long v :: st))) : Go p e below Z n0 kg E P T (mkF m pc Ls st) := by
  subst hp
  have hk' := w.hw hk
  obtain ⟨⟨locs, X, N⟩, H, hx, hZ, hown, hby, hml, hret, hlk, hnm, hws⟩ := w
  exact kt.pre fun t q => X.ldc2Long hx hown (mvT hZ hk') (g := mkF m pc Ls st) rfl (hb hby hd) t q
/-! ## fields -/
theorem g_getf (w : Wd p l e R s m args below meth c Z a0 n0 kb ws y bytes ml ret T L cells slots) {pc : Nat} {Ls : Array Slot} {st : List Value} {idx : Nat} {a : Addr} {C R0 O n d : String} {fs : List FldE} {v : Value} (hd : decode bytes pc = .ok (.getfield idx, 3)) (i : Nat) (hi : L[i]? = some (a, .inl (C, fs))) (j : Nat) (hj : fs[j]? = some (O, n, d, v))
    (k : Nat) (hk : ws[k]? = some (.fieldLink y.cls idx R0 n d)) (via : Via Z R0 O n d) (pc' : Nat) (hp : pc + 3 = pc')
    (kt : ∀ T', Wd p l e R s m args below meth c Z a0 n0 kb ws y bytes ml ret T' L cells slots → Go p e below Z n0 kg E P T' (mkF m pc' Ls (v :: st))) : Go p e below Z n0 kg E P T (mkF m pc Ls (.ref a :: st)) := by
  subst hp
  have hk' := w.hw hk
  obtain ⟨⟨locs, X, N⟩, H, hx, hZ, hown, hby, hml, hret, hlk, hnm, hws⟩ := w
  have F := (H.obj hi).2.1 _ (List.mem_of_getElem? hj)
  obtain ⟨T', X', e', st'⟩ := getF X hx hZ hown (host := "") (Or.inl hk') via rfl F (g := mkF m pc Ls (.ref a :: st)) rfl rfl (hb hby hd)
  exact (kt T' ⟨⟨locs, X', N⟩, by rw [e']; exact H, hx, hZ, hown, hby, hml, hret, hlk, hnm, hws⟩).pre st'
theorem g_putf (w : Wd p l e R s m args below meth c Z a0 n0 kb ws y bytes ml ret T L cells slots) {pc : Nat} {Ls : Array Slot} {st : List Value} {idx kk : Nat} {a : Addr} {C R0 O n d : String} {fs : List FldE} {u v : Value} {ty : FieldType} (hd : decode bytes pc = .ok (.putfield idx, 3)) (i : Nat) (hi : L[i]? = some (a, .inl (C, fs))) (j : Nat) (hj : fs[j]? = some (O, n, d, u))
    (k : Nat) (hk : ws[k]? = some (.fieldLink y.cls idx R0 n d)) (via : Via Z R0 O n d) (k2 : Nat) (hk2 : ws[k2]? = some (.lays C O n d) ∨ (ws[k2]? = some (.laysFinal C O n d) ∧ y.cls = O ∧ y.name = "<init>")) (k3 : Nat) (hk3 : ws[k3]? = some (.instantiable C kk)) (hty : parseFieldDescriptor d = some ty) (hn : narrow ty v = v) (hf : fits ty v = true) (pc' : Nat) (hp : pc + 3 = pc')
    (kt : ∀ T', Wd p l e R s m args below meth c Z a0 n0 kb ws y bytes ml ret T' (L.set i (a, .inl (C, fs.set j (O, n, d, v)))) cells slots → Go p e below Z n0 kg E P T' (mkF m pc' Ls st)) : Go p e below Z n0 kg E P T (mkF m pc Ls (v :: .ref a :: st)) := by
  subst hp
  have hk' := w.hw hk
  have hk3' := w.hw hk3
  have hk2' : (Cond.lays C O n d).before a0 Z = true ∨ ((Cond.laysFinal C O n d).before a0 Z = true ∧ y.cls = O ∧ y.name = "<init>") := hk2.imp (fun q => w.hw q) fun q => ⟨w.hw q.1, q.2⟩
  obtain ⟨⟨locs, X, N⟩, H, hx, hZ, hown, hby, hml, hret, hlk, hnm, hws⟩ := w
  have I := H.obj hi
  have F := I.2.1 _ (List.mem_of_getElem? hj)
  obtain ⟨T', h', X', e', W, st'⟩ := putF X hx hZ hown (host := "") (Or.inl hk') via rfl F I.1 (hk2'.imp id fun q => ⟨q.1, q.2.1, hnm.trans q.2.2⟩) hk3' hty hn hf (g := mkF m pc Ls (v :: .ref a :: st)) rfl rfl (hb hby hd)
  refine (kt T' ⟨⟨_, X', Fr.snoc X' N (H.ge hi)⟩, ?_, hx, hZ, hown, hby, hml, hret, hlk, hnm, hws⟩).pre st'
  rw [e']
  exact H.put hi W (Is.field (H.at hi) hj W)
/-! ## new objects and arrays -/
theorem g_new (w : Wd p l e R s m args below meth c Z a0 n0 kb ws y bytes ml ret T L cells slots) {pc : Nat} {Ls : Array Slot} {st : List Value} {idx n : Nat} {C : String} (fs : List FldE) (hd : decode bytes pc = .ok (.new idx, 3)) (k1 : Nat) (hk1 : ws[k1]? = some (.classLink y.cls idx C)) (k2 : Nat) (hk2 : ws[k2]? = some (.instantiable C n)) (k3 : Nat) (hk3 : ws[k3]? = some (.initialized C))
    (hfs : FOk Z a0 C fs) (hnd : (fs.map fun f => f.2.1).Nodup) (hc : cells + 1 ≤ R.cells) (hs : slots + n ≤ R.slots) (pc' : Nat) (hp : pc + 3 = pc')
    (kt : ∀ T' a, Wd p l e R s m args below meth c Z a0 n0 kb ws y bytes ml ret T' (L ++ [(a, .inl (C, fs))]) (cells + 1) (slots + n) → Go p e below Z n0 kg E P T' (mkF m pc' Ls (.ref a :: st))) : Go p e below Z n0 kg E P T (mkF m pc Ls st) := by
  subst hp
  have hk1' := w.hw hk1
  have hk2' := w.hw hk2
  have hk3' := w.hw hk3
  obtain ⟨⟨locs, X, N⟩, H, hx, hZ, hown, hby, hml, hret, hlk, hnm, hws⟩ := w
  obtain ⟨T', h', X', e', E, A, D, -, st'⟩ := newO X hx hZ hown hk1' hk2' hk3' rfl (g := mkF m pc Ls st) rfl (hb hby hd) hc hs
  refine (kt T' T.heap.size ⟨⟨_, X', N⟩, ?_, hx, hZ, hown, hby, hml, hret, hlk, hnm, hws⟩).pre st'
  rw [e']
  refine H.push E H.size (show Exa _ _ _ _ ∧ _ ∧ _ from ⟨A, fun f hf => ?_, hfs.pw hnd⟩)
  obtain ⟨l1, t1, p1, v1⟩ := hfs.mem f hf
  rw [v1]
  exact D l1 p1
theorem g_newarr (w : Wd p l e R s m args below meth c Z a0 n0 kb ws y bytes ml ret T L cells slots) {pc : Nat} {Ls : Array Slot} {st : List Value} {aty : ArrayType} {n : Int32} (hd : decode bytes pc = .ok (.newarray aty, 2)) (k1 : Nat) (hk1 : ws[k1]? = some (.arrayClass (newarray.typeOf aty))) (nn cap : Nat) (hn : n.toInt = (nn : Int)) (hcap : nn ≤ cap) (hb8 : cap * 8 ≤ 536870912)
    (vs : List Value) (hvs : vs = List.replicate nn (defaultValue (newarray.typeOf aty))) (hc : cells + 1 ≤ R.cells) (hs : slots + cap ≤ R.slots) (pc' : Nat) (hp : pc + 2 = pc')
    (kt : ∀ T' a, Wd p l e R s m args below meth c Z a0 n0 kb ws y bytes ml ret T' (L ++ [(a, .inr (newarray.typeOf aty, vs))]) (cells + 1) (slots + cap) → Go p e below Z n0 kg E P T' (mkF m pc' Ls (.ref a :: st))) : Go p e below Z n0 kg E P T (mkF m pc Ls (.int n :: st)) := by
  subst hp hvs
  have hk1' := w.hw hk1
  obtain ⟨⟨locs, X, N⟩, H, hx, hZ, hown, hby, hml, hret, hlk, hnm, hws⟩ := w
  have q0 : ¬ n < 0 := by rw [Int32.lt_iff_toInt_lt, hn]; show ¬ ((nn : Int) < 0); omega
  have q1 : n.toNatClampNeg = nn := by have := nat_of q0; rw [hn] at this; exact (Int.ofNat.inj this).symm
  obtain ⟨T', h', cA, X', e', E, A, XA, st'⟩ := newPE X hx hZ hk1' rfl (g := mkF m pc Ls (.int n :: st)) rfl (hb hby hd) rfl q0 (cap := cap) (by rw [q1]; exact hcap) hb8 hc hs (ad := "[" ++ (newarray.typeOf aty).toString) rfl
  refine (kt T' T.heap.size ⟨⟨_, X', N⟩, ?_, hx, hZ, hown, hby, hml, hret, hlk, hnm, hws⟩).pre st'
  rw [e']
  refine H.push E H.size (show ∃ c : Cell, _ from ⟨_, A, XA, by simp [newA, q1], ?_⟩)
  have := Int32.toInt_lt n
  rw [hn] at this
  simp only [List.length_replicate]
  omega
theorem inb {j : Int32} {jn : Nat} {cl : Cell} {vs : List Value} (hj : j.toInt = (jn : Int)) (e : cl.slots.toList = vs) (hl : jn < vs.length) : ¬ (j < 0 ∨ cl.slots.size ≤ j.toNatClampNeg) ∧ j.toNatClampNeg = jn := by
  have q0 : ¬ j < 0 := by rw [Int32.lt_iff_toInt_lt, hj]; show ¬ ((jn : Int) < 0); omega
  have q1 : j.toNatClampNeg = jn := by have := nat_of q0; rw [hj] at this; exact (Int.ofNat.inj this).symm
  refine ⟨fun q => q.elim q0 fun r => ?_, q1⟩
  rw [q1] at r
  have : cl.slots.size = vs.length := by rw [← e]; simp
  omega
theorem g_alen (w : Wd p l e R s m args below meth c Z a0 n0 kb ws y bytes ml ret T L cells slots) {pc : Nat} {Ls : Array Slot} {st : List Value} {a : Addr} {ty : FieldType} {vs : List Value} (hd : decode bytes pc = .ok (.arraylength, 1)) (i : Nat) (hi : L[i]? = some (a, .inr (ty, vs))) (z : Int32) (hz : z.toInt = (vs.length : Int)) (pc' : Nat) (hp : pc + 1 = pc')
    (kt : Go p e below Z n0 kg E P T (mkF m pc' Ls (.int z :: st))) : Go p e below Z n0 kg E P T (mkF m pc Ls (.ref a :: st)) := by
  subst hp
  obtain ⟨⟨locs, X, N⟩, H, hx, hZ, hown, hby, hml, hret, hlk, hnm, hws⟩ := w
  obtain ⟨cl, A, -, ev, hl⟩ := H.arr hi
  refine kt.pre fun t q => X.arraylength hx A.1 (State.isArrayOf_alike hZ.alike A.2.1) (g := mkF m pc Ls (.ref a :: st)) rfl rfl (hb hby hd) t ?_
  have : cl.slots.size.toInt32 = z := by
    apply Int32.toInt_inj.mp
    have e1 : cl.slots.size = vs.length := by rw [← ev]; simp
    rw [hz, e1]
    exact len_toInt hl
  rw [this]
  exact q
theorem g_castA (w : Wd p l e R s m args below meth c Z a0 n0 kb ws y bytes ml ret T L cells slots) {pc : Nat} {Ls : Array Slot} {st : List Value} {a : Addr} {ty : FieldType} {vs : List Value} {idx : Nat} {K : String} (hd : decode bytes pc = .ok (.checkcast idx, 3)) (i : Nat) (hi : L[i]? = some (a, .inr (ty, vs))) (k : Nat) (hk : ws[k]? = some (.classLink y.cls idx K)) (hK : "[" ++ ty.toString = K) (pc' : Nat) (hp : pc + 3 = pc')
    (kt : ∀ T', Wd p l e R s m args below meth c Z a0 n0 kb ws y bytes ml ret T' L cells slots → Go p e below Z n0 kg E P T' (mkF m pc' Ls (.ref a :: st))) : Go p e below Z n0 kg E P T (mkF m pc Ls (.ref a :: st)) := by
  subst hp hK
  have hk' := w.hw hk
  obtain ⟨⟨locs, X, N⟩, H, hx, hZ, hown, hby, hml, hret, hlk, hnm, hws⟩ := w
  obtain ⟨cl, A, XA, ev, hl⟩ := H.arr hi
  obtain ⟨T', X', e', st'⟩ := castY X hx hZ hown hk' rfl (Ins.self XA) (g := mkF m pc Ls (.ref a :: st)) rfl rfl (hb hby hd)
  exact (kt T' ⟨⟨locs, X', N⟩, by rw [e']; exact H, hx, hZ, hown, hby, hml, hret, hlk, hnm, hws⟩).pre st'
theorem g_cloneA (w : Wd p l e R s m args below meth c Z a0 n0 kb ws y bytes ml ret T L cells slots) {pc : Nat} {Ls : Array Slot} {st : List Value} {a : Addr} {ty : FieldType} {vs : List Value} {idx : Nat} {ad : String} (hd : decode bytes pc = .ok (.invokevirtual idx, 3)) (i : Nat) (hi : L[i]? = some (a, .inr (ty, vs))) (had : "[" ++ ty.toString = ad)
    (k1 : Nat) (hk1 : ws[k1]? = some (.methodLink y.cls idx ⟨ad, "clone", "()Ljava/lang/Object;"⟩)) (k2 : Nat) (hk2 : ws[k2]? = some (.sameMethod ad "java/lang/Object" "clone" "()Ljava/lang/Object;")) (k3 : Nat) (hk3 : ws[k3]? = some (.native ⟨"java/lang/Object", "clone", "()Ljava/lang/Object;"⟩)) (k4 : Nat) (hk4 : ws[k4]? = some (.instanceMethod ⟨"java/lang/Object", "clone", "()Ljava/lang/Object;"⟩))
    (k5 : Nat) (hk5 : ws[k5]? = some (.selects ad ⟨ad, "clone", "()Ljava/lang/Object;"⟩ ⟨"java/lang/Object", "clone", "()Ljava/lang/Object;"⟩)) (k6 : Nat) (hk6 : ws[k6]? = some (.castable ad "java/lang/Cloneable")) (hfit : ∀ v ∈ vs, fits ty v = true) (hsz : Ls.size = ml) (hf : 1 ≤ R.frames) (W cap : Nat) (hW : (st.map fun v => v.category).sum = W) (hl : W + 14 ≤ R.locals) (hcap : vs.length ≤ cap) (hc : cells + 1 ≤ R.cells) (hs : slots + cap ≤ R.slots) (pc' : Nat) (hp : pc + 3 = pc')
    (kt : ∀ T' a', Wd p l e R s m args below meth c Z a0 n0 kb ws y bytes ml ret T' (L ++ [(a', .inr (ty, vs))]) (cells + 1) (slots + cap) → Go p e below Z n0 kg E P T' (mkF m pc' Ls (.ref a' :: st))) : Go p e below Z n0 kg E P T (mkF m pc Ls (.ref a :: st)) := by
  subst hp had
  have hk1' := w.hw hk1
  have hk2' := w.hw hk2
  have hk3' := w.hw hk3
  have hk4' := w.hw hk4
  have hk5' := w.hw hk5
  have hk6' := w.hw hk6
  obtain ⟨⟨locs, X, N⟩, H, hx, hZ, hown, hby, hml, hret, hlk, hnm, hws⟩ := w
  obtain ⟨cl, A, XA, ev, hL⟩ := H.arr hi
  have FC : FitC Z cl := fitC_of A fun i hi v hv => hfit v (by rw [← ev]; exact Array.mem_toList_iff.mpr (Array.mem_of_getElem? hv))
  have hlen : cl.slots.size = vs.length := by rw [← ev]; simp
  obtain ⟨T', h', X', e', E, A', XA', st'⟩ := cloneA X hx hZ hown hk1' hk2' hk3' hk4' hk5' hk6' rfl A XA FC (g := mkF m pc Ls (.ref a :: st)) rfl (by rw [hml]; exact hsz) rfl (hb hby hd) hf (W := W) (cap := cap) (by show 2 * 0 + _ ≤ _; rw [hW]; omega) hl (by rw [hlen]; exact hcap) hc hs
  refine (kt T' T.heap.size ⟨⟨_, X', N⟩, ?_, hx, hZ, hown, hby, hml, hret, hlk, hnm, hws⟩).pre st'
  rw [e']
  exact H.push E H.size ⟨_, A', XA', ev, hL⟩
/-! ## what stood at the start: statics and old objects (never written) -/
theorem Hp.old (H : Hp Z n0 kb T.heap L) : Ext Z.heap T.heap := H.1.1.2
theorem g_gets (w : Wd p l e R s m args below meth c Z a0 n0 kb ws y bytes ml ret T L cells slots) {pc : Nat} {Ls : Array Slot} {st : List Value} {idx : Nat} {O n d : String} {v : Value} (F : Sta Z Z.heap O n d v) (hd : decode bytes pc = .ok (.getstatic idx, 3)) (k : Nat) (hk : ws[k]? = some (.fieldLink y.cls idx O n d)) (pc' : Nat) (hp : pc + 3 = pc')
    (kt : ∀ T', Wd p l e R s m args below meth c Z a0 n0 kb ws y bytes ml ret T' L cells slots → Go p e below Z n0 kg E P T' (mkF m pc' Ls (v :: st))) : Go p e below Z n0 kg E P T (mkF m pc Ls st) := by
  subst hp
  have hk' := w.hw hk
  obtain ⟨⟨locs, X, N⟩, H, hx, hZ, hown, hby, hml, hret, hlk, hnm, hws⟩ := w
  obtain ⟨T', X', e', st'⟩ := getS X hx hZ hown (host := "") hk' Via.refl rfl (F.ext H.old) (g := mkF m pc Ls st) rfl (hb hby hd)
  exact (kt T' ⟨⟨locs, X', N⟩, by rw [e']; exact H, hx, hZ, hown, hby, hml, hret, hlk, hnm, hws⟩).pre st'
theorem g_getfO (w : Wd p l e R s m args below meth c Z a0 n0 kb ws y bytes ml ret T L cells slots) {pc : Nat} {Ls : Array Slot} {st : List Value} {idx : Nat} {a : Addr} {O n d : String} {v : Value} (F : Fld Z Z.heap a O n d v) (hd : decode bytes pc = .ok (.getfield idx, 3)) (k : Nat) (hk : ws[k]? = some (.fieldLink y.cls idx O n d)) (pc' : Nat) (hp : pc + 3 = pc')
    (kt : ∀ T', Wd p l e R s m args below meth c Z a0 n0 kb ws y bytes ml ret T' L cells slots → Go p e below Z n0 kg E P T' (mkF m pc' Ls (v :: st))) : Go p e below Z n0 kg E P T (mkF m pc Ls (.ref a :: st)) := by
  subst hp
  have hk' := w.hw hk
  obtain ⟨⟨locs, X, N⟩, H, hx, hZ, hown, hby, hml, hret, hlk, hnm, hws⟩ := w
  obtain ⟨T', X', e', st'⟩ := getF X hx hZ hown (host := "") (Or.inl hk') Via.refl rfl (F.ext H.old) (g := mkF m pc Ls (.ref a :: st)) rfl rfl (hb hby hd)
  exact (kt T' ⟨⟨locs, X', N⟩, by rw [e']; exact H, hx, hZ, hown, hby, hml, hret, hlk, hnm, hws⟩).pre st'
theorem g_iaload (w : Wd p l e R s m args below meth c Z a0 n0 kb ws y bytes ml ret T L cells slots) {pc : Nat} {Ls : Array Slot} {st : List Value} {a : Addr} {vs : List Value} {j : Int32} {v : Value} (hd : decode bytes pc = .ok (.iaload, 1)) (i : Nat) (hi : L[i]? = some (a, .inr (.int, vs))) (jn : Nat) (hj : j.toInt = (jn : Int)) (hv : vs[jn]? = some v) (pc' : Nat) (hp : pc + 1 = pc')
    (kt : Go p e below Z n0 kg E P T (mkF m pc' Ls (v :: st))) : Go p e below Z n0 kg E P T (mkF m pc Ls (.int j :: .ref a :: st)) := by
  subst hp
  obtain ⟨⟨locs, X, N⟩, H, hx, hZ, hown, hby, hml, hret, hlk, hnm, hws⟩ := w
  obtain ⟨cl, A, -, ev, hl⟩ := H.arr hi
  obtain ⟨q1, q2⟩ := inb hj ev (List.getElem?_eq_some_iff.mp hv).1
  exact kt.pre fun t q => X.iaload hx (j := j) (v := v) A.1 (State.isArrayOf_alike hZ.alike A.2.1) A.2.2 q1 (by rw [q2, ← hv, ← ev]; simp) (g := mkF m pc Ls (.int j :: .ref a :: st)) rfl rfl (hb hby hd) t q
theorem g_laload (w : Wd p l e R s m args below meth c Z a0 n0 kb ws y bytes ml ret T L cells slots) {pc : Nat} {Ls : Array Slot} {st : List Value} {a : Addr} {vs : List Value} {j : Int32} {v : Value} (hd : decode bytes pc = .ok (.laload, 1)) (i : Nat) (hi : L[i]? = some (a, .inr (.long, vs))) (jn : Nat) (hj : j.toInt = (jn : Int)) (hv : vs[jn]? = some v) (pc' : Nat) (hp : pc + 1 = pc')
    (kt : Go p e below Z n0 kg E P T (mkF m pc' Ls (v :: st))) : Go p e below Z n0 kg E P T (mkF m pc Ls (.int j :: .ref a :: st)) := by
  subst hp
  obtain ⟨⟨locs, X, N⟩, H, hx, hZ, hown, hby, hml, hret, hlk, hnm, hws⟩ := w
  obtain ⟨cl, A, -, ev, hl⟩ := H.arr hi
  obtain ⟨q1, q2⟩ := inb hj ev (List.getElem?_eq_some_iff.mp hv).1
  exact kt.pre fun t q => X.laload hx (j := j) (v := v) A.1 (State.isArrayOf_alike hZ.alike A.2.1) A.2.2 q1 (by rw [q2, ← hv, ← ev]; simp) (g := mkF m pc Ls (.int j :: .ref a :: st)) rfl rfl (hb hby hd) t q
theorem g_caload (w : Wd p l e R s m args below meth c Z a0 n0 kb ws y bytes ml ret T L cells slots) {pc : Nat} {Ls : Array Slot} {st : List Value} {a : Addr} {vs : List Value} {j : Int32} {v : Value} (hd : decode bytes pc = .ok (.caload, 1)) (i : Nat) (hi : L[i]? = some (a, .inr (.char, vs))) (jn : Nat) (hj : j.toInt = (jn : Int)) (hv : vs[jn]? = some v) (pc' : Nat) (hp : pc + 1 = pc')
    (kt : Go p e below Z n0 kg E P T (mkF m pc' Ls (v :: st))) : Go p e below Z n0 kg E P T (mkF m pc Ls (.int j :: .ref a :: st)) := by
  subst hp
  obtain ⟨⟨locs, X, N⟩, H, hx, hZ, hown, hby, hml, hret, hlk, hnm, hws⟩ := w
  obtain ⟨cl, A, -, ev, hl⟩ := H.arr hi
  obtain ⟨q1, q2⟩ := inb hj ev (List.getElem?_eq_some_iff.mp hv).1
  exact kt.pre fun t q => X.caload hx (j := j) (v := v) A.1 (State.isArrayOf_alike hZ.alike A.2.1) A.2.2 q1 (by rw [q2, ← hv, ← ev]; simp) (g := mkF m pc Ls (.int j :: .ref a :: st)) rfl rfl (hb hby hd) t q
theorem g_baload (w : Wd p l e R s m args below meth c Z a0 n0 kb ws y bytes ml ret T L cells slots) {pc : Nat} {Ls : Array Slot} {st : List Value} {a : Addr} {vs : List Value} {j : Int32} {v : Value} (hd : decode bytes pc = .ok (.baload, 1)) (i : Nat) (hi : L[i]? = some (a, .inr (.byte, vs))) (jn : Nat) (hj : j.toInt = (jn : Int)) (hv : vs[jn]? = some v) (pc' : Nat) (hp : pc + 1 = pc')
    (kt : Go p e below Z n0 kg E P T (mkF m pc' Ls (v :: st))) : Go p e below Z n0 kg E P T (mkF m pc Ls (.int j :: .ref a :: st)) := by
  subst hp
  obtain ⟨⟨locs, X, N⟩, H, hx, hZ, hown, hby, hml, hret, hlk, hnm, hws⟩ := w
  obtain ⟨cl, A, -, ev, hl⟩ := H.arr hi
  obtain ⟨q1, q2⟩ := inb hj ev (List.getElem?_eq_some_iff.mp hv).1
  exact kt.pre fun t q => X.baloadBytes hx (j := j) (v := v) A.1 (State.isArrayOf_alike hZ.alike A.2.1) A.2.2 q1 (by rw [q2, ← hv, ← ev]; simp) (g := mkF m pc Ls (.int j :: .ref a :: st)) rfl rfl (hb hby hd) t q
theorem g_zaload (w : Wd p l e R s m args below meth c Z a0 n0 kb ws y bytes ml ret T L cells slots) {pc : Nat} {Ls : Array Slot} {st : List Value} {a : Addr} {vs : List Value} {j : Int32} {v : Value} (hd : decode bytes pc = .ok (.baload, 1)) (i : Nat) (hi : L[i]? = some (a, .inr (.boolean, vs))) (jn : Nat) (hj : j.toInt = (jn : Int)) (hv : vs[jn]? = some v) (pc' : Nat) (hp : pc + 1 = pc')
    (kt : Go p e below Z n0 kg E P T (mkF m pc' Ls (v :: st))) : Go p e below Z n0 kg E P T (mkF m pc Ls (.int j :: .ref a :: st)) := by
  subst hp
  obtain ⟨⟨locs, X, N⟩, H, hx, hZ, hown, hby, hml, hret, hlk, hnm, hws⟩ := w
  obtain ⟨cl, A, -, ev, hl⟩ := H.arr hi
  obtain ⟨q1, q2⟩ := inb hj ev (List.getElem?_eq_some_iff.mp hv).1
  exact kt.pre fun t q => X.baloadBooleans hx (j := j) (v := v) A.1 (State.isArrayOf_alike hZ.alike A.2.1) A.2.2 q1 (by rw [q2, ← hv, ← ev]; simp) (g := mkF m pc Ls (.int j :: .ref a :: st)) rfl rfl (hb hby hd) t q
theorem g_iastore (w : Wd p l e R s m args below meth c Z a0 n0 kb ws y bytes ml ret T L cells slots) {pc : Nat} {Ls : Array Slot} {st : List Value} {a : Addr} {vs : List Value} {j : Int32} {x : Int32} (hd : decode bytes pc = .ok (.iastore, 1)) (i : Nat) (hi : L[i]? = some (a, .inr (.int, vs))) (jn : Nat) (hj : j.toInt = (jn : Int)) (hl : jn < vs.length) (v : Value) (hv : (.int x) = v) (pc' : Nat) (hp : pc + 1 = pc')
    (kt : ∀ T', Wd p l e R s m args below meth c Z a0 n0 kb ws y bytes ml ret T' (L.set i (a, .inr (.int, vs.set jn v))) cells slots → Go p e below Z n0 kg E P T' (mkF m pc' Ls st)) : Go p e below Z n0 kg E P T (mkF m pc Ls (.int x :: .int j :: .ref a :: st)) := by
  subst hp hv
  obtain ⟨⟨locs, X, N⟩, H, hx, hZ, hown, hby, hml, hret, hlk, hnm, hws⟩ := w
  obtain ⟨cl, A, XA, ev, hL⟩ := H.arr hi
  obtain ⟨q1, q2⟩ := inb hj ev hl
  obtain ⟨T', h', X', e', W, st'⟩ := stI X hx hZ rfl A (j := j) (x := x) q1 (g := mkF m pc Ls (.int x :: .int j :: .ref a :: st)) rfl rfl (hb hby hd)
  rw [q2] at W
  refine (kt T' ⟨⟨_, X', Fr.snoc X' N (H.ge hi)⟩, ?_, hx, hZ, hown, hby, hml, hret, hlk, hnm, hws⟩).pre st'
  rw [e']
  exact H.put hi W (Is.elem A XA ev hL W)
theorem g_lastore (w : Wd p l e R s m args below meth c Z a0 n0 kb ws y bytes ml ret T L cells slots) {pc : Nat} {Ls : Array Slot} {st : List Value} {a : Addr} {vs : List Value} {j : Int32} {x : Int64} (hd : decode bytes pc = .ok (.lastore, 1)) (i : Nat) (hi : L[i]? = some (a, .inr (.long, vs))) (jn : Nat) (hj : j.toInt = (jn : Int)) (hl : jn < vs.length) (v : Value) (hv : (.long x) = v) (pc' : Nat) (hp : pc + 1 = pc')
    (kt : ∀ T', Wd p l e R s m args below meth c Z a0 n0 kb ws y bytes ml ret T' (L.set i (a, .inr (.long, vs.set jn v))) cells slots → Go p e below Z n0 kg E P T' (mkF m pc' Ls st)) : Go p e below Z n0 kg E P T (mkF m pc Ls (.long x :: .int j :: .ref a :: st)) := by
  subst hp hv
  obtain ⟨⟨locs, X, N⟩, H, hx, hZ, hown, hby, hml, hret, hlk, hnm, hws⟩ := w
  obtain ⟨cl, A, XA, ev, hL⟩ := H.arr hi
  obtain ⟨q1, q2⟩ := inb hj ev hl
  obtain ⟨T', h', X', e', W, st'⟩ := stJ X hx hZ rfl A (j := j) (x := x) q1 (g := mkF m pc Ls (.long x :: .int j :: .ref a :: st)) rfl rfl (hb hby hd)
  rw [q2] at W
  refine (kt T' ⟨⟨_, X', Fr.snoc X' N (H.ge hi)⟩, ?_, hx, hZ, hown, hby, hml, hret, hlk, hnm, hws⟩).pre st'
  rw [e']
  exact H.put hi W (Is.elem A XA ev hL W)
theorem g_castore (w : Wd p l e R s m args below meth c Z a0 n0 kb ws y bytes ml ret T L cells slots) {pc : Nat} {Ls : Array Slot} {st : List Value} {a : Addr} {vs : List Value} {j : Int32} {x : Int32} (hd : decode bytes pc = .ok (.castore, 1)) (i : Nat) (hi : L[i]? = some (a, .inr (.char, vs))) (jn : Nat) (hj : j.toInt = (jn : Int)) (hl : jn < vs.length) (v : Value) (hv : (.int (nar .char x)) = v) (pc' : Nat) (hp : pc + 1 = pc')
    (kt : ∀ T', Wd p l e R s m args below meth c Z a0 n0 kb ws y bytes ml ret T' (L.set i (a, .inr (.char, vs.set jn v))) cells slots → Go p e below Z n0 kg E P T' (mkF m pc' Ls st)) : Go p e below Z n0 kg E P T (mkF m pc Ls (.int x :: .int j :: .ref a :: st)) := by
  subst hp hv
  obtain ⟨⟨locs, X, N⟩, H, hx, hZ, hown, hby, hml, hret, hlk, hnm, hws⟩ := w
  obtain ⟨cl, A, XA, ev, hL⟩ := H.arr hi
  obtain ⟨q1, q2⟩ := inb hj ev hl
  obtain ⟨T', h', X', e', W, st'⟩ := stC X hx hZ rfl A (j := j) (x := x) q1 (g := mkF m pc Ls (.int x :: .int j :: .ref a :: st)) rfl rfl (hb hby hd)
  rw [q2] at W
  refine (kt T' ⟨⟨_, X', Fr.snoc X' N (H.ge hi)⟩, ?_, hx, hZ, hown, hby, hml, hret, hlk, hnm, hws⟩).pre st'
  rw [e']
  exact H.put hi W (Is.elem A XA ev hL W)
theorem g_bastore (w : Wd p l e R s m args below meth c Z a0 n0 kb ws y bytes ml ret T L cells slots) {pc : Nat} {Ls : Array Slot} {st : List Value} {a : Addr} {vs : List Value} {j : Int32} {x : Int32} (hd : decode bytes pc = .ok (.bastore, 1)) (i : Nat) (hi : L[i]? = some (a, .inr (.byte, vs))) (jn : Nat) (hj : j.toInt = (jn : Int)) (hl : jn < vs.length) (v : Value) (hv : (.int (nar .byte x)) = v) (pc' : Nat) (hp : pc + 1 = pc')
    (kt : ∀ T', Wd p l e R s m args below meth c Z a0 n0 kb ws y bytes ml ret T' (L.set i (a, .inr (.byte, vs.set jn v))) cells slots → Go p e below Z n0 kg E P T' (mkF m pc' Ls st)) : Go p e below Z n0 kg E P T (mkF m pc Ls (.int x :: .int j :: .ref a :: st)) := by
  subst hp hv
  obtain ⟨⟨locs, X, N⟩, H, hx, hZ, hown, hby, hml, hret, hlk, hnm, hws⟩ := w
  obtain ⟨cl, A, XA, ev, hL⟩ := H.arr hi
  obtain ⟨q1, q2⟩ := inb hj ev hl
  obtain ⟨T', h', X', e', W, st'⟩ := stB X hx hZ rfl A (j := j) (x := x) q1 (g := mkF m pc Ls (.int x :: .int j :: .ref a :: st)) rfl rfl (hb hby hd)
  rw [q2] at W
  refine (kt T' ⟨⟨_, X', Fr.snoc X' N (H.ge hi)⟩, ?_, hx, hZ, hown, hby, hml, hret, hlk, hnm, hws⟩).pre st'
  rw [e']
  exact H.put hi W (Is.elem A XA ev hL W)
theorem g_zastore (w : Wd p l e R s m args below meth c Z a0 n0 kb ws y bytes ml ret T L cells slots) {pc : Nat} {Ls : Array Slot} {st : List Value} {a : Addr} {vs : List Value} {j : Int32} {x : Int32} (hd : decode bytes pc = .ok (.bastore, 1)) (i : Nat) (hi : L[i]? = some (a, .inr (.boolean, vs))) (jn : Nat) (hj : j.toInt = (jn : Int)) (hl : jn < vs.length) (v : Value) (hv : (.int (nar .boolean x)) = v) (pc' : Nat) (hp : pc + 1 = pc')
    (kt : ∀ T', Wd p l e R s m args below meth c Z a0 n0 kb ws y bytes ml ret T' (L.set i (a, .inr (.boolean, vs.set jn v))) cells slots → Go p e below Z n0 kg E P T' (mkF m pc' Ls st)) : Go p e below Z n0 kg E P T (mkF m pc Ls (.int x :: .int j :: .ref a :: st)) := by
  subst hp hv
  obtain ⟨⟨locs, X, N⟩, H, hx, hZ, hown, hby, hml, hret, hlk, hnm, hws⟩ := w
  obtain ⟨cl, A, XA, ev, hL⟩ := H.arr hi
  obtain ⟨q1, q2⟩ := inb hj ev hl
  obtain ⟨T', h', X', e', W, st'⟩ := stZ X hx hZ rfl A (j := j) (x := x) q1 (g := mkF m pc Ls (.int x :: .int j :: .ref a :: st)) rfl rfl (hb hby hd)
  rw [q2] at W
  refine (kt T' ⟨⟨_, X', Fr.snoc X' N (H.ge hi)⟩, ?_, hx, hZ, hown, hby, hml, hret, hlk, hnm, hws⟩).pre st'
  rw [e']
  exact H.put hi W (Is.elem A XA ev hL W)
theorem g_iadd (w : Wd p l e R s m args below meth c Z a0 n0 kb ws y bytes ml ret T L cells slots) {pc : Nat} {Ls : Array Slot} {x y : Int32} {st : List Value} (hd : decode bytes pc = .ok (.iadd, 1)) (pc' : Nat) (hp : pc + 1 = pc')
    (k : Go p e below Z n0 kg E P T (mkF m pc' Ls (.int (x + y) :: st))) : Go p e below Z n0 kg E P T (mkF m pc Ls (.int y :: .int x :: st)) := by
  subst hp
  exact k.pre fun t q => XS.iadd w.here w.hx rfl (hb w.hby hd) rfl q
theorem g_isub (w : Wd p l e R s m args below meth c Z a0 n0 kb ws y bytes ml ret T L cells slots) {pc : Nat} {Ls : Array Slot} {x y : Int32} {st : List Value} (hd : decode bytes pc = .ok (.isub, 1)) (pc' : Nat) (hp : pc + 1 = pc')
    (k : Go p e below Z n0 kg E P T (mkF m pc' Ls (.int (x - y) :: st))) : Go p e below Z n0 kg E P T (mkF m pc Ls (.int y :: .int x :: st)) := by
  subst hp
  exact k.pre fun t q => XS.isub w.here w.hx rfl (hb w.hby hd) rfl q
theorem g_imul (w : Wd p l e R s m args below meth c Z a0 n0 kb ws y bytes ml ret T L cells slots) {pc : Nat} {Ls : Array Slot} {x y : Int32} {st : List Value} (hd : decode bytes pc = .ok (.imul, 1)) (pc' : Nat) (hp : pc + 1 = pc')
    (k : Go p e below Z n0 kg E P T (mkF m pc' Ls (.int (x * y) :: st))) : Go p e below Z n0 kg E P T (mkF m pc Ls (.int y :: .int x :: st)) := by
  subst hp
  exact k.pre fun t q => XS.imul w.here w.hx rfl (hb w.hby hd) rfl q
theorem g_iand (w : Wd p l e R s m args below meth c Z a0 n0 kb ws y bytes ml ret T L cells slots) {pc : Nat} {Ls : Array Slot} {x y : Int32} {st : List Value} (hd : decode bytes pc = .ok (.iand, 1)) (pc' : Nat) (hp : pc + 1 = pc')
    (k : Go p e below Z n0 kg E P T (mkF m pc' Ls (.int (x &&& y) :: st))) : Go p e below Z n0 kg E P T (mkF m pc Ls (.int y :: .int x :: st)) := by
  subst hp
  exact k.pre fun t q => XS.iand w.here w.hx rfl (hb w.hby hd) rfl q
theorem g_ior (w : Wd p l e R s m args below meth c Z a0 n0 kb ws y bytes ml ret T L cells slots) {pc : Nat} {Ls : Array Slot} {x y : Int32} {st : List Value} (hd : decode bytes pc = .ok (.ior, 1)) (pc' : Nat) (hp : pc + 1 = pc')
    (k : Go p e below Z n0 kg E P T (mkF m pc' Ls (.int (x ||| y) :: st))) : Go p e below Z n0 kg E P T (mkF m pc Ls (.int y :: .int x :: st)) := by
  subst hp
  exact k.pre fun t q => XT.ior w.here w.hx rfl (hb w.hby hd) rfl q
theorem g_ixor (w : Wd p l e R s m args below meth c Z a0 n0 kb ws y bytes ml ret T L cells slots) {pc : Nat} {Ls : Array Slot} {x y : Int32} {st : List Value} (hd : decode bytes pc = .ok (.ixor, 1)) (pc' : Nat) (hp : pc + 1 = pc')
    (k : Go p e below Z n0 kg E P T (mkF m pc' Ls (.int (x ^^^ y) :: st))) : Go p e below Z n0 kg E P T (mkF m pc Ls (.int y :: .int x :: st)) := by
  subst hp
  exact k.pre fun t q => XT.ixor w.here w.hx rfl (hb w.hby hd) rfl q
theorem g_ishl (w : Wd p l e R s m args below meth c Z a0 n0 kb ws y bytes ml ret T L cells slots) {pc : Nat} {Ls : Array Slot} {x y : Int32} {st : List Value} (hd : decode bytes pc = .ok (.ishl, 1)) (pc' : Nat) (hp : pc + 1 = pc')
    (k : Go p e below Z n0 kg E P T (mkF m pc' Ls (.int (x <<< (y &&& 31)) :: st))) : Go p e below Z n0 kg E P T (mkF m pc Ls (.int y :: .int x :: st)) := by
  subst hp
  exact k.pre fun t q => XS.ishl w.here w.hx rfl (hb w.hby hd) rfl q
theorem g_ishr (w : Wd p l e R s m args below meth c Z a0 n0 kb ws y bytes ml ret T L cells slots) {pc : Nat} {Ls : Array Slot} {x y : Int32} {st : List Value} (hd : decode bytes pc = .ok (.ishr, 1)) (pc' : Nat) (hp : pc + 1 = pc')
    (k : Go p e below Z n0 kg E P T (mkF m pc' Ls (.int (x >>> (y &&& 31)) :: st))) : Go p e below Z n0 kg E P T (mkF m pc Ls (.int y :: .int x :: st)) := by
  subst hp
  exact k.pre fun t q => XS.ishr w.here w.hx rfl (hb w.hby hd) rfl q
theorem g_iushr (w : Wd p l e R s m args below meth c Z a0 n0 kb ws y bytes ml ret T L cells slots) {pc : Nat} {Ls : Array Slot} {x y : Int32} {st : List Value} (hd : decode bytes pc = .ok (.iushr, 1)) (pc' : Nat) (hp : pc + 1 = pc')
    (k : Go p e below Z n0 kg E P T (mkF m pc' Ls (.int (ushrI x y) :: st))) : Go p e below Z n0 kg E P T (mkF m pc Ls (.int y :: .int x :: st)) := by
  subst hp
  exact k.pre fun t q => XS.iushr w.here w.hx rfl (hb w.hby hd) rfl q
theorem g_ladd (w : Wd p l e R s m args below meth c Z a0 n0 kb ws y bytes ml ret T L cells slots) {pc : Nat} {Ls : Array Slot} {x y : Int64} {st : List Value} (hd : decode bytes pc = .ok (.ladd, 1)) (pc' : Nat) (hp : pc + 1 = pc')
    (k : Go p e below Z n0 kg E P T (mkF m pc' Ls (.long (x + y) :: st))) : Go p e below Z n0 kg E P T (mkF m pc Ls (.long y :: .long x :: st)) := by
  subst hp
  exact k.pre fun t q => XT.ladd w.here w.hx rfl (hb w.hby hd) rfl q
theorem g_lsub (w : Wd p l e R s m args below meth c Z a0 n0 kb ws y bytes ml ret T L cells slots) {pc : Nat} {Ls : Array Slot} {x y : Int64} {st : List Value} (hd : decode bytes pc = .ok (.lsub, 1)) (pc' : Nat) (hp : pc + 1 = pc')
    (k : Go p e below Z n0 kg E P T (mkF m pc' Ls (.long (x - y) :: st))) : Go p e below Z n0 kg E P T (mkF m pc Ls (.long y :: .long x :: st)) := by
  subst hp
  exact k.pre fun t q => XT.lsub w.here w.hx rfl (hb w.hby hd) rfl q
theorem g_lmul (w : Wd p l e R s m args below meth c Z a0 n0 kb ws y bytes ml ret T L cells slots) {pc : Nat} {Ls : Array Slot} {x y : Int64} {st : List Value} (hd : decode bytes pc = .ok (.lmul, 1)) (pc' : Nat) (hp : pc + 1 = pc')
    (k : Go p e below Z n0 kg E P T (mkF m pc' Ls (.long (x * y) :: st))) : Go p e below Z n0 kg E P T (mkF m pc Ls (.long y :: .long x :: st)) := by
  subst hp
  exact k.pre fun t q => XT.lmul w.here w.hx rfl (hb w.hby hd) rfl q
theorem g_land (w : Wd p l e R s m args below meth c Z a0 n0 kb ws y bytes ml ret T L cells slots) {pc : Nat} {Ls : Array Slot} {x y : Int64} {st : List Value} (hd : decode bytes pc = .ok (.land, 1)) (pc' : Nat) (hp : pc + 1 = pc')
    (k : Go p e below Z n0 kg E P T (mkF m pc' Ls (.long (x &&& y) :: st))) : Go p e below Z n0 kg E P T (mkF m pc Ls (.long y :: .long x :: st)) := by
  subst hp
  exact k.pre fun t q => XT.land w.here w.hx rfl (hb w.hby hd) rfl q
theorem g_lor (w : Wd p l e R s m args below meth c Z a0 n0 kb ws y bytes ml ret T L cells slots) {pc : Nat} {Ls : Array Slot} {x y : Int64} {st : List Value} (hd : decode bytes pc = .ok (.lor, 1)) (pc' : Nat) (hp : pc + 1 = pc')
    (k : Go p e below Z n0 kg E P T (mkF m pc' Ls (.long (x ||| y) :: st))) : Go p e below Z n0 kg E P T (mkF m pc Ls (.long y :: .long x :: st)) := by
  subst hp
  exact k.pre fun t q => XT.lor w.here w.hx rfl (hb w.hby hd) rfl q
theorem g_lxor (w : Wd p l e R s m args below meth c Z a0 n0 kb ws y bytes ml ret T L cells slots) {pc : Nat} {Ls : Array Slot} {x y : Int64} {st : List Value} (hd : decode bytes pc = .ok (.lxor, 1)) (pc' : Nat) (hp : pc + 1 = pc')
    (k : Go p e below Z n0 kg E P T (mkF m pc' Ls (.long (x ^^^ y) :: st))) : Go p e below Z n0 kg E P T (mkF m pc Ls (.long y :: .long x :: st)) := by
  subst hp
  exact k.pre fun t q => XT.lxor w.here w.hx rfl (hb w.hby hd) rfl q
theorem g_lshl (w : Wd p l e R s m args below meth c Z a0 n0 kb ws y bytes ml ret T L cells slots) {pc : Nat} {Ls : Array Slot} {x : Int64} {y : Int32} {st : List Value} (hd : decode bytes pc = .ok (.lshl, 1)) (pc' : Nat) (hp : pc + 1 = pc')
    (k : Go p e below Z n0 kg E P T (mkF m pc' Ls (.long (shlL x y) :: st))) : Go p e below Z n0 kg E P T (mkF m pc Ls (.int y :: .long x :: st)) := by
  subst hp
  exact k.pre fun t q => XS.lshl w.here w.hx rfl (hb w.hby hd) rfl q
theorem g_lshr (w : Wd p l e R s m args below meth c Z a0 n0 kb ws y bytes ml ret T L cells slots) {pc : Nat} {Ls : Array Slot} {x : Int64} {y : Int32} {st : List Value} (hd : decode bytes pc = .ok (.lshr, 1)) (pc' : Nat) (hp : pc + 1 = pc')
    (k : Go p e below Z n0 kg E P T (mkF m pc' Ls (.long (shrL x y) :: st))) : Go p e below Z n0 kg E P T (mkF m pc Ls (.int y :: .long x :: st)) := by
  subst hp
  exact k.pre fun t q => XS.lshr w.here w.hx rfl (hb w.hby hd) rfl q
theorem g_lushr (w : Wd p l e R s m args below meth c Z a0 n0 kb ws y bytes ml ret T L cells slots) {pc : Nat} {Ls : Array Slot} {x : Int64} {y : Int32} {st : List Value} (hd : decode bytes pc = .ok (.lushr, 1)) (pc' : Nat) (hp : pc + 1 = pc')
    (k : Go p e below Z n0 kg E P T (mkF m pc' Ls (.long (ushrL x y) :: st))) : Go p e below Z n0 kg E P T (mkF m pc Ls (.int y :: .long x :: st)) := by
  subst hp
  exact k.pre fun t q => XS.lushr w.here w.hx rfl (hb w.hby hd) rfl q
theorem g_lcmp (w : Wd p l e R s m args below meth c Z a0 n0 kb ws y bytes ml ret T L cells slots) {pc : Nat} {Ls : Array Slot} {x y : Int64} {st : List Value} (hd : decode bytes pc = .ok (.lcmp, 1)) (pc' : Nat) (hp : pc + 1 = pc')
    (k : Go p e below Z n0 kg E P T (mkF m pc' Ls (.int (XT.cmpL x y) :: st))) : Go p e below Z n0 kg E P T (mkF m pc Ls (.long y :: .long x :: st)) := by
  subst hp
  exact k.pre fun t q => XT.lcmp w.here w.hx rfl (hb w.hby hd) rfl q
theorem g_idiv (w : Wd p l e R s m args below meth c Z a0 n0 kb ws y bytes ml ret T L cells slots) {pc : Nat} {Ls : Array Slot} {x y : Int32} {st : List Value} (hd : decode bytes pc = .ok (.idiv, 1)) (hy : y ≠ 0) (pc' : Nat) (hp : pc + 1 = pc')
    (k : Go p e below Z n0 kg E P T (mkF m pc' Ls (.int (x / y) :: st))) : Go p e below Z n0 kg E P T (mkF m pc Ls (.int y :: .int x :: st)) := by
  subst hp
  exact k.pre fun t q => XS.idiv w.here w.hx rfl (hb w.hby hd) rfl hy q
theorem g_ldiv (w : Wd p l e R s m args below meth c Z a0 n0 kb ws y bytes ml ret T L cells slots) {pc : Nat} {Ls : Array Slot} {x y : Int64} {st : List Value} (hd : decode bytes pc = .ok (.ldiv, 1)) (hy : y ≠ 0) (pc' : Nat) (hp : pc + 1 = pc')
    (k : Go p e below Z n0 kg E P T (mkF m pc' Ls (.long (x / y) :: st))) : Go p e below Z n0 kg E P T (mkF m pc Ls (.long y :: .long x :: st)) := by
  subst hp
  exact k.pre fun t q => XT.ldiv w.here w.hx rfl (hb w.hby hd) rfl hy q
theorem g_irem (w : Wd p l e R s m args below meth c Z a0 n0 kb ws y bytes ml ret T L cells slots) {pc : Nat} {Ls : Array Slot} {x y : Int32} {st : List Value} (hd : decode bytes pc = .ok (.irem, 1)) (hy : y ≠ 0) (pc' : Nat) (hp : pc + 1 = pc')
    (k : Go p e below Z n0 kg E P T (mkF m pc' Ls (.int (x % y) :: st))) : Go p e below Z n0 kg E P T (mkF m pc Ls (.int y :: .int x :: st)) := by
  subst hp
  exact k.pre fun t q => XS.irem w.here w.hx rfl (hb w.hby hd) rfl hy (by rw [irem_eq_mod]; exact q)
theorem g_lrem (w : Wd p l e R s m args below meth c Z a0 n0 kb ws y bytes ml ret T L cells slots) {pc : Nat} {Ls : Array Slot} {x y : Int64} {st : List Value} (hd : decode bytes pc = .ok (.lrem, 1)) (hy : y ≠ 0) (pc' : Nat) (hp : pc + 1 = pc')
    (k : Go p e below Z n0 kg E P T (mkF m pc' Ls (.long (x % y) :: st))) : Go p e below Z n0 kg E P T (mkF m pc Ls (.long y :: .long x :: st)) := by
  subst hp
  exact k.pre fun t q => XT.lrem w.here w.hx rfl (hb w.hby hd) rfl hy (by rw [lrem_mod]; exact q)
theorem g_ineg (w : Wd p l e R s m args below meth c Z a0 n0 kb ws y bytes ml ret T L cells slots) {pc : Nat} {Ls : Array Slot} {x : Int32} {st : List Value} (hd : decode bytes pc = .ok (.ineg, 1)) (pc' : Nat) (hp : pc + 1 = pc')
    (k : Go p e below Z n0 kg E P T (mkF m pc' Ls (.int (-x) :: st))) : Go p e below Z n0 kg E P T (mkF m pc Ls (.int x :: st)) := by
  subst hp
  exact k.pre fun t q => XS.ineg w.here w.hx rfl (hb w.hby hd) rfl q
theorem g_lneg (w : Wd p l e R s m args below meth c Z a0 n0 kb ws y bytes ml ret T L cells slots) {pc : Nat} {Ls : Array Slot} {x : Int64} {st : List Value} (hd : decode bytes pc = .ok (.lneg, 1)) (pc' : Nat) (hp : pc + 1 = pc')
    (k : Go p e below Z n0 kg E P T (mkF m pc' Ls (.long (-x) :: st))) : Go p e below Z n0 kg E P T (mkF m pc Ls (.long x :: st)) := by
  subst hp
  exact k.pre fun t q => XT.lneg w.here w.hx rfl (hb w.hby hd) rfl q
theorem g_i2l (w : Wd p l e R s m args below meth c Z a0 n0 kb ws y bytes ml ret T L cells slots) {pc : Nat} {Ls : Array Slot} {x : Int32} {st : List Value} (hd : decode bytes pc = .ok (.i2l, 1)) (pc' : Nat) (hp : pc + 1 = pc')
    (k : Go p e below Z n0 kg E P T (mkF m pc' Ls (.long (x.toInt64) :: st))) : Go p e below Z n0 kg E P T (mkF m pc Ls (.int x :: st)) := by
  subst hp
  exact k.pre fun t q => XT.i2l w.here w.hx rfl (hb w.hby hd) rfl q
theorem g_l2i (w : Wd p l e R s m args below meth c Z a0 n0 kb ws y bytes ml ret T L cells slots) {pc : Nat} {Ls : Array Slot} {x : Int64} {st : List Value} (hd : decode bytes pc = .ok (.l2i, 1)) (pc' : Nat) (hp : pc + 1 = pc')
    (k : Go p e below Z n0 kg E P T (mkF m pc' Ls (.int (x.toInt32) :: st))) : Go p e below Z n0 kg E P T (mkF m pc Ls (.long x :: st)) := by
  subst hp
  exact k.pre fun t q => XT.l2i w.here w.hx rfl (hb w.hby hd) rfl q
theorem g_i2b (w : Wd p l e R s m args below meth c Z a0 n0 kb ws y bytes ml ret T L cells slots) {pc : Nat} {Ls : Array Slot} {x : Int32} {st : List Value} (hd : decode bytes pc = .ok (.i2b, 1)) (pc' : Nat) (hp : pc + 1 = pc')
    (k : Go p e below Z n0 kg E P T (mkF m pc' Ls (.int (x.toInt8.toInt32) :: st))) : Go p e below Z n0 kg E P T (mkF m pc Ls (.int x :: st)) := by
  subst hp
  exact k.pre fun t q => XT.i2b w.here w.hx rfl (hb w.hby hd) rfl q
theorem g_i2c (w : Wd p l e R s m args below meth c Z a0 n0 kb ws y bytes ml ret T L cells slots) {pc : Nat} {Ls : Array Slot} {x : Int32} {st : List Value} (hd : decode bytes pc = .ok (.i2c, 1)) (pc' : Nat) (hp : pc + 1 = pc')
    (k : Go p e below Z n0 kg E P T (mkF m pc' Ls (.int (x.toUInt32.toUInt16.toUInt32.toInt32) :: st))) : Go p e below Z n0 kg E P T (mkF m pc Ls (.int x :: st)) := by
  subst hp
  exact k.pre fun t q => XT.i2c w.here w.hx rfl (hb w.hby hd) rfl q
theorem g_i2s (w : Wd p l e R s m args below meth c Z a0 n0 kb ws y bytes ml ret T L cells slots) {pc : Nat} {Ls : Array Slot} {x : Int32} {st : List Value} (hd : decode bytes pc = .ok (.i2s, 1)) (pc' : Nat) (hp : pc + 1 = pc')
    (k : Go p e below Z n0 kg E P T (mkF m pc' Ls (.int (x.toInt16.toInt32) :: st))) : Go p e below Z n0 kg E P T (mkF m pc Ls (.int x :: st)) := by
  subst hp
  exact k.pre fun t q => XT.i2s w.here w.hx rfl (hb w.hby hd) rfl q
theorem g_iload (w : Wd p l e R s m args below meth c Z a0 n0 kb ws y bytes ml ret T L cells slots) {pc : Nat} {Ls : Array Slot} {i : Nat} {v : Int32} {st : List Value} (hd : decode bytes pc = .ok (.iload i, 2)) (hl : Ls[i]? = some (.val (.int v))) (pc' : Nat) (hp : pc + 2 = pc')
    (k : Go p e below Z n0 kg E P T (mkF m pc' Ls (.int v :: st))) : Go p e below Z n0 kg E P T (mkF m pc Ls (st)) := by
  subst hp
  exact k.pre fun t q => XS.iload w.here w.hx rfl (hb w.hby hd) hl q
theorem g_iloadN (w : Wd p l e R s m args below meth c Z a0 n0 kb ws y bytes ml ret T L cells slots) {pc : Nat} {Ls : Array Slot} {i : Fin 4} {v : Int32} {st : List Value} (hd : decode bytes pc = .ok (.iload_n i, 1)) (hl : Ls[i.val]? = some (.val (.int v))) (pc' : Nat) (hp : pc + 1 = pc')
    (k : Go p e below Z n0 kg E P T (mkF m pc' Ls (.int v :: st))) : Go p e below Z n0 kg E P T (mkF m pc Ls (st)) := by
  subst hp
  exact k.pre fun t q => XS.iloadN w.here w.hx rfl (hb w.hby hd) hl q
theorem g_lload (w : Wd p l e R s m args below meth c Z a0 n0 kb ws y bytes ml ret T L cells slots) {pc : Nat} {Ls : Array Slot} {i : Nat} {v : Int64} {st : List Value} (hd : decode bytes pc = .ok (.lload i, 2)) (hl : Ls[i]? = some (.val (.long v))) (pc' : Nat) (hp : pc + 2 = pc')
    (k : Go p e below Z n0 kg E P T (mkF m pc' Ls (.long v :: st))) : Go p e below Z n0 kg E P T (mkF m pc Ls (st)) := by
  subst hp
  exact k.pre fun t q => XT.lload w.here w.hx rfl (hb w.hby hd) hl q
theorem g_lloadN (w : Wd p l e R s m args below meth c Z a0 n0 kb ws y bytes ml ret T L cells slots) {pc : Nat} {Ls : Array Slot} {i : Fin 4} {v : Int64} {st : List Value} (hd : decode bytes pc = .ok (.lload_n i, 1)) (hl : Ls[i.val]? = some (.val (.long v))) (pc' : Nat) (hp : pc + 1 = pc')
    (k : Go p e below Z n0 kg E P T (mkF m pc' Ls (.long v :: st))) : Go p e below Z n0 kg E P T (mkF m pc Ls (st)) := by
  subst hp
  exact k.pre fun t q => XT.lloadN w.here w.hx rfl (hb w.hby hd) hl q
theorem g_aload (w : Wd p l e R s m args below meth c Z a0 n0 kb ws y bytes ml ret T L cells slots) {pc : Nat} {Ls : Array Slot} {i : Nat} {v : Value} {st : List Value} (hd : decode bytes pc = .ok (.aload i, 2)) (hl : Ls[i]? = some (.val v)) (hv : v.isRef = true) (pc' : Nat) (hp : pc + 2 = pc')
    (k : Go p e below Z n0 kg E P T (mkF m pc' Ls (v :: st))) : Go p e below Z n0 kg E P T (mkF m pc Ls (st)) := by
  subst hp
  exact k.pre fun t q => XS.aload w.here w.hx rfl (hb w.hby hd) hl hv q
theorem g_aloadN (w : Wd p l e R s m args below meth c Z a0 n0 kb ws y bytes ml ret T L cells slots) {pc : Nat} {Ls : Array Slot} {i : Fin 4} {v : Value} {st : List Value} (hd : decode bytes pc = .ok (.aload_n i, 1)) (hl : Ls[i.val]? = some (.val v)) (hv : v.isRef = true) (pc' : Nat) (hp : pc + 1 = pc')
    (k : Go p e below Z n0 kg E P T (mkF m pc' Ls (v :: st))) : Go p e below Z n0 kg E P T (mkF m pc Ls (st)) := by
  subst hp
  exact k.pre fun t q => XS.aloadN w.here w.hx rfl (hb w.hby hd) hl hv q
theorem g_iconst (w : Wd p l e R s m args below meth c Z a0 n0 kb ws y bytes ml ret T L cells slots) {pc : Nat} {Ls : Array Slot} {i : Int} {st : List Value} (hd : decode bytes pc = .ok (.iconst i, 1)) (z : Int32) (hz : Int32.ofInt i = z) (pc' : Nat) (hp : pc + 1 = pc')
    (k : Go p e below Z n0 kg E P T (mkF m pc' Ls (.int z :: st))) : Go p e below Z n0 kg E P T (mkF m pc Ls (st)) := by
  subst hp
  exact k.pre fun t q => XS.iconst w.here w.hx rfl (hb w.hby hd) (by rw [hz]; exact q)
theorem g_bipush (w : Wd p l e R s m args below meth c Z a0 n0 kb ws y bytes ml ret T L cells slots) {pc : Nat} {Ls : Array Slot} {i : Int} {st : List Value} (hd : decode bytes pc = .ok (.bipush i, 2)) (z : Int32) (hz : (Int8.ofInt i).toInt32 = z) (pc' : Nat) (hp : pc + 2 = pc')
    (k : Go p e below Z n0 kg E P T (mkF m pc' Ls (.int z :: st))) : Go p e below Z n0 kg E P T (mkF m pc Ls (st)) := by
  subst hp
  exact k.pre fun t q => XS.bipush w.here w.hx rfl (hb w.hby hd) (by rw [hz]; exact q)
theorem g_sipush (w : Wd p l e R s m args below meth c Z a0 n0 kb ws y bytes ml ret T L cells slots) {pc : Nat} {Ls : Array Slot} {i : Int} {st : List Value} (hd : decode bytes pc = .ok (.sipush i, 3)) (z : Int32) (hz : (Int16.ofInt i).toInt32 = z) (pc' : Nat) (hp : pc + 3 = pc')
    (k : Go p e below Z n0 kg E P T (mkF m pc' Ls (.int z :: st))) : Go p e below Z n0 kg E P T (mkF m pc Ls (st)) := by
  subst hp
  exact k.pre fun t q => XS.sipush w.here w.hx rfl (hb w.hby hd) (by rw [hz]; exact q)
theorem g_lconst (w : Wd p l e R s m args below meth c Z a0 n0 kb ws y bytes ml ret T L cells slots) {pc : Nat} {Ls : Array Slot} {i : Fin 2} {st : List Value} (hd : decode bytes pc = .ok (.lconst i, 1)) (z : Int64) (hz : Int64.ofNat i = z) (pc' : Nat) (hp : pc + 1 = pc')
    (k : Go p e below Z n0 kg E P T (mkF m pc' Ls (.long z :: st))) : Go p e below Z n0 kg E P T (mkF m pc Ls (st)) := by
  subst hp
  exact k.pre fun t q => XT.lconst w.here w.hx rfl (hb w.hby hd) (by rw [hz]; exact q)
theorem g_anull (w : Wd p l e R s m args below meth c Z a0 n0 kb ws y bytes ml ret T L cells slots) {pc : Nat} {Ls : Array Slot} {st : List Value} (hd : decode bytes pc = .ok (.aconst_null, 1)) (pc' : Nat) (hp : pc + 1 = pc')
    (k : Go p e below Z n0 kg E P T (mkF m pc' Ls (.null :: st))) : Go p e below Z n0 kg E P T (mkF m pc Ls (st)) := by
  subst hp
  exact k.pre fun t q => XS.aconstNull w.here w.hx rfl (hb w.hby hd) q
theorem g_dup (w : Wd p l e R s m args below meth c Z a0 n0 kb ws y bytes ml ret T L cells slots) {pc : Nat} {Ls : Array Slot} {x : Value} {st : List Value} (hd : decode bytes pc = .ok (.dup, 1)) (hc : x.category = 1) (pc' : Nat) (hp : pc + 1 = pc')
    (k : Go p e below Z n0 kg E P T (mkF m pc' Ls (x :: x :: st))) : Go p e below Z n0 kg E P T (mkF m pc Ls (x :: st)) := by
  subst hp
  exact k.pre fun t q => XS.dup w.here w.hx rfl (hb w.hby hd) rfl hc q
theorem g_pop (w : Wd p l e R s m args below meth c Z a0 n0 kb ws y bytes ml ret T L cells slots) {pc : Nat} {Ls : Array Slot} {x : Value} {st : List Value} (hd : decode bytes pc = .ok (.pop, 1)) (hc : x.category = 1) (pc' : Nat) (hp : pc + 1 = pc')
    (k : Go p e below Z n0 kg E P T (mkF m pc' Ls (st))) : Go p e below Z n0 kg E P T (mkF m pc Ls (x :: st)) := by
  subst hp
  exact k.pre fun t q => XT.pop w.here w.hx rfl (hb w.hby hd) rfl hc q
theorem g_dup_x1 (w : Wd p l e R s m args below meth c Z a0 n0 kb ws y bytes ml ret T L cells slots) {pc : Nat} {Ls : Array Slot} {x x' : Value} {st : List Value} (hd : decode bytes pc = .ok (.dup_x1, 1)) (hc : x.category = 1) (hc' : x'.category = 1) (pc' : Nat) (hp : pc + 1 = pc')
    (k : Go p e below Z n0 kg E P T (mkF m pc' Ls (x :: x' :: x :: st))) : Go p e below Z n0 kg E P T (mkF m pc Ls (x :: x' :: st)) := by
  subst hp
  exact k.pre fun t q => XT.dupX1 w.here w.hx rfl (hb w.hby hd) rfl hc hc' q
theorem g_dup2 (w : Wd p l e R s m args below meth c Z a0 n0 kb ws y bytes ml ret T L cells slots) {pc : Nat} {Ls : Array Slot} {x x' : Value} {st : List Value} (hd : decode bytes pc = .ok (.dup2, 1)) (hc : x.category = 1) (hc' : x'.category = 1) (pc' : Nat) (hp : pc + 1 = pc')
    (k : Go p e below Z n0 kg E P T (mkF m pc' Ls (x :: x' :: x :: x' :: st))) : Go p e below Z n0 kg E P T (mkF m pc Ls (x :: x' :: st)) := by
  subst hp
  exact k.pre fun t q => XT.dup2 w.here w.hx rfl (hb w.hby hd) rfl hc hc' q
theorem g_istore (w : Wd p l e R s m args below meth c Z a0 n0 kb ws y bytes ml ret T L cells slots) {pc : Nat} {Ls : Array Slot} {i : Nat} {x x' : Int32} {st : List Value} (hd : decode bytes pc = .ok (.istore i, 2)) (pc' : Nat) (hp : pc + 2 = pc') (e1 : x = x') (Ls' : Array Slot) (hl : storeLocals Ls i (.int x') = some Ls')
    (k : Go p e below Z n0 kg E P T (mkF m pc' Ls' st)) : Go p e below Z n0 kg E P T (mkF m pc Ls (.int x :: st)) := by
  subst hp e1
  exact k.pre fun t q => XS.istore w.here w.hx rfl (hb w.hby hd) rfl hl q
theorem g_istoreN (w : Wd p l e R s m args below meth c Z a0 n0 kb ws y bytes ml ret T L cells slots) {pc : Nat} {Ls : Array Slot} {i : Fin 4} {x x' : Int32} {st : List Value} (hd : decode bytes pc = .ok (.istore_n i, 1)) (pc' : Nat) (hp : pc + 1 = pc') (e1 : x = x') (Ls' : Array Slot) (hl : storeLocals Ls i.val (.int x') = some Ls')
    (k : Go p e below Z n0 kg E P T (mkF m pc' Ls' st)) : Go p e below Z n0 kg E P T (mkF m pc Ls (.int x :: st)) := by
  subst hp e1
  exact k.pre fun t q => XS.istoreN w.here w.hx rfl (hb w.hby hd) rfl hl q
theorem g_lstore (w : Wd p l e R s m args below meth c Z a0 n0 kb ws y bytes ml ret T L cells slots) {pc : Nat} {Ls : Array Slot} {i : Nat} {x x' : Int64} {st : List Value} (hd : decode bytes pc = .ok (.lstore i, 2)) (pc' : Nat) (hp : pc + 2 = pc') (e1 : x = x') (Ls' : Array Slot) (hl : storeLocals Ls i (.long x') = some Ls')
    (k : Go p e below Z n0 kg E P T (mkF m pc' Ls' st)) : Go p e below Z n0 kg E P T (mkF m pc Ls (.long x :: st)) := by
  subst hp e1
  exact k.pre fun t q => XT.lstore w.here w.hx rfl (hb w.hby hd) rfl hl q
theorem g_lstoreN (w : Wd p l e R s m args below meth c Z a0 n0 kb ws y bytes ml ret T L cells slots) {pc : Nat} {Ls : Array Slot} {i : Fin 4} {x x' : Int64} {st : List Value} (hd : decode bytes pc = .ok (.lstore_n i, 1)) (pc' : Nat) (hp : pc + 1 = pc') (e1 : x = x') (Ls' : Array Slot) (hl : storeLocals Ls i.val (.long x') = some Ls')
    (k : Go p e below Z n0 kg E P T (mkF m pc' Ls' st)) : Go p e below Z n0 kg E P T (mkF m pc Ls (.long x :: st)) := by
  subst hp e1
  exact k.pre fun t q => XT.lstoreN w.here w.hx rfl (hb w.hby hd) rfl hl q
theorem g_astore (w : Wd p l e R s m args below meth c Z a0 n0 kb ws y bytes ml ret T L cells slots) {pc : Nat} {Ls : Array Slot} {i : Nat} {x : Value} {st : List Value} (hd : decode bytes pc = .ok (.astore i, 2)) (pc' : Nat) (hp : pc + 2 = pc') (hv : x.isRef = true) (Ls' : Array Slot) (hl : storeLocals Ls i x = some Ls')
    (k : Go p e below Z n0 kg E P T (mkF m pc' Ls' st)) : Go p e below Z n0 kg E P T (mkF m pc Ls (x :: st)) := by
  subst hp
  exact k.pre fun t q => XS.astore w.here w.hx rfl (hb w.hby hd) rfl hv hl q
theorem g_astoreN (w : Wd p l e R s m args below meth c Z a0 n0 kb ws y bytes ml ret T L cells slots) {pc : Nat} {Ls : Array Slot} {i : Fin 4} {x : Value} {st : List Value} (hd : decode bytes pc = .ok (.astore_n i, 1)) (pc' : Nat) (hp : pc + 1 = pc') (hv : x.isRef = true) (Ls' : Array Slot) (hl : storeLocals Ls i.val x = some Ls')
    (k : Go p e below Z n0 kg E P T (mkF m pc' Ls' st)) : Go p e below Z n0 kg E P T (mkF m pc Ls (x :: st)) := by
  subst hp
  exact k.pre fun t q => XS.astoreN w.here w.hx rfl (hb w.hby hd) rfl hv hl q
theorem g_iinc (w : Wd p l e R s m args below meth c Z a0 n0 kb ws y bytes ml ret T L cells slots) {pc : Nat} {Ls : Array Slot} {i : Nat} {cst : Int} {x x' : Int32} {st : List Value} (hd : decode bytes pc = .ok (.iinc i cst, 3)) (pc' : Nat) (hp : pc + 3 = pc') (hl0 : Ls[i]? = some (.val (.int x))) (e1 : x + Int32.ofInt cst = x') (Ls' : Array Slot) (hl : storeLocals Ls i (.int x') = some Ls')
    (k : Go p e below Z n0 kg E P T (mkF m pc' Ls' st)) : Go p e below Z n0 kg E P T (mkF m pc Ls st) := by
  subst hp e1
  exact k.pre fun t q => XS.iinc w.here w.hx rfl (hb w.hby hd) hl0 hl q
theorem g_goto (w : Wd p l e R s m args below meth c Z a0 n0 kb ws y bytes ml ret T L cells slots) {pc : Nat} {Ls : Array Slot} {o : Int} {st : List Value} (hd : decode bytes pc = .ok (.goto o, 3)) (pc' : Nat) (ho : 0 ≤ (pc : Int) + o) (hp : ((pc : Int) + o).toNat = pc')
    (k : Go p e below Z n0 kg E P T (mkF m pc' Ls st)) : Go p e below Z n0 kg E P T (mkF m pc Ls st) := k.pre fun t q => XS.goto w.here w.hx rfl rfl (hb w.hby hd) ho hp q
theorem g_icmp_eq (w : Wd p l e R s m args below meth c Z a0 n0 kb ws y bytes ml ret T L cells slots) {pc : Nat} {Ls : Array Slot} {x y' : Int32} {o : Int} {st : List Value} (hd : decode bytes pc = .ok (.if_icmp .eq o, 3)) (pcT : Nat) (ho : 0 ≤ (pc : Int) + o) (hT : ((pc : Int) + o).toNat = pcT) (pcF : Nat) (hF : pc + 3 = pcF)
    (k1 : x = y' → Go p e below Z n0 kg E P T (mkF m pcT Ls st)) (k2 : ¬ x = y' → Go p e below Z n0 kg E P T (mkF m pcF Ls st)) : Go p e below Z n0 kg E P T (mkF m pc Ls (.int y' :: .int x :: st)) := by
  subst hF
  by_cases h : x = y'
  · exact (k1 h).pre fun t q => XS.icmpYes w.here w.hx rfl rfl (hb w.hby hd) rfl (XT.ii_eq_t h) ho hT q
  · exact (k2 h).pre fun t q => XS.icmpNo w.here w.hx rfl (hb w.hby hd) rfl (XT.ii_eq_f h) q
theorem g_if_eq (w : Wd p l e R s m args below meth c Z a0 n0 kb ws y bytes ml ret T L cells slots) {pc : Nat} {Ls : Array Slot} {x : Int32} {o : Int} {st : List Value} (hd : decode bytes pc = .ok (.ifCond .eq o, 3)) (pcT : Nat) (ho : 0 ≤ (pc : Int) + o) (hT : ((pc : Int) + o).toNat = pcT) (pcF : Nat) (hF : pc + 3 = pcF)
    (k1 : x = 0 → Go p e below Z n0 kg E P T (mkF m pcT Ls st)) (k2 : ¬ x = 0 → Go p e below Z n0 kg E P T (mkF m pcF Ls st)) : Go p e below Z n0 kg E P T (mkF m pc Ls (.int x :: st)) := by
  subst hF
  by_cases h : x = 0
  · exact (k1 h).pre fun t q => XS.ifYes w.here w.hx rfl rfl (hb w.hby hd) rfl (XT.i0_eq_t h) ho hT q
  · exact (k2 h).pre fun t q => XS.ifNo w.here w.hx rfl (hb w.hby hd) rfl (XT.i0_eq_f h) q
theorem g_lif_eq (w : Wd p l e R s m args below meth c Z a0 n0 kb ws y bytes ml ret T L cells slots) {pc : Nat} {Ls : Array Slot} {x y' : Int64} {o : Int} {st : List Value} (hd : decode bytes pc = .ok (.ifCond .eq o, 3)) (pcT : Nat) (ho : 0 ≤ (pc : Int) + o) (hT : ((pc : Int) + o).toNat = pcT) (pcF : Nat) (hF : pc + 3 = pcF)
    (k1 : x = y' → Go p e below Z n0 kg E P T (mkF m pcT Ls st)) (k2 : ¬ x = y' → Go p e below Z n0 kg E P T (mkF m pcF Ls st)) : Go p e below Z n0 kg E P T (mkF m pc Ls (.int (XT.cmpL x y') :: st)) := by
  subst hF
  by_cases h : x = y'
  · exact (k1 h).pre fun t q => XS.ifYes w.here w.hx rfl rfl (hb w.hby hd) rfl (XT.ll_eq_t h) ho hT q
  · exact (k2 h).pre fun t q => XS.ifNo w.here w.hx rfl (hb w.hby hd) rfl (XT.ll_eq_f h) q
theorem g_icmp_ne (w : Wd p l e R s m args below meth c Z a0 n0 kb ws y bytes ml ret T L cells slots) {pc : Nat} {Ls : Array Slot} {x y' : Int32} {o : Int} {st : List Value} (hd : decode bytes pc = .ok (.if_icmp .ne o, 3)) (pcT : Nat) (ho : 0 ≤ (pc : Int) + o) (hT : ((pc : Int) + o).toNat = pcT) (pcF : Nat) (hF : pc + 3 = pcF)
    (k1 : ¬ x = y' → Go p e below Z n0 kg E P T (mkF m pcT Ls st)) (k2 : x = y' → Go p e below Z n0 kg E P T (mkF m pcF Ls st)) : Go p e below Z n0 kg E P T (mkF m pc Ls (.int y' :: .int x :: st)) := by
  subst hF
  by_cases h : x = y'
  · exact (k2 h).pre fun t q => XS.icmpNo w.here w.hx rfl (hb w.hby hd) rfl (XT.ii_ne_f h) q
  · exact (k1 h).pre fun t q => XS.icmpYes w.here w.hx rfl rfl (hb w.hby hd) rfl (XT.ii_ne_t h) ho hT q
theorem g_if_ne (w : Wd p l e R s m args below meth c Z a0 n0 kb ws y bytes ml ret T L cells slots) {pc : Nat} {Ls : Array Slot} {x : Int32} {o : Int} {st : List Value} (hd : decode bytes pc = .ok (.ifCond .ne o, 3)) (pcT : Nat) (ho : 0 ≤ (pc : Int) + o) (hT : ((pc : Int) + o).toNat = pcT) (pcF : Nat) (hF : pc + 3 = pcF)
    (k1 : ¬ x = 0 → Go p e below Z n0 kg E P T (mkF m pcT Ls st)) (k2 : x = 0 → Go p e below Z n0 kg E P T (mkF m pcF Ls st)) : Go p e below Z n0 kg E P T (mkF m pc Ls (.int x :: st)) := by
  subst hF
  by_cases h : x = 0
  · exact (k2 h).pre fun t q => XS.ifNo w.here w.hx rfl (hb w.hby hd) rfl (XT.i0_ne_f h) q
  · exact (k1 h).pre fun t q => XS.ifYes w.here w.hx rfl rfl (hb w.hby hd) rfl (XT.i0_ne_t h) ho hT q
theorem g_lif_ne (w : Wd p l e R s m args below meth c Z a0 n0 kb ws y bytes ml ret T L cells slots) {pc : Nat} {Ls : Array Slot} {x y' : Int64} {o : Int} {st : List Value} (hd : decode bytes pc = .ok (.ifCond .ne o, 3)) (pcT : Nat) (ho : 0 ≤ (pc : Int) + o) (hT : ((pc : Int) + o).toNat = pcT) (pcF : Nat) (hF : pc + 3 = pcF)
    (k1 : ¬ x = y' → Go p e below Z n0 kg E P T (mkF m pcT Ls st)) (k2 : x = y' → Go p e below Z n0 kg E P T (mkF m pcF Ls st)) : Go p e below Z n0 kg E P T (mkF m pc Ls (.int (XT.cmpL x y') :: st)) := by
  subst hF
  by_cases h : x = y'
  · exact (k2 h).pre fun t q => XS.ifNo w.here w.hx rfl (hb w.hby hd) rfl (XT.ll_ne_f h) q
  · exact (k1 h).pre fun t q => XS.ifYes w.here w.hx rfl rfl (hb w.hby hd) rfl (XT.ll_ne_t h) ho hT q
theorem g_icmp_lt (w : Wd p l e R s m args below meth c Z a0 n0 kb ws y bytes ml ret T L cells slots) {pc : Nat} {Ls : Array Slot} {x y' : Int32} {o : Int} {st : List Value} (hd : decode bytes pc = .ok (.if_icmp .lt o, 3)) (pcT : Nat) (ho : 0 ≤ (pc : Int) + o) (hT : ((pc : Int) + o).toNat = pcT) (pcF : Nat) (hF : pc + 3 = pcF)
    (k1 : x < y' → Go p e below Z n0 kg E P T (mkF m pcT Ls st)) (k2 : ¬ x < y' → Go p e below Z n0 kg E P T (mkF m pcF Ls st)) : Go p e below Z n0 kg E P T (mkF m pc Ls (.int y' :: .int x :: st)) := by
  subst hF
  by_cases h : x < y'
  · exact (k1 h).pre fun t q => XS.icmpYes w.here w.hx rfl rfl (hb w.hby hd) rfl (XT.ii_lt_t h) ho hT q
  · exact (k2 h).pre fun t q => XS.icmpNo w.here w.hx rfl (hb w.hby hd) rfl (XT.ii_lt_f h) q
theorem g_if_lt (w : Wd p l e R s m args below meth c Z a0 n0 kb ws y bytes ml ret T L cells slots) {pc : Nat} {Ls : Array Slot} {x : Int32} {o : Int} {st : List Value} (hd : decode bytes pc = .ok (.ifCond .lt o, 3)) (pcT : Nat) (ho : 0 ≤ (pc : Int) + o) (hT : ((pc : Int) + o).toNat = pcT) (pcF : Nat) (hF : pc + 3 = pcF)
    (k1 : x < 0 → Go p e below Z n0 kg E P T (mkF m pcT Ls st)) (k2 : ¬ x < 0 → Go p e below Z n0 kg E P T (mkF m pcF Ls st)) : Go p e below Z n0 kg E P T (mkF m pc Ls (.int x :: st)) := by
  subst hF
  by_cases h : x < 0
  · exact (k1 h).pre fun t q => XS.ifYes w.here w.hx rfl rfl (hb w.hby hd) rfl (XT.i0_lt_t h) ho hT q
  · exact (k2 h).pre fun t q => XS.ifNo w.here w.hx rfl (hb w.hby hd) rfl (XT.i0_lt_f h) q
theorem g_lif_lt (w : Wd p l e R s m args below meth c Z a0 n0 kb ws y bytes ml ret T L cells slots) {pc : Nat} {Ls : Array Slot} {x y' : Int64} {o : Int} {st : List Value} (hd : decode bytes pc = .ok (.ifCond .lt o, 3)) (pcT : Nat) (ho : 0 ≤ (pc : Int) + o) (hT : ((pc : Int) + o).toNat = pcT) (pcF : Nat) (hF : pc + 3 = pcF)
    (k1 : x < y' → Go p e below Z n0 kg E P T (mkF m pcT Ls st)) (k2 : ¬ x < y' → Go p e below Z n0 kg E P T (mkF m pcF Ls st)) : Go p e below Z n0 kg E P T (mkF m pc Ls (.int (XT.cmpL x y') :: st)) := by
  subst hF
  by_cases h : x < y'
  · exact (k1 h).pre fun t q => XS.ifYes w.here w.hx rfl rfl (hb w.hby hd) rfl (XT.ll_lt_t h) ho hT q
  · exact (k2 h).pre fun t q => XS.ifNo w.here w.hx rfl (hb w.hby hd) rfl (XT.ll_lt_f h) q
theorem g_icmp_ge (w : Wd p l e R s m args below meth c Z a0 n0 kb ws y bytes ml ret T L cells slots) {pc : Nat} {Ls : Array Slot} {x y' : Int32} {o : Int} {st : List Value} (hd : decode bytes pc = .ok (.if_icmp .ge o, 3)) (pcT : Nat) (ho : 0 ≤ (pc : Int) + o) (hT : ((pc : Int) + o).toNat = pcT) (pcF : Nat) (hF : pc + 3 = pcF)
    (k1 : ¬ x < y' → Go p e below Z n0 kg E P T (mkF m pcT Ls st)) (k2 : x < y' → Go p e below Z n0 kg E P T (mkF m pcF Ls st)) : Go p e below Z n0 kg E P T (mkF m pc Ls (.int y' :: .int x :: st)) := by
  subst hF
  by_cases h : x < y'
  · exact (k2 h).pre fun t q => XS.icmpNo w.here w.hx rfl (hb w.hby hd) rfl (XT.ii_ge_f h) q
  · exact (k1 h).pre fun t q => XS.icmpYes w.here w.hx rfl rfl (hb w.hby hd) rfl (XT.ii_ge_t h) ho hT q
theorem g_if_ge (w : Wd p l e R s m args below meth c Z a0 n0 kb ws y bytes ml ret T L cells slots) {pc : Nat} {Ls : Array Slot} {x : Int32} {o : Int} {st : List Value} (hd : decode bytes pc = .ok (.ifCond .ge o, 3)) (pcT : Nat) (ho : 0 ≤ (pc : Int) + o) (hT : ((pc : Int) + o).toNat = pcT) (pcF : Nat) (hF : pc + 3 = pcF)
    (k1 : ¬ x < 0 → Go p e below Z n0 kg E P T (mkF m pcT Ls st)) (k2 : x < 0 → Go p e below Z n0 kg E P T (mkF m pcF Ls st)) : Go p e below Z n0 kg E P T (mkF m pc Ls (.int x :: st)) := by
  subst hF
  by_cases h : x < 0
  · exact (k2 h).pre fun t q => XS.ifNo w.here w.hx rfl (hb w.hby hd) rfl (XT.i0_ge_f h) q
  · exact (k1 h).pre fun t q => XS.ifYes w.here w.hx rfl rfl (hb w.hby hd) rfl (XT.i0_ge_t h) ho hT q
theorem g_lif_ge (w : Wd p l e R s m args below meth c Z a0 n0 kb ws y bytes ml ret T L cells slots) {pc : Nat} {Ls : Array Slot} {x y' : Int64} {o : Int} {st : List Value} (hd : decode bytes pc = .ok (.ifCond .ge o, 3)) (pcT : Nat) (ho : 0 ≤ (pc : Int) + o) (hT : ((pc : Int) + o).toNat = pcT) (pcF : Nat) (hF : pc + 3 = pcF)
    (k1 : ¬ x < y' → Go p e below Z n0 kg E P T (mkF m pcT Ls st)) (k2 : x < y' → Go p e below Z n0 kg E P T (mkF m pcF Ls st)) : Go p e below Z n0 kg E P T (mkF m pc Ls (.int (XT.cmpL x y') :: st)) := by
  subst hF
  by_cases h : x < y'
  · exact (k2 h).pre fun t q => XS.ifNo w.here w.hx rfl (hb w.hby hd) rfl (XT.ll_ge_f h) q
  · exact (k1 h).pre fun t q => XS.ifYes w.here w.hx rfl rfl (hb w.hby hd) rfl (XT.ll_ge_t h) ho hT q
theorem g_icmp_gt (w : Wd p l e R s m args below meth c Z a0 n0 kb ws y bytes ml ret T L cells slots) {pc : Nat} {Ls : Array Slot} {x y' : Int32} {o : Int} {st : List Value} (hd : decode bytes pc = .ok (.if_icmp .gt o, 3)) (pcT : Nat) (ho : 0 ≤ (pc : Int) + o) (hT : ((pc : Int) + o).toNat = pcT) (pcF : Nat) (hF : pc + 3 = pcF)
    (k1 : y' < x → Go p e below Z n0 kg E P T (mkF m pcT Ls st)) (k2 : ¬ y' < x → Go p e below Z n0 kg E P T (mkF m pcF Ls st)) : Go p e below Z n0 kg E P T (mkF m pc Ls (.int y' :: .int x :: st)) := by
  subst hF
  by_cases h : y' < x
  · exact (k1 h).pre fun t q => XS.icmpYes w.here w.hx rfl rfl (hb w.hby hd) rfl (XT.ii_gt_t h) ho hT q
  · exact (k2 h).pre fun t q => XS.icmpNo w.here w.hx rfl (hb w.hby hd) rfl (XT.ii_gt_f h) q
theorem g_if_gt (w : Wd p l e R s m args below meth c Z a0 n0 kb ws y bytes ml ret T L cells slots) {pc : Nat} {Ls : Array Slot} {x : Int32} {o : Int} {st : List Value} (hd : decode bytes pc = .ok (.ifCond .gt o, 3)) (pcT : Nat) (ho : 0 ≤ (pc : Int) + o) (hT : ((pc : Int) + o).toNat = pcT) (pcF : Nat) (hF : pc + 3 = pcF)
    (k1 : 0 < x → Go p e below Z n0 kg E P T (mkF m pcT Ls st)) (k2 : ¬ 0 < x → Go p e below Z n0 kg E P T (mkF m pcF Ls st)) : Go p e below Z n0 kg E P T (mkF m pc Ls (.int x :: st)) := by
  subst hF
  by_cases h : 0 < x
  · exact (k1 h).pre fun t q => XS.ifYes w.here w.hx rfl rfl (hb w.hby hd) rfl (XT.i0_gt_t h) ho hT q
  · exact (k2 h).pre fun t q => XS.ifNo w.here w.hx rfl (hb w.hby hd) rfl (XT.i0_gt_f h) q
theorem g_lif_gt (w : Wd p l e R s m args below meth c Z a0 n0 kb ws y bytes ml ret T L cells slots) {pc : Nat} {Ls : Array Slot} {x y' : Int64} {o : Int} {st : List Value} (hd : decode bytes pc = .ok (.ifCond .gt o, 3)) (pcT : Nat) (ho : 0 ≤ (pc : Int) + o) (hT : ((pc : Int) + o).toNat = pcT) (pcF : Nat) (hF : pc + 3 = pcF)
    (k1 : y' < x → Go p e below Z n0 kg E P T (mkF m pcT Ls st)) (k2 : ¬ y' < x → Go p e below Z n0 kg E P T (mkF m pcF Ls st)) : Go p e below Z n0 kg E P T (mkF m pc Ls (.int (XT.cmpL x y') :: st)) := by
  subst hF
  by_cases h : y' < x
  · exact (k1 h).pre fun t q => XS.ifYes w.here w.hx rfl rfl (hb w.hby hd) rfl (XT.ll_gt_t h) ho hT q
  · exact (k2 h).pre fun t q => XS.ifNo w.here w.hx rfl (hb w.hby hd) rfl (XT.ll_gt_f h) q
theorem g_icmp_le (w : Wd p l e R s m args below meth c Z a0 n0 kb ws y bytes ml ret T L cells slots) {pc : Nat} {Ls : Array Slot} {x y' : Int32} {o : Int} {st : List Value} (hd : decode bytes pc = .ok (.if_icmp .le o, 3)) (pcT : Nat) (ho : 0 ≤ (pc : Int) + o) (hT : ((pc : Int) + o).toNat = pcT) (pcF : Nat) (hF : pc + 3 = pcF)
    (k1 : ¬ y' < x → Go p e below Z n0 kg E P T (mkF m pcT Ls st)) (k2 : y' < x → Go p e below Z n0 kg E P T (mkF m pcF Ls st)) : Go p e below Z n0 kg E P T (mkF m pc Ls (.int y' :: .int x :: st)) := by
  subst hF
  by_cases h : y' < x
  · exact (k2 h).pre fun t q => XS.icmpNo w.here w.hx rfl (hb w.hby hd) rfl (XT.ii_le_f h) q
  · exact (k1 h).pre fun t q => XS.icmpYes w.here w.hx rfl rfl (hb w.hby hd) rfl (XT.ii_le_t h) ho hT q
theorem g_if_le (w : Wd p l e R s m args below meth c Z a0 n0 kb ws y bytes ml ret T L cells slots) {pc : Nat} {Ls : Array Slot} {x : Int32} {o : Int} {st : List Value} (hd : decode bytes pc = .ok (.ifCond .le o, 3)) (pcT : Nat) (ho : 0 ≤ (pc : Int) + o) (hT : ((pc : Int) + o).toNat = pcT) (pcF : Nat) (hF : pc + 3 = pcF)
    (k1 : ¬ 0 < x → Go p e below Z n0 kg E P T (mkF m pcT Ls st)) (k2 : 0 < x → Go p e below Z n0 kg E P T (mkF m pcF Ls st)) : Go p e below Z n0 kg E P T (mkF m pc Ls (.int x :: st)) := by
  subst hF
  by_cases h : 0 < x
  · exact (k2 h).pre fun t q => XS.ifNo w.here w.hx rfl (hb w.hby hd) rfl (XT.i0_le_f h) q
  · exact (k1 h).pre fun t q => XS.ifYes w.here w.hx rfl rfl (hb w.hby hd) rfl (XT.i0_le_t h) ho hT q
theorem g_lif_le (w : Wd p l e R s m args below meth c Z a0 n0 kb ws y bytes ml ret T L cells slots) {pc : Nat} {Ls : Array Slot} {x y' : Int64} {o : Int} {st : List Value} (hd : decode bytes pc = .ok (.ifCond .le o, 3)) (pcT : Nat) (ho : 0 ≤ (pc : Int) + o) (hT : ((pc : Int) + o).toNat = pcT) (pcF : Nat) (hF : pc + 3 = pcF)
    (k1 : ¬ y' < x → Go p e below Z n0 kg E P T (mkF m pcT Ls st)) (k2 : y' < x → Go p e below Z n0 kg E P T (mkF m pcF Ls st)) : Go p e below Z n0 kg E P T (mkF m pc Ls (.int (XT.cmpL x y') :: st)) := by
  subst hF
  by_cases h : y' < x
  · exact (k2 h).pre fun t q => XS.ifNo w.here w.hx rfl (hb w.hby hd) rfl (XT.ll_le_f h) q
  · exact (k1 h).pre fun t q => XS.ifYes w.here w.hx rfl rfl (hb w.hby hd) rfl (XT.ll_le_t h) ho hT q
theorem g_acmp_eq (w : Wd p l e R s m args below meth c Z a0 n0 kb ws y bytes ml ret T L cells slots) {pc : Nat} {Ls : Array Slot} {x y' : Value} {o : Int} {st : List Value} (hd : decode bytes pc = .ok (.if_acmp .eq o, 3)) (hx' : x.isRef = true) (hy' : y'.isRef = true) (pcT : Nat) (ho : 0 ≤ (pc : Int) + o) (hT : ((pc : Int) + o).toNat = pcT) (pcF : Nat) (hF : pc + 3 = pcF)
    (k1 : x = y' → Go p e below Z n0 kg E P T (mkF m pcT Ls st)) (k2 : ¬ x = y' → Go p e below Z n0 kg E P T (mkF m pcF Ls st)) : Go p e below Z n0 kg E P T (mkF m pc Ls (y' :: x :: st)) := by
  subst hF
  by_cases h : x = y'
  · exact (k1 h).pre fun t q => XT.acmpYes w.here w.hx rfl rfl (hb w.hby hd) rfl hx' hy' (XT.aa_eq_t h) ho hT q
  · exact (k2 h).pre fun t q => XT.acmpNo w.here w.hx rfl (hb w.hby hd) rfl hx' hy' (XT.aa_eq_f h) q
theorem g_acmp_ne (w : Wd p l e R s m args below meth c Z a0 n0 kb ws y bytes ml ret T L cells slots) {pc : Nat} {Ls : Array Slot} {x y' : Value} {o : Int} {st : List Value} (hd : decode bytes pc = .ok (.if_acmp .ne o, 3)) (hx' : x.isRef = true) (hy' : y'.isRef = true) (pcT : Nat) (ho : 0 ≤ (pc : Int) + o) (hT : ((pc : Int) + o).toNat = pcT) (pcF : Nat) (hF : pc + 3 = pcF)
    (k1 : ¬ x = y' → Go p e below Z n0 kg E P T (mkF m pcT Ls st)) (k2 : x = y' → Go p e below Z n0 kg E P T (mkF m pcF Ls st)) : Go p e below Z n0 kg E P T (mkF m pc Ls (y' :: x :: st)) := by
  subst hF
  by_cases h : x = y'
  · exact (k2 h).pre fun t q => XT.acmpNo w.here w.hx rfl (hb w.hby hd) rfl hx' hy' (XT.aa_ne_f h) q
  · exact (k1 h).pre fun t q => XT.acmpYes w.here w.hx rfl rfl (hb w.hby hd) rfl hx' hy' (XT.aa_ne_t h) ho hT q
theorem g_ifnullT (w : Wd p l e R s m args below meth c Z a0 n0 kb ws y bytes ml ret T L cells slots) {pc : Nat} {Ls : Array Slot} {o : Int} {st : List Value} (hd : decode bytes pc = .ok (.ifnull o, 3)) (pcT : Nat) (ho : 0 ≤ (pc : Int) + o) (hT : ((pc : Int) + o).toNat = pcT) (k : Go p e below Z n0 kg E P T (mkF m pcT Ls st)) : Go p e below Z n0 kg E P T (mkF m pc Ls (.null :: st)) := k.pre fun t q => XS.ifnullYes w.here w.hx rfl rfl (hb w.hby hd) rfl ho hT q
theorem g_ifnullF (w : Wd p l e R s m args below meth c Z a0 n0 kb ws y bytes ml ret T L cells slots) {pc : Nat} {Ls : Array Slot} {r : Addr} {o : Int} {st : List Value} (hd : decode bytes pc = .ok (.ifnull o, 3)) (pcF : Nat) (hF : pc + 3 = pcF) (k : Go p e below Z n0 kg E P T (mkF m pcF Ls st)) : Go p e below Z n0 kg E P T (mkF m pc Ls (.ref r :: st)) := by
  subst hF
  exact k.pre fun t q => XS.ifnullNo w.here w.hx rfl (hb w.hby hd) rfl q
theorem g_ifnonnullT (w : Wd p l e R s m args below meth c Z a0 n0 kb ws y bytes ml ret T L cells slots) {pc : Nat} {Ls : Array Slot} {r : Addr} {o : Int} {st : List Value} (hd : decode bytes pc = .ok (.ifnonnull o, 3)) (pcT : Nat) (ho : 0 ≤ (pc : Int) + o) (hT : ((pc : Int) + o).toNat = pcT) (k : Go p e below Z n0 kg E P T (mkF m pcT Ls st)) : Go p e below Z n0 kg E P T (mkF m pc Ls (.ref r :: st)) := k.pre fun t q => XT.ifnonnullYes w.here w.hx rfl rfl (hb w.hby hd) rfl ho hT q
theorem g_ifnonnullF (w : Wd p l e R s m args below meth c Z a0 n0 kb ws y bytes ml ret T L cells slots) {pc : Nat} {Ls : Array Slot} {o : Int} {st : List Value} (hd : decode bytes pc = .ok (.ifnonnull o, 3)) (pcF : Nat) (hF : pc + 3 = pcF) (k : Go p e below Z n0 kg E P T (mkF m pcF Ls st)) : Go p e below Z n0 kg E P T (mkF m pc Ls (.null :: st)) := by
  subst hF
  exact k.pre fun t q => XT.ifnonnullNo w.here w.hx rfl (hb w.hby hd) rfl q
/-! ## calls -/
theorem g_initO (w : Wd p l e R s m args below meth c Z a0 n0 kb ws y bytes ml ret T L cells slots) {pc : Nat} {Ls : Array Slot} {st : List Value} {idx : Nat} {a : Addr} (hd : decode bytes pc = .ok (.invokespecial idx, 3)) (k1 : Nat) (hk1 : ws[k1]? = some (.methodLink y.cls idx Lib.objectInit)) (k2 : Nat) (hk2 : ws[k2]? = some (.instanceMethod Lib.objectInit)) (k3 : Nat) (hk3 : ws[k3]? = some (.code Lib.objectInit ⟨#[0xb1]⟩ 1 none))
    (hsz : Ls.size = ml) (hf : 1 ≤ R.frames) (W : Nat) (hW : (st.map fun v => v.category).sum = W) (hl : W + 12 ≤ R.locals) (pc' : Nat) (hp : pc + 3 = pc')
    (kt : ∀ T', Wd p l e R s m args below meth c Z a0 n0 kb ws y bytes ml ret T' L cells slots → Go p e below Z n0 kg E P T' (mkF m pc' Ls st)) : Go p e below Z n0 kg E P T (mkF m pc Ls (.ref a :: st)) := by
  subst hp
  have hk1' := w.hw hk1
  have hk2' := w.hw hk2
  have hk3' := w.hw hk3
  obtain ⟨⟨locs, X, N⟩, H, hx, hZ, hown, hby, hml, hret, hlk, hnm, hws⟩ := w
  obtain ⟨T', X', e', st'⟩ := initO X hx hZ hown hk1' hk2' hk3' rfl (g := mkF m pc Ls (.ref a :: st)) rfl (by rw [hml]; exact hsz) rfl (hb hby hd) hf (W := W) (by show 2 * 0 + _ ≤ _; rw [hW]; omega) hl
  exact (kt T' ⟨⟨locs, X', N⟩, by rw [e']; exact H, hx, hZ, hown, hby, hml, hret, hlk, hnm, hws⟩).pre st'
theorem Con.back {y' : MethodName} {bytes' : ByteArray} {ml' : Nat} {ret' : Option FieldType} {rm : Room} {as' : Array Value} {P' : Option Value → HL → Prop} {h : Heap} {len W : Nat} (C : Con l y' bytes' ml' ret' rm Z n0 as' L P') (H : Hp Z n0 kb h L) (hZ : Z.Warmed39 s.vm) (wc : (Cond.code y' bytes' ml' ret').before a0 Z = true) (wz : (Cond.initialized y'.cls).before a0 Z = true) (hf : rm.frames + 1 ≤ R.frames) (hl : W + (ml' + 11) + rm.locals ≤ R.locals) :
    Back l R p e below s args y' len W (fun A a => a = as' ∧ A.U.heap = h ∧ A.cells + rm.cells ≤ R.cells ∧ A.slots + rm.slots ≤ R.slots)
      (fun A _ v B => ∃ Lc, (Fr n0 Lc ∧ ∃ L', Hp Z n0 kb B.U.heap L' ∧ P' v L') ∧ B.locs = A.locs ++ Lc ∧ B.cells = A.cells + rm.cells ∧ B.slots = A.slots + rm.slots) :=
  backOf (Q := fun v hh Lc => Fr n0 Lc ∧ ∃ L', Hp Z n0 kb hh L' ∧ P' v L') (C [] kb h H) hZ wc wz hf hl
/-- behind a call -/
theorem g_behind {rm : Room} {P' : Option Value → HL → Prop} {pc : Nat} {Ls : Array Slot} {rest : List Value} {v : Option Value} {B : Pt} {locs : List Loc}
    (N : Fr n0 locs) (hx : p.tables.exec = Jvm.exec) (hZ : Z.Warmed39 s.vm) (hown : s.vm.findClass y.cls = some m.cls) (hby : c.code = bytes) (hml : c.maxLocals = ml) (hret : meth.sig.returnType = ret) (hlk : meth.locks = false) (hnm : meth.name = y.name) (hws : ∀ d ∈ ws, d.before a0 Z = true)
    (X' : Stand p l e R s m args below meth c B.U B.locs B.cells B.slots)
    (hQ : ∃ Lc, (Fr n0 Lc ∧ ∃ L', Hp Z n0 kb B.U.heap L' ∧ P' v L') ∧ Pt.locs B = locs ++ Lc ∧ Pt.cells B = cells + rm.cells ∧ Pt.slots B = slots + rm.slots)
    (kt : ∀ T' v L', Wd p l e R s m args below meth c Z a0 n0 kb ws y bytes ml ret T' L' (cells + rm.cells) (slots + rm.slots) → P' v L' → Go p e below Z n0 kg E P T' (mkF m pc Ls (pushV v rest))) :
    Go p e below Z n0 kg E P B.U (mkF m pc Ls (v.toList ++ rest)) := by
  obtain ⟨Lc, ⟨N', L', H', hP⟩, h1, h2, h3⟩ := hQ
  obtain ⟨U, bl, bc, bs⟩ := B
  dsimp only [Pt.U, Pt.locs, Pt.cells, Pt.slots] at h1 h2 h3 X' H' ⊢
  subst h1 h2 h3
  rw [pushV_eq]
  exact kt U v L' ⟨⟨_, X', Fr.app N N'⟩, H', hx, hZ, hown, hby, hml, hret, hlk, hnm, hws⟩ hP
theorem g_static (w : Wd p l e R s m args below meth c Z a0 n0 kb ws y bytes ml ret T L cells slots) {pc : Nat} {Ls : Array Slot} {st : List Value} {idx : Nat} {y' : MethodName} {bytes' : ByteArray} {ml' : Nat} {ret' : Option FieldType} {rm : Room} {P' : Option Value → HL → Prop} {ps : List FieldType} {rt : Option FieldType} {argsL rest : List Value}
    (C : Con l y' bytes' ml' ret' rm Z n0 argsL.toArray L P') (hd : decode bytes pc = .ok (.invokestatic idx, 3)) (k1 : Nat) (hk1 : ws[k1]? = some (.methodLink y.cls idx y')) (k2 : Nat) (hk2 : ws[k2]? = some (.static y')) (k3 : Nat) (hk3 : ws[k3]? = some (.initialized y'.cls)) (k4 : Nat) (hk4 : ws[k4]? = some (.code y' bytes' ml' ret'))
    (hy : y'.cls ≠ "java/lang/invoke/MethodHandle" ∧ y'.cls ≠ "java/lang/invoke/VarHandle") (hpd : parseMethodDescriptor y'.desc = some ⟨ps, rt⟩) (hlen : argsL.length = ps.length) (hst : st = argsL.reverse ++ rest) (hsz : Ls.size = ml) (W : Nat) (hW : (rest.map fun v => v.category).sum = W) (hf : rm.frames + 1 ≤ R.frames) (hl : W + (ml' + 11) + rm.locals ≤ R.locals)
    (hc : cells + rm.cells ≤ R.cells) (hs : slots + rm.slots ≤ R.slots) (pc' : Nat) (hp : pc + 3 = pc')
    (kt : ∀ T' v L', Wd p l e R s m args below meth c Z a0 n0 kb ws y bytes ml ret T' L' (cells + rm.cells) (slots + rm.slots) → P' v L' → Go p e below Z n0 kg E P T' (mkF m pc' Ls (pushV v rest))) : Go p e below Z n0 kg E P T (mkF m pc Ls st) := by
  subst hp hst
  have hk1' := w.hw hk1
  have hk2' := w.hw hk2
  have hk3' := w.hw hk3
  have hk4' := w.hw hk4
  obtain ⟨⟨locs, X, N⟩, H, hx, hZ, hown, hby, hml, hret, hlk, hnm, hws⟩ := w
  obtain ⟨v, vm₁, B, -, X', hQ, st'⟩ := Jvm.LawKit.callS X hx hown (mvT hZ hk1') (mvT hZ hk2') (mvT hZ hk3') (mvT hZ hk4') hy (Con.back C H hZ hk4' hk3' hf hl) (g := mkF m pc Ls (argsL.reverse ++ rest)) rfl (by rw [hml]; exact hsz) (argsL := argsL) (rest := rest) (lenOf hpd hlen) rfl (by show 2 * 0 + _ ≤ _; rw [hW]; omega) (hb hby hd) (fun _ _ => ⟨rfl, rfl, hc, hs⟩)
  exact (g_behind (rm := rm) (P' := P') N hx hZ hown hby hml hret hlk hnm hws X' hQ kt).pre st'
theorem g_ctor (w : Wd p l e R s m args below meth c Z a0 n0 kb ws y bytes ml ret T L cells slots) {pc : Nat} {Ls : Array Slot} {st : List Value} {idx : Nat} {y' : MethodName} {bytes' : ByteArray} {ml' : Nat} {rm : Room} {P' : Option Value → HL → Prop} {ps : List FieldType} {rt : Option FieldType} {a : Addr} {argsL rest : List Value}
    (C : Con l y' bytes' ml' none rm Z n0 (Value.ref a :: argsL).toArray L P') (hd : decode bytes pc = .ok (.invokespecial idx, 3)) (k1 : Nat) (hk1 : ws[k1]? = some (.methodLink y.cls idx y')) (k2 : Nat) (hk2 : ws[k2]? = some (.instanceMethod y')) (k3 : Nat) (hk3 : ws[k3]? = some (.initialized y'.cls)) (k4 : Nat) (hk4 : ws[k4]? = some (.code y' bytes' ml' none))
    (hyn : y'.name = "<init>") (hy : y'.cls ≠ "java/lang/invoke/MethodHandle" ∧ y'.cls ≠ "java/lang/invoke/VarHandle") (hpd : parseMethodDescriptor y'.desc = some ⟨ps, rt⟩) (hlen : argsL.length = ps.length) (hst : st = argsL.reverse ++ .ref a :: rest) (hsz : Ls.size = ml) (W : Nat) (hW : (rest.map fun v => v.category).sum = W) (hf : rm.frames + 1 ≤ R.frames) (hl : W + (ml' + 11) + rm.locals ≤ R.locals)
    (hc : cells + rm.cells ≤ R.cells) (hs : slots + rm.slots ≤ R.slots) (pc' : Nat) (hp : pc + 3 = pc')
    (kt : ∀ T' v L', Wd p l e R s m args below meth c Z a0 n0 kb ws y bytes ml ret T' L' (cells + rm.cells) (slots + rm.slots) → P' v L' → Go p e below Z n0 kg E P T' (mkF m pc' Ls (pushV v rest))) : Go p e below Z n0 kg E P T (mkF m pc Ls st) := by
  subst hp hst
  have hk1' := w.hw hk1
  have hk2' := w.hw hk2
  have hk3' := w.hw hk3
  have hk4' := w.hw hk4
  obtain ⟨⟨locs, X, N⟩, H, hx, hZ, hown, hby, hml, hret, hlk, hnm, hws⟩ := w
  obtain ⟨v, vm₁, B, -, X', hQ, st'⟩ := X.specialBack hx hyn hown (mvT hZ hk1') (mvT hZ hk2') (mvT hZ hk4') hy (Con.back C H hZ hk4' hk3' hf hl) (g := mkF m pc Ls (argsL.reverse ++ .ref a :: rest)) rfl (by rw [hml]; exact hsz) (Steps.refl _) (a := a) (argsL := argsL) (rest := rest) (lenOf hpd hlen) rfl (by show 2 * 0 + _ ≤ _; rw [hW]; omega) (hb hby hd) (fun _ _ => ⟨rfl, rfl, hc, hs⟩)
  exact (g_behind (rm := rm) (P' := P') N hx hZ hown hby hml hret hlk hnm hws X' hQ kt).pre fun t q => st'.trans q
theorem g_virt (w : Wd p l e R s m args below meth c Z a0 n0 kb ws y bytes ml ret T L cells slots) {pc : Nat} {Ls : Array Slot} {st : List Value} {idx : Nat} {y' : MethodName} {bytes' : ByteArray} {ml' : Nat} {ret' : Option FieldType} {rm : Room} {P' : Option Value → HL → Prop} {ps : List FieldType} {rt : Option FieldType} {a : Addr} {Cn : String} {fs : List FldE} {argsL rest : List Value}
    (C : Con l y' bytes' ml' ret' rm Z n0 (Value.ref a :: argsL).toArray L P') (hd : decode bytes pc = .ok (.invokevirtual idx, 3)) (i : Nat) (hi : L[i]? = some (a, .inl (Cn, fs))) (k1 : Nat) (hk1 : ws[k1]? = some (.methodLink y.cls idx y')) (k2 : Nat) (hk2 : ws[k2]? = some (.declares y')) (k3 : Nat) (hk3 : ws[k3]? = some (.initialized y'.cls)) (k4 : Nat) (hk4 : ws[k4]? = some (.code y' bytes' ml' ret'))
    (k5 : Nat) (hk5 : ws[k5]? = some (.selects Cn y' y')) (k6 : Nat) (hk6 : ws[k6]? = some (.instanceMethod y'))
    (hy : y'.cls ≠ "java/lang/invoke/MethodHandle" ∧ y'.cls ≠ "java/lang/invoke/VarHandle") (hpd : parseMethodDescriptor y'.desc = some ⟨ps, rt⟩) (hlen : argsL.length = ps.length) (hst : st = argsL.reverse ++ .ref a :: rest) (hsz : Ls.size = ml) (W : Nat) (hW : (rest.map fun v => v.category).sum = W) (hf : rm.frames + 1 ≤ R.frames) (hl : W + (ml' + 11) + rm.locals ≤ R.locals)
    (hc : cells + rm.cells ≤ R.cells) (hs : slots + rm.slots ≤ R.slots) (pc' : Nat) (hp : pc + 3 = pc')
    (kt : ∀ T' v L', Wd p l e R s m args below meth c Z a0 n0 kb ws y bytes ml ret T' L' (cells + rm.cells) (slots + rm.slots) → P' v L' → Go p e below Z n0 kg E P T' (mkF m pc' Ls (pushV v rest))) : Go p e below Z n0 kg E P T (mkF m pc Ls st) := by
  subst hp hst
  have hk1' := w.hw hk1
  have hk2' := w.hw hk2
  have hk3' := w.hw hk3
  have hk4' := w.hw hk4
  have hk5' := w.hw hk5
  have hk6' := w.hw hk6
  obtain ⟨⟨locs, X, N⟩, H, hx, hZ, hown, hby, hml, hret, hlk, hnm, hws⟩ := w
  obtain ⟨cq, kq, qa, qb, qc⟩ := isOf hZ rfl (H.obj hi).1
  obtain ⟨v, vm₁, B, -, X', hQ, st'⟩ := X.virtualBack hx (y := y') (z := y') hown (mvT hZ hk1') (mvT hZ hk2') (notFace_of_selects (args := #[]) (mvT hZ hk5')) (mvT hZ hk5') (mvT hZ hk6') hy (Con.back C H hZ hk4' hk3' hf hl) qa qc (g := mkF m pc Ls (argsL.reverse ++ .ref a :: rest)) rfl (by rw [hml]; exact hsz) (Steps.refl _) (argsL := argsL) (rest := rest) (lenOf hpd hlen) rfl (by show 2 * 0 + _ ≤ _; rw [hW]; omega) (hb hby hd) (fun _ _ => ⟨rfl, rfl, hc, hs⟩)
  exact (g_behind (rm := rm) (P' := P') N hx hZ hown hby hml hret hlk hnm hws X' hQ kt).pre fun t q => st'.trans q
theorem g_virtO (w : Wd p l e R s m args below meth c Z a0 n0 kb ws y bytes ml ret T L cells slots) {pc : Nat} {Ls : Array Slot} {st : List Value} {idx : Nat} {y' : MethodName} {bytes' : ByteArray} {ml' : Nat} {ret' : Option FieldType} {rm : Room} {P' : Option Value → HL → Prop} {ps : List FieldType} {rt : Option FieldType} {a : Addr} {Cn : String} {argsL rest : List Value}
    (C : Con l y' bytes' ml' ret' rm Z n0 (Value.ref a :: argsL).toArray L P') (hd : decode bytes pc = .ok (.invokevirtual idx, 3)) (EO : Exa Z Z.heap a Cn) (k1 : Nat) (hk1 : ws[k1]? = some (.methodLink y.cls idx y')) (k2 : Nat) (hk2 : ws[k2]? = some (.declares y')) (k3 : Nat) (hk3 : ws[k3]? = some (.initialized y'.cls)) (k4 : Nat) (hk4 : ws[k4]? = some (.code y' bytes' ml' ret'))
    (k5 : Nat) (hk5 : ws[k5]? = some (.selects Cn y' y')) (k6 : Nat) (hk6 : ws[k6]? = some (.instanceMethod y'))
    (hy : y'.cls ≠ "java/lang/invoke/MethodHandle" ∧ y'.cls ≠ "java/lang/invoke/VarHandle") (hpd : parseMethodDescriptor y'.desc = some ⟨ps, rt⟩) (hlen : argsL.length = ps.length) (hst : st = argsL.reverse ++ .ref a :: rest) (hsz : Ls.size = ml) (W : Nat) (hW : (rest.map fun v => v.category).sum = W) (hf : rm.frames + 1 ≤ R.frames) (hl : W + (ml' + 11) + rm.locals ≤ R.locals)
    (hc : cells + rm.cells ≤ R.cells) (hs : slots + rm.slots ≤ R.slots) (pc' : Nat) (hp : pc + 3 = pc')
    (kt : ∀ T' v L', Wd p l e R s m args below meth c Z a0 n0 kb ws y bytes ml ret T' L' (cells + rm.cells) (slots + rm.slots) → P' v L' → Go p e below Z n0 kg E P T' (mkF m pc' Ls (pushV v rest))) : Go p e below Z n0 kg E P T (mkF m pc Ls st) := by
  subst hp hst
  have hk1' := w.hw hk1
  have hk2' := w.hw hk2
  have hk3' := w.hw hk3
  have hk4' := w.hw hk4
  have hk5' := w.hw hk5
  have hk6' := w.hw hk6
  obtain ⟨⟨locs, X, N⟩, H, hx, hZ, hown, hby, hml, hret, hlk, hnm, hws⟩ := w
  obtain ⟨cq, kq, qa, qb, qc⟩ := isOf hZ rfl (EO.ext H.old)
  obtain ⟨v, vm₁, B, -, X', hQ, st'⟩ := X.virtualBack hx (y := y') (z := y') hown (mvT hZ hk1') (mvT hZ hk2') (notFace_of_selects (args := #[]) (mvT hZ hk5')) (mvT hZ hk5') (mvT hZ hk6') hy (Con.back C H hZ hk4' hk3' hf hl) qa qc (g := mkF m pc Ls (argsL.reverse ++ .ref a :: rest)) rfl (by rw [hml]; exact hsz) (Steps.refl _) (argsL := argsL) (rest := rest) (lenOf hpd hlen) rfl (by show 2 * 0 + _ ≤ _; rw [hW]; omega) (hb hby hd) (fun _ _ => ⟨rfl, rfl, hc, hs⟩)
  exact (g_behind (rm := rm) (P' := P') N hx hZ hown hby hml hret hlk hnm hws X' hQ kt).pre fun t q => st'.trans q
theorem g_priv (w : Wd p l e R s m args below meth c Z a0 n0 kb ws y bytes ml ret T L cells slots) {pc : Nat} {Ls : Array Slot} {st : List Value} {idx nI : Nat} {y' : MethodName} {bytes' : ByteArray} {ml' : Nat} {ret' : Option FieldType} {rm : Room} {P' : Option Value → HL → Prop} {ps : List FieldType} {rt : Option FieldType} {a : Addr} {Cn : String} {fs : List FldE} {argsL rest : List Value}
    (C : Con l y' bytes' ml' ret' rm Z n0 (Value.ref a :: argsL).toArray L P') (hd : decode bytes pc = .ok (.invokevirtual idx, 3)) (i : Nat) (hi : L[i]? = some (a, .inl (Cn, fs))) (k1 : Nat) (hk1 : ws[k1]? = some (.methodLink y.cls idx y')) (k2 : Nat) (hk2 : ws[k2]? = some (.instanceMethod y')) (k3 : Nat) (hk3 : ws[k3]? = some (.initialized y'.cls)) (k4 : Nat) (hk4 : ws[k4]? = some (.code y' bytes' ml' ret'))
    (k5 : Nat) (hk5 : ws[k5]? = some (.privateMethod y')) (k6 : Nat) (hk6 : ws[k6]? = some (.instantiable y'.cls nI))
    (hy : y'.cls ≠ "java/lang/invoke/MethodHandle" ∧ y'.cls ≠ "java/lang/invoke/VarHandle") (hpd : parseMethodDescriptor y'.desc = some ⟨ps, rt⟩) (hlen : argsL.length = ps.length) (hst : st = argsL.reverse ++ .ref a :: rest) (hsz : Ls.size = ml) (W : Nat) (hW : (rest.map fun v => v.category).sum = W) (hf : rm.frames + 1 ≤ R.frames) (hl : W + (ml' + 11) + rm.locals ≤ R.locals)
    (hc : cells + rm.cells ≤ R.cells) (hs : slots + rm.slots ≤ R.slots) (pc' : Nat) (hp : pc + 3 = pc')
    (kt : ∀ T' v L', Wd p l e R s m args below meth c Z a0 n0 kb ws y bytes ml ret T' L' (cells + rm.cells) (slots + rm.slots) → P' v L' → Go p e below Z n0 kg E P T' (mkF m pc' Ls (pushV v rest))) : Go p e below Z n0 kg E P T (mkF m pc Ls st) := by
  subst hp hst
  have hk1' := w.hw hk1
  have hk2' := w.hw hk2
  have hk3' := w.hw hk3
  have hk4' := w.hw hk4
  have hk5' := w.hw hk5
  have hk6' := w.hw hk6
  obtain ⟨⟨locs, X, N⟩, H, hx, hZ, hown, hby, hml, hret, hlk, hnm, hws⟩ := w
  obtain ⟨cl, hcl, hst0⟩ := (H.obj hi).1.cell
  have hpa : s.PrivateAt y' := Cond.privateMethod_at (mvP hZ hk5' (args := #[]))
  have hin : (Cond.instanceMethod y').before args s = true := mvT hZ hk2'
  have hic : (Cond.instantiable y'.cls nI).before args s = true := mvT hZ hk6'
  obtain ⟨cI, kI, i1, i2, i3, i4, -⟩ := Cond.instantiable_spec hic
  have hsel : (Cond.selects y'.cls y' y').before args s = true := selects_self_of_private i1 i2 (Bool.or_eq_false_iff.mp i4).1 hpa hin hy
  obtain ⟨v, vm₁, B, -, X', hQ, st'⟩ := X.privateBack hx (y := y') hown (mvT hZ hk1') hin hsel hpa (mvT hZ hk4') hy (Con.back C H hZ hk4' hk3' hf hl) (g := mkF m pc Ls (argsL.reverse ++ .ref a :: rest)) rfl (by rw [hml]; exact hsz) (Steps.refl _) (a := a) hcl hst0 (argsL := argsL) (rest := rest) (lenOf hpd hlen) rfl (by show 2 * 0 + _ ≤ _; rw [hW]; omega) (hb hby hd) (fun _ _ => ⟨rfl, rfl, hc, hs⟩)
  exact (g_behind (rm := rm) (P' := P') N hx hZ hown hby hml hret hlk hnm hws X' hQ kt).pre fun t q => st'.trans q
/-! ## from the case's words to the contract of the law -/
theorem fr_end {Lc : List Loc} {v : Option Value} {u : State} (N : Fr s.heap.size Lc) (hq : FrameEnd s (.returned v) u Lc kc ks) (L0 : List Loc) {kc' ks' : Nat} (h1 : kc ≤ kc') (h2 : ks ≤ ks') : FrameEnd s (.returned v) u L0 kc' ks' :=
  ⟨hq.1, hq.2.1, (hq.2.2.sift fun y hy => Or.inr (N y hy)).mono h1 h2⟩
end Walk
end Jvm.OwnW
namespace Jvm.Pilot.@@N@@
open Jvm Jvm.ClassFile Sem Op Lib Jvm.Free Jvm.Stand Jvm.LawKit Jvm.RoadKit Bundle Jvm.OwnW Jvm.Pilot.@@N@@.Jvm.D
def own_dig (x : Int32) : Int32 := if x < 48 then 0 else if 57 < x then 0 else 1
def own_AF (u : Int32) : Int32 := if u < 65 then 0 else if 70 < u then 0 else 1
def own_hex (u : Int32) : Int32 := if own_dig u = 0 then (if u < 97 then own_AF u else if 102 < u then own_AF u else 1) else 1
def own_lo (u : Int32) : Int32 := if u ||| 32 < 97 then 0 else if 102 < u ||| 32 then 0 else 1
def own_ref (u : Int32) : Int32 := if u.toInt64 - 48 < 0 then own_lo u else if 9 < u.toInt64 - 48 then own_lo u else 1
theorem own_or32 (n : Nat) : (n % 64 < 32 → n ||| 32 = n + 32) ∧ (32 ≤ n % 64 → n ||| 32 = n) := by
  have h1 : (n ||| 32) / 64 = n / 64 := by
    have := Nat.shiftRight_or_distrib (a := n) (b := 32) (i := 6)
    simpa [Nat.shiftRight_eq_div_pow] using this
  have h2 : (n ||| 32) % 64 = (n % 64) ||| 32 := Nat.or_mod_two_pow (a := n) (b := 32) (n := 6)
  have h3 : ∀ r, r < 64 → (r < 32 → r ||| 32 = r + 32) ∧ (32 ≤ r → r ||| 32 = r) := by decide
  have h4 := h3 (n % 64) (Nat.mod_lt _ (by decide))
  constructor
  · intro h
    have := h4.1 h
    omega
  · intro h
    have := h4.2 h
    omega
theorem own_or (u : Int32) : (u.toInt % 64 < 32 → (u ||| 32).toInt = u.toInt + 32) ∧ (32 ≤ u.toInt % 64 → (u ||| 32).toInt = u.toInt) := by
  have e1 : (u ||| 32).toInt = (u ||| 32).toBitVec.toInt := rfl
  have e2 : u.toInt = u.toBitVec.toInt := rfl
  have e3 : (u ||| 32).toBitVec.toNat = u.toBitVec.toNat ||| 32 := by rw [Int32.toBitVec_or, BitVec.toNat_or]; rfl
  have h := own_or32 u.toBitVec.toNat
  have hb := u.toBitVec.isLt
  rw [e1, e2, BitVec.toInt_eq_toNat_cond, BitVec.toInt_eq_toNat_cond, e3]
  have h5 : ∀ r, r < 64 → r ||| 32 < 64 := by decide
  constructor
  · intro k
    have k' : u.toBitVec.toNat % 64 < 32 := by split at k <;> omega
    rw [h.1 k']
    split <;> split <;> omega
  · intro k
    have k' : 32 ≤ u.toBitVec.toNat % 64 := by split at k <;> omega
    rw [h.2 k']
theorem own_eq (u : Int32) : own_hex u = own_ref u := by
  have h := own_or u
  have a := u.toInt_lt
  have b := u.le_toInt
  have s1 := c_lsub u.toInt64 48
  have s2 := c_i2l u
  have s3 := (u.toInt64 - 48).toInt_lt
  have s4 := (u.toInt64 - 48).le_toInt
  have k0 : (0 : Int64).toInt = 0 := rfl
  have k9 : (9 : Int64).toInt = 9 := rfl
  have k48' : (48 : Int64).toInt = 48 := rfl
  have k48 : (48 : Int32).toInt = 48 := rfl
  have k57 : (57 : Int32).toInt = 57 := rfl
  have k65 : (65 : Int32).toInt = 65 := rfl
  have k70 : (70 : Int32).toInt = 70 := rfl
  have k97 : (97 : Int32).toInt = 97 := rfl
  have k102 : (102 : Int32).toInt = 102 := rfl
  have n10 : ¬ (1 : Int32) = 0 := by decide
  simp only [own_hex, own_ref, own_lo, own_AF, own_dig, Int32.lt_iff_toInt_lt, Int64.lt_iff_toInt_lt]
  generalize (u ||| 32).toInt = o at *
  generalize (u.toInt64 - 48).toInt = d at *
  generalize u.toInt = t at *
  rw [k48'] at s1
  rw [k0, k9, k48, k57, k65, k70, k97, k102]
  by_cases c1 : t < 48
  · simp only [c1, if_true]
    (repeat' split) <;> first | rfl | (exfalso; omega) | (exfalso; contradiction)
  · by_cases c2 : 57 < t
    · simp only [c1, c2, if_true, if_false]
      (repeat' split) <;> first | rfl | (exfalso; omega) | (exfalso; contradiction)
    · simp only [c1, c2, if_false, n10]
      (repeat' split) <;> first | rfl | (exfalso; omega) | (exfalso; contradiction)
theorem own_ix (k : Int32) : ∃ j : Nat, ((k &&& 2147483647) % 6).toInt = (j : Int) ∧ j < 6 := by
  have h1 := c_mask k 2147483647 31 (by decide) (by decide)
  have h2 := (c_irem (k &&& 2147483647) 6 6 rfl).1 (by omega)
  refine ⟨(((k &&& 2147483647) % 6).toInt).toNat, ?_, ?_⟩ <;> omega
theorem own_at (j : Nat) (h : j < 6) : ∃ z : Int32, ([(.int (48 : Int32)), (.int (57 : Int32)), (.int (65 : Int32)), (.int (70 : Int32)), (.int (97 : Int32)), (.int (102 : Int32))] : List Value)[j]? = some (.int z) := by
  rcases j with _ | _ | _ | _ | _ | _ | j
  all_goals first | exact ⟨_, rfl⟩ | (exfalso; omega)
theorem d2_0 : decode prog_52_method_8_code 0 = .ok (.iload_n 0, 1) := by decide +kernel
theorem d2_1 : decode prog_52_method_8_code 1 = .ok (.bipush 48, 2) := by decide +kernel
theorem d2_3 : decode prog_52_method_8_code 3 = .ok (.if_icmp .lt 13, 3) := by decide +kernel
theorem d2_6 : decode prog_52_method_8_code 6 = .ok (.iload_n 0, 1) := by decide +kernel
theorem d2_7 : decode prog_52_method_8_code 7 = .ok (.bipush 57, 2) := by decide +kernel
theorem d2_9 : decode prog_52_method_8_code 9 = .ok (.if_icmp .gt 7, 3) := by decide +kernel
theorem d2_12 : decode prog_52_method_8_code 12 = .ok (.iconst 1, 1) := by decide +kernel
theorem d2_13 : decode prog_52_method_8_code 13 = .ok (.goto 4, 3) := by decide +kernel
theorem d2_16 : decode prog_52_method_8_code 16 = .ok (.iconst 0, 1) := by decide +kernel
theorem d2_17 : decode prog_52_method_8_code 17 = .ok (.ireturn, 1) := by decide +kernel
theorem pn_2 : plainFor (⟨"com/example/tillcard/tillcard/http/Tokens", "isDigit", "(I)Z"⟩ : MethodName) = true := plainFor_of_name (by first | (simp [plainName, overriddenIn]; done) | decide +kernel)
set_option maxRecDepth 65536 in
set_option maxHeartbeats 40000000 in
theorem rm2 (l : Launch) (Z : State) (a0 : Array Value) (hw : ∀ d ∈ tables_1, d.before a0 Z = true) (n0 : Nat) (u : Int32) (L : HL)  :
    Con l (⟨"com/example/tillcard/tillcard/http/Tokens", "isDigit", "(I)Z"⟩ : MethodName) prog_52_method_8_code 1 (some .boolean) ({ frames := 0, cells := 0, slots := 0, locals := 0 } : Room) Z n0 #[(.int u)] L (fun v L' => v = some (.int (own_dig u)) ∧ L' = L) := by
  refine Con.of (ws := tables_1) (a0 := a0) pn_2 hw ?_
  intro p e s m below meth cde T kb w
  refine g_entry #[.val (.int u)] (by first | (simp [entryFrame, mkF, argsToLocals, Value.category]; done) | rfl) ?_
  refine g_iloadN w d2_0 rfl 1 rfl ?_
  refine g_bipush w d2_1 (48 : Int32) rfl 3 rfl ?_
  refine g_icmp_lt w d2_3 16 (by decide) (by decide) 6 rfl (fun hc3 => ?_) (fun hc3 => ?_)
  · -- pc 16 (taken: u < (48 : Int32))
    refine g_iconst w d2_16 (0 : Int32) rfl 17 rfl ?_
    exact g_iretn w (by simp) d2_17 (by decide) (by decide) ⟨congrArg (fun z => some (Value.int z)) (by simp [own_dig, *] <;> rfl), rfl⟩
  · -- pc 6 (on: not u < (48 : Int32))
    refine g_iloadN w d2_6 rfl 7 rfl ?_
    refine g_bipush w d2_7 (57 : Int32) rfl 9 rfl ?_
    refine g_icmp_gt w d2_9 16 (by decide) (by decide) 12 rfl (fun hc9 => ?_) (fun hc9 => ?_)
    · -- pc 16 (taken: (57 : Int32) < u)
      refine g_iconst w d2_16 (0 : Int32) rfl 17 rfl ?_
      exact g_iretn w (by simp) d2_17 (by decide) (by decide) ⟨congrArg (fun z => some (Value.int z)) (by simp [own_dig, *] <;> rfl), rfl⟩
    · -- pc 12 (on: not (57 : Int32) < u)
      refine g_iconst w d2_12 (1 : Int32) rfl 13 rfl ?_
      refine g_goto w d2_13 17 (by decide) (by decide) ?_
      exact g_iretn w (by simp) d2_17 (by decide) (by decide) ⟨congrArg (fun z => some (Value.int z)) (by simp [own_dig, *] <;> rfl), rfl⟩
theorem pd_0 : parseMethodDescriptor "(I)Z" = some ⟨[.int], some .boolean⟩ := by decide +kernel
theorem d1_0 : decode prog_52_method_9_code 0 = .ok (.iload_n 0, 1) := by decide +kernel
theorem d1_1 : decode prog_52_method_9_code 1 = .ok (.invokestatic 23, 3) := by decide +kernel
theorem d1_4 : decode prog_52_method_9_code 4 = .ok (.ifCond .ne 27, 3) := by decide +kernel
theorem d1_7 : decode prog_52_method_9_code 7 = .ok (.iload_n 0, 1) := by decide +kernel
theorem d1_8 : decode prog_52_method_9_code 8 = .ok (.bipush 97, 2) := by decide +kernel
theorem d1_10 : decode prog_52_method_9_code 10 = .ok (.if_icmp .lt 9, 3) := by decide +kernel
theorem d1_13 : decode prog_52_method_9_code 13 = .ok (.iload_n 0, 1) := by decide +kernel
theorem d1_14 : decode prog_52_method_9_code 14 = .ok (.bipush 102, 2) := by decide +kernel
theorem d1_16 : decode prog_52_method_9_code 16 = .ok (.if_icmp .le 15, 3) := by decide +kernel
theorem d1_19 : decode prog_52_method_9_code 19 = .ok (.iload_n 0, 1) := by decide +kernel
theorem d1_20 : decode prog_52_method_9_code 20 = .ok (.bipush 65, 2) := by decide +kernel
theorem d1_22 : decode prog_52_method_9_code 22 = .ok (.if_icmp .lt 13, 3) := by decide +kernel
theorem d1_25 : decode prog_52_method_9_code 25 = .ok (.iload_n 0, 1) := by decide +kernel
theorem d1_26 : decode prog_52_method_9_code 26 = .ok (.bipush 70, 2) := by decide +kernel
theorem d1_28 : decode prog_52_method_9_code 28 = .ok (.if_icmp .gt 7, 3) := by decide +kernel
theorem d1_31 : decode prog_52_method_9_code 31 = .ok (.iconst 1, 1) := by decide +kernel
theorem d1_32 : decode prog_52_method_9_code 32 = .ok (.goto 4, 3) := by decide +kernel
theorem d1_35 : decode prog_52_method_9_code 35 = .ok (.iconst 0, 1) := by decide +kernel
theorem d1_36 : decode prog_52_method_9_code 36 = .ok (.ireturn, 1) := by decide +kernel
theorem pn_1 : plainFor (⟨"com/example/tillcard/tillcard/http/Tokens", "isHexDigit", "(I)Z"⟩ : MethodName) = true := plainFor_of_name (by first | (simp [plainName, overriddenIn]; done) | decide +kernel)
set_option maxRecDepth 65536 in
set_option maxHeartbeats 40000000 in
theorem rm1 (l : Launch) (Z : State) (a0 : Array Value) (hw : ∀ d ∈ tables_1, d.before a0 Z = true) (n0 : Nat) (u : Int32) (L : HL)  :
    Con l (⟨"com/example/tillcard/tillcard/http/Tokens", "isHexDigit", "(I)Z"⟩ : MethodName) prog_52_method_9_code 1 (some .boolean) ({ frames := 1, cells := 0, slots := 0, locals := 12 } : Room) Z n0 #[(.int u)] L (fun v L' => v = some (.int (own_hex u)) ∧ L' = L) := by
  refine Con.of (ws := tables_1) (a0 := a0) pn_1 hw ?_
  intro p e s m below meth cde T kb w
  refine g_entry #[.val (.int u)] (by first | (simp [entryFrame, mkF, argsToLocals, Value.category]; done) | rfl) ?_
  refine g_iloadN w d1_0 rfl 1 rfl ?_
  refine g_static w (argsL := [(.int u)]) (rest := []) (rm2 l Z a0 hw n0 u L) d1_1 6 rfl 7 rfl 4 rfl 8 rfl ⟨by decide, by decide⟩ pd_0 rfl rfl rfl 0 rfl (by decide) (by decide) (by decide) (by decide) 4 rfl (fun T v L w h => ?_)
  obtain ⟨rfl, hL⟩ := h
  replace w := w.to hL
  refine g_if_ne w d1_4 31 (by decide) (by decide) 7 rfl (fun hc4 => ?_) (fun hc4 => ?_)
  · -- pc 31 (taken: not (own_dig u) = (0 : Int32))
    refine g_iconst w d1_31 (1 : Int32) rfl 32 rfl ?_
    refine g_goto w d1_32 36 (by decide) (by decide) ?_
    exact g_iretn w (by simp) d1_36 (by decide) (by decide) ⟨congrArg (fun z => some (Value.int z)) (by simp [own_hex, own_AF, *] <;> rfl), rfl⟩
  · -- pc 7 (on: (own_dig u) = (0 : Int32))
    refine g_iloadN w d1_7 rfl 8 rfl ?_
    refine g_bipush w d1_8 (97 : Int32) rfl 10 rfl ?_
    refine g_icmp_lt w d1_10 19 (by decide) (by decide) 13 rfl (fun hc10 => ?_) (fun hc10 => ?_)
    · -- pc 19 (taken: u < (97 : Int32))
      refine g_iloadN w d1_19 rfl 20 rfl ?_
      refine g_bipush w d1_20 (65 : Int32) rfl 22 rfl ?_
      refine g_icmp_lt w d1_22 35 (by decide) (by decide) 25 rfl (fun hc22 => ?_) (fun hc22 => ?_)
      · -- pc 35 (taken: u < (65 : Int32))
        refine g_iconst w d1_35 (0 : Int32) rfl 36 rfl ?_
        exact g_iretn w (by simp) d1_36 (by decide) (by decide) ⟨congrArg (fun z => some (Value.int z)) (by simp [own_hex, own_AF, *] <;> rfl), rfl⟩
      · -- pc 25 (on: not u < (65 : Int32))
        refine g_iloadN w d1_25 rfl 26 rfl ?_
        refine g_bipush w d1_26 (70 : Int32) rfl 28 rfl ?_
        refine g_icmp_gt w d1_28 35 (by decide) (by decide) 31 rfl (fun hc28 => ?_) (fun hc28 => ?_)
        · -- pc 35 (taken: (70 : Int32) < u)
          refine g_iconst w d1_35 (0 : Int32) rfl 36 rfl ?_
          exact g_iretn w (by simp) d1_36 (by decide) (by decide) ⟨congrArg (fun z => some (Value.int z)) (by simp [own_hex, own_AF, *] <;> rfl), rfl⟩
        · -- pc 31 (on: not (70 : Int32) < u)
          refine g_iconst w d1_31 (1 : Int32) rfl 32 rfl ?_
          refine g_goto w d1_32 36 (by decide) (by decide) ?_
          exact g_iretn w (by simp) d1_36 (by decide) (by decide) ⟨congrArg (fun z => some (Value.int z)) (by simp [own_hex, own_AF, *] <;> rfl), rfl⟩
    · -- pc 13 (on: not u < (97 : Int32))
      refine g_iloadN w d1_13 rfl 14 rfl ?_
      refine g_bipush w d1_14 (102 : Int32) rfl 16 rfl ?_
      refine g_icmp_le w d1_16 31 (by decide) (by decide) 19 rfl (fun hc16 => ?_) (fun hc16 => ?_)
      · -- pc 31 (taken: not (102 : Int32) < u)
        refine g_iconst w d1_31 (1 : Int32) rfl 32 rfl ?_
        refine g_goto w d1_32 36 (by decide) (by decide) ?_
        exact g_iretn w (by simp) d1_36 (by decide) (by decide) ⟨congrArg (fun z => some (Value.int z)) (by simp [own_hex, own_AF, *] <;> rfl), rfl⟩
      · -- pc 19 (on: (102 : Int32) < u)
        refine g_iloadN w d1_19 rfl 20 rfl ?_
        refine g_bipush w d1_20 (65 : Int32) rfl 22 rfl ?_
        refine g_icmp_lt w d1_22 35 (by decide) (by decide) 25 rfl (fun hc22 => ?_) (fun hc22 => ?_)
        · -- pc 35 (taken: u < (65 : Int32))
          refine g_iconst w d1_35 (0 : Int32) rfl 36 rfl ?_
          exact g_iretn w (by simp) d1_36 (by decide) (by decide) ⟨congrArg (fun z => some (Value.int z)) (by simp [own_hex, own_AF, *] <;> rfl), rfl⟩
        · -- pc 25 (on: not u < (65 : Int32))
          refine g_iloadN w d1_25 rfl 26 rfl ?_
          refine g_bipush w d1_26 (70 : Int32) rfl 28 rfl ?_
          refine g_icmp_gt w d1_28 35 (by decide) (by decide) 31 rfl (fun hc28 => ?_) (fun hc28 => ?_)
          · -- pc 35 (taken: (70 : Int32) < u)
            refine g_iconst w d1_35 (0 : Int32) rfl 36 rfl ?_
            exact g_iretn w (by simp) d1_36 (by decide) (by decide) ⟨congrArg (fun z => some (Value.int z)) (by simp [own_hex, own_AF, *] <;> rfl), rfl⟩
          · -- pc 31 (on: not (70 : Int32) < u)
            refine g_iconst w d1_31 (1 : Int32) rfl 32 rfl ?_
            refine g_goto w d1_32 36 (by decide) (by decide) ?_
            exact g_iretn w (by simp) d1_36 (by decide) (by decide) ⟨congrArg (fun z => some (Value.int z)) (by simp [own_hex, own_AF, *] <;> rfl), rfl⟩
theorem d3_0 : decode method_2_code 0 = .ok (.iload_n 0, 1) := by decide +kernel
theorem d3_1 : decode method_2_code 1 = .ok (.i2l, 1) := by decide +kernel
theorem d3_2 : decode method_2_code 2 = .ok (.ldc2_w 7, 3) := by decide +kernel
theorem d3_5 : decode method_2_code 5 = .ok (.lsub, 1) := by decide +kernel
theorem d3_6 : decode method_2_code 6 = .ok (.lstore_n 1, 1) := by decide +kernel
theorem d3_7 : decode method_2_code 7 = .ok (.lload_n 1, 1) := by decide +kernel
theorem d3_8 : decode method_2_code 8 = .ok (.lconst 0, 1) := by decide +kernel
theorem d3_9 : decode method_2_code 9 = .ok (.lcmp, 1) := by decide +kernel
theorem d3_10 : decode method_2_code 10 = .ok (.ifCond .lt 13, 3) := by decide +kernel
theorem d3_13 : decode method_2_code 13 = .ok (.lload_n 1, 1) := by decide +kernel
theorem d3_14 : decode method_2_code 14 = .ok (.ldc2_w 9, 3) := by decide +kernel
theorem d3_17 : decode method_2_code 17 = .ok (.lcmp, 1) := by decide +kernel
theorem d3_18 : decode method_2_code 18 = .ok (.ifCond .gt 5, 3) := by decide +kernel
theorem d3_21 : decode method_2_code 21 = .ok (.iconst 1, 1) := by decide +kernel
theorem d3_22 : decode method_2_code 22 = .ok (.ireturn, 1) := by decide +kernel
theorem d3_23 : decode method_2_code 23 = .ok (.iload_n 0, 1) := by decide +kernel
theorem d3_24 : decode method_2_code 24 = .ok (.bipush 32, 2) := by decide +kernel
theorem d3_26 : decode method_2_code 26 = .ok (.ior, 1) := by decide +kernel
theorem d3_27 : decode method_2_code 27 = .ok (.istore_n 3, 1) := by decide +kernel
theorem d3_28 : decode method_2_code 28 = .ok (.iload_n 3, 1) := by decide +kernel
theorem d3_29 : decode method_2_code 29 = .ok (.bipush 97, 2) := by decide +kernel
theorem d3_31 : decode method_2_code 31 = .ok (.if_icmp .lt 13, 3) := by decide +kernel
theorem d3_34 : decode method_2_code 34 = .ok (.iload_n 3, 1) := by decide +kernel
theorem d3_35 : decode method_2_code 35 = .ok (.bipush 102, 2) := by decide +kernel
theorem d3_37 : decode method_2_code 37 = .ok (.if_icmp .gt 7, 3) := by decide +kernel
theorem d3_40 : decode method_2_code 40 = .ok (.iconst 1, 1) := by decide +kernel
theorem d3_41 : decode method_2_code 41 = .ok (.goto 4, 3) := by decide +kernel
theorem d3_44 : decode method_2_code 44 = .ok (.iconst 0, 1) := by decide +kernel
theorem d3_45 : decode method_2_code 45 = .ok (.ireturn, 1) := by decide +kernel
theorem pn_3 : plainFor (⟨"com/example/tillcard/tillcard/http/TokensIsHexDigitPinLaw", "ref", "(I)Z"⟩ : MethodName) = true := plainFor_of_name (by first | (simp [plainName, overriddenIn]; done) | decide +kernel)
set_option maxRecDepth 65536 in
set_option maxHeartbeats 40000000 in
theorem rm3 (l : Launch) (Z : State) (a0 : Array Value) (hw : ∀ d ∈ tables_1, d.before a0 Z = true) (n0 : Nat) (u : Int32) (L : HL)  :
    Con l (⟨"com/example/tillcard/tillcard/http/TokensIsHexDigitPinLaw", "ref", "(I)Z"⟩ : MethodName) method_2_code 4 (some .boolean) ({ frames := 0, cells := 0, slots := 0, locals := 0 } : Room) Z n0 #[(.int u)] L (fun v L' => v = some (.int (own_ref u)) ∧ L' = L) := by
  refine Con.of (ws := tables_1) (a0 := a0) pn_3 hw ?_
  intro p e s m below meth cde T kb w
  refine g_entry #[.val (.int u), .unset, .unset, .unset] (by first | (simp [entryFrame, mkF, argsToLocals, Value.category]; done) | rfl) ?_
  refine g_iloadN w d3_0 rfl 1 rfl ?_
  refine g_i2l w d3_1 2 rfl ?_
  refine g_ldcl w d3_2 13 rfl 5 rfl ?_
  refine g_lsub w d3_5 6 rfl ?_
  refine g_lstoreN w d3_6 7 rfl rfl #[.val (.int u), .val (.long ((u.toInt64) - (48 : Int64))), .second, .unset] rfl ?_
  refine g_lloadN w d3_7 rfl 8 rfl ?_
  refine g_lconst w d3_8 (0 : Int64) rfl 9 rfl ?_
  refine g_lcmp w d3_9 10 rfl ?_
  refine g_lif_lt w d3_10 23 (by decide) (by decide) 13 rfl (fun hc10 => ?_) (fun hc10 => ?_)
  · -- pc 23 (taken: ((u.toInt64) - (48 : Int64)) < (0 : Int64))
    refine g_iloadN w d3_23 rfl 24 rfl ?_
    refine g_bipush w d3_24 (32 : Int32) rfl 26 rfl ?_
    refine g_ior w d3_26 27 rfl ?_
    refine g_istoreN w d3_27 28 rfl rfl #[.val (.int u), .val (.long ((u.toInt64) - (48 : Int64))), .second, .val (.int (u ||| (32 : Int32)))] rfl ?_
    refine g_iloadN w d3_28 rfl 29 rfl ?_
    refine g_bipush w d3_29 (97 : Int32) rfl 31 rfl ?_
    refine g_icmp_lt w d3_31 44 (by decide) (by decide) 34 rfl (fun hc31 => ?_) (fun hc31 => ?_)
    · -- pc 44 (taken: (u ||| (32 : Int32)) < (97 : Int32))
      refine g_iconst w d3_44 (0 : Int32) rfl 45 rfl ?_
      exact g_iretn w (by simp) d3_45 (by decide) (by decide) ⟨congrArg (fun z => some (Value.int z)) (by simp [own_ref, own_lo, *] <;> rfl), rfl⟩
    · -- pc 34 (on: not (u ||| (32 : Int32)) < (97 : Int32))
      refine g_iloadN w d3_34 rfl 35 rfl ?_
      refine g_bipush w d3_35 (102 : Int32) rfl 37 rfl ?_
      refine g_icmp_gt w d3_37 44 (by decide) (by decide) 40 rfl (fun hc37 => ?_) (fun hc37 => ?_)
      · -- pc 44 (taken: (102 : Int32) < (u ||| (32 : Int32)))
        refine g_iconst w d3_44 (0 : Int32) rfl 45 rfl ?_
        exact g_iretn w (by simp) d3_45 (by decide) (by decide) ⟨congrArg (fun z => some (Value.int z)) (by simp [own_ref, own_lo, *] <;> rfl), rfl⟩
      · -- pc 40 (on: not (102 : Int32) < (u ||| (32 : Int32)))
        refine g_iconst w d3_40 (1 : Int32) rfl 41 rfl ?_
        refine g_goto w d3_41 45 (by decide) (by decide) ?_
        exact g_iretn w (by simp) d3_45 (by decide) (by decide) ⟨congrArg (fun z => some (Value.int z)) (by simp [own_ref, own_lo, *] <;> rfl), rfl⟩
  · -- pc 13 (on: not ((u.toInt64) - (48 : Int64)) < (0 : Int64))
    refine g_lloadN w d3_13 rfl 14 rfl ?_
    refine g_ldcl w d3_14 14 rfl 17 rfl ?_
    refine g_lcmp w d3_17 18 rfl ?_
    refine g_lif_gt w d3_18 23 (by decide) (by decide) 21 rfl (fun hc18 => ?_) (fun hc18 => ?_)
    · -- pc 23 (taken: (9 : Int64) < ((u.toInt64) - (48 : Int64)))
      refine g_iloadN w d3_23 rfl 24 rfl ?_
      refine g_bipush w d3_24 (32 : Int32) rfl 26 rfl ?_
      refine g_ior w d3_26 27 rfl ?_
      refine g_istoreN w d3_27 28 rfl rfl #[.val (.int u), .val (.long ((u.toInt64) - (48 : Int64))), .second, .val (.int (u ||| (32 : Int32)))] rfl ?_
      refine g_iloadN w d3_28 rfl 29 rfl ?_
      refine g_bipush w d3_29 (97 : Int32) rfl 31 rfl ?_
      refine g_icmp_lt w d3_31 44 (by decide) (by decide) 34 rfl (fun hc31 => ?_) (fun hc31 => ?_)
      · -- pc 44 (taken: (u ||| (32 : Int32)) < (97 : Int32))
        refine g_iconst w d3_44 (0 : Int32) rfl 45 rfl ?_
        exact g_iretn w (by simp) d3_45 (by decide) (by decide) ⟨congrArg (fun z => some (Value.int z)) (by simp [own_ref, own_lo, *] <;> rfl), rfl⟩
      · -- pc 34 (on: not (u ||| (32 : Int32)) < (97 : Int32))
        refine g_iloadN w d3_34 rfl 35 rfl ?_
        refine g_bipush w d3_35 (102 : Int32) rfl 37 rfl ?_
        refine g_icmp_gt w d3_37 44 (by decide) (by decide) 40 rfl (fun hc37 => ?_) (fun hc37 => ?_)
        · -- pc 44 (taken: (102 : Int32) < (u ||| (32 : Int32)))
          refine g_iconst w d3_44 (0 : Int32) rfl 45 rfl ?_
          exact g_iretn w (by simp) d3_45 (by decide) (by decide) ⟨congrArg (fun z => some (Value.int z)) (by simp [own_ref, own_lo, *] <;> rfl), rfl⟩
        · -- pc 40 (on: not (102 : Int32) < (u ||| (32 : Int32)))
          refine g_iconst w d3_40 (1 : Int32) rfl 41 rfl ?_
          refine g_goto w d3_41 45 (by decide) (by decide) ?_
          exact g_iretn w (by simp) d3_45 (by decide) (by decide) ⟨congrArg (fun z => some (Value.int z)) (by simp [own_ref, own_lo, *] <;> rfl), rfl⟩
    · -- pc 21 (on: not (9 : Int64) < ((u.toInt64) - (48 : Int64)))
      refine g_iconst w d3_21 (1 : Int32) rfl 22 rfl ?_
      exact g_iretn w (by simp) d3_22 (by decide) (by decide) ⟨congrArg (fun z => some (Value.int z)) (by simp [own_ref, own_lo, *] <;> rfl), rfl⟩
theorem pn_0 : plainFor x = true := plainFor_of_name (by first | (simp [plainName, overriddenIn, x]; done) | decide +kernel)
set_option maxRecDepth 65536 in
set_option maxHeartbeats 40000000 in
theorem rm0 (l : Launch) (Z : State) (a0 : Array Value) (hw : ∀ d ∈ tables_1, d.before a0 Z = true) (n0 : Nat) (u k : Int32)  :
    Con l x code maxLocals ret room_1 Z n0 #[(.int u), (.int k)] ([]) (fun v _ => v = some (.int 1)) := by
  refine Con.of (ws := tables_1) (a0 := a0) pn_0 hw ?_
  intro p e s m below meth cde T kb w
  refine g_entry #[.val (.int u), .val (.int k), .unset, .unset, .unset, .unset] (by first | (simp [entryFrame, mkF, argsToLocals, Value.category, maxLocals]; done) | rfl) ?_
  refine g_bipush w at_0 (6 : Int32) rfl 2 rfl ?_
  refine g_newarr w at_2 0 rfl 6 6 (by decide) (by decide) (by decide) [(.int (0 : Int32)), (.int (0 : Int32)), (.int (0 : Int32)), (.int (0 : Int32)), (.int (0 : Int32)), (.int (0 : Int32))] rfl (by decide) (by decide) 4 rfl (fun T b1 w => ?_)
  replace w := w.to (L' := [(b1, .inr (.int, [(.int (0 : Int32)), (.int (0 : Int32)), (.int (0 : Int32)), (.int (0 : Int32)), (.int (0 : Int32)), (.int (0 : Int32))]))]) rfl
  refine g_dup w at_4 rfl 5 rfl ?_
  refine g_iconst w at_5 (0 : Int32) rfl 6 rfl ?_
  refine g_bipush w at_6 (48 : Int32) rfl 8 rfl ?_
  refine g_iastore w at_8 0 rfl 0 (by decide) (Nat.le_of_ble_eq_true rfl) (.int (48 : Int32)) rfl 9 rfl (fun T w => ?_)
  replace w := w.to (L' := [(b1, .inr (.int, [(.int (48 : Int32)), (.int (0 : Int32)), (.int (0 : Int32)), (.int (0 : Int32)), (.int (0 : Int32)), (.int (0 : Int32))]))]) rfl
  refine g_dup w at_9 rfl 10 rfl ?_
  refine g_iconst w at_10 (1 : Int32) rfl 11 rfl ?_
  refine g_bipush w at_11 (57 : Int32) rfl 13 rfl ?_
  refine g_iastore w at_13 0 rfl 1 (by decide) (Nat.le_of_ble_eq_true rfl) (.int (57 : Int32)) rfl 14 rfl (fun T w => ?_)
  replace w := w.to (L' := [(b1, .inr (.int, [(.int (48 : Int32)), (.int (57 : Int32)), (.int (0 : Int32)), (.int (0 : Int32)), (.int (0 : Int32)), (.int (0 : Int32))]))]) rfl
  refine g_dup w at_14 rfl 15 rfl ?_
  refine g_iconst w at_15 (2 : Int32) rfl 16 rfl ?_
  refine g_bipush w at_16 (65 : Int32) rfl 18 rfl ?_
  refine g_iastore w at_18 0 rfl 2 (by decide) (Nat.le_of_ble_eq_true rfl) (.int (65 : Int32)) rfl 19 rfl (fun T w => ?_)
  replace w := w.to (L' := [(b1, .inr (.int, [(.int (48 : Int32)), (.int (57 : Int32)), (.int (65 : Int32)), (.int (0 : Int32)), (.int (0 : Int32)), (.int (0 : Int32))]))]) rfl
  refine g_dup w at_19 rfl 20 rfl ?_
  refine g_iconst w at_20 (3 : Int32) rfl 21 rfl ?_
  refine g_bipush w at_21 (70 : Int32) rfl 23 rfl ?_
  refine g_iastore w at_23 0 rfl 3 (by decide) (Nat.le_of_ble_eq_true rfl) (.int (70 : Int32)) rfl 24 rfl (fun T w => ?_)
  replace w := w.to (L' := [(b1, .inr (.int, [(.int (48 : Int32)), (.int (57 : Int32)), (.int (65 : Int32)), (.int (70 : Int32)), (.int (0 : Int32)), (.int (0 : Int32))]))]) rfl
  refine g_dup w at_24 rfl 25 rfl ?_
  refine g_iconst w at_25 (4 : Int32) rfl 26 rfl ?_
  refine g_bipush w at_26 (97 : Int32) rfl 28 rfl ?_
  refine g_iastore w at_28 0 rfl 4 (by decide) (Nat.le_of_ble_eq_true rfl) (.int (97 : Int32)) rfl 29 rfl (fun T w => ?_)
  replace w := w.to (L' := [(b1, .inr (.int, [(.int (48 : Int32)), (.int (57 : Int32)), (.int (65 : Int32)), (.int (70 : Int32)), (.int (97 : Int32)), (.int (0 : Int32))]))]) rfl
  refine g_dup w at_29 rfl 30 rfl ?_
  refine g_iconst w at_30 (5 : Int32) rfl 31 rfl ?_
  refine g_bipush w at_31 (102 : Int32) rfl 33 rfl ?_
  refine g_iastore w at_33 0 rfl 5 (by decide) (Nat.le_of_ble_eq_true rfl) (.int (102 : Int32)) rfl 34 rfl (fun T w => ?_)
  replace w := w.to (L' := [(b1, .inr (.int, [(.int (48 : Int32)), (.int (57 : Int32)), (.int (65 : Int32)), (.int (70 : Int32)), (.int (97 : Int32)), (.int (102 : Int32))]))]) rfl
  refine g_astoreN w at_34 35 rfl rfl #[.val (.int u), .val (.int k), .val (.ref b1), .unset, .unset, .unset] rfl ?_
  refine g_aloadN w at_35 rfl rfl 36 rfl ?_
  refine g_iloadN w at_36 rfl 37 rfl ?_
  refine g_ldci w at_37 1 rfl 39 rfl ?_
  refine g_iand w at_39 40 rfl ?_
  refine g_bipush w at_40 (6 : Int32) rfl 42 rfl ?_
  refine g_irem w at_42 (by decide) 43 rfl ?_
  obtain ⟨jn, hj, hl⟩ := own_ix k
  obtain ⟨z, hz⟩ := own_at jn hl
  refine g_iaload w at_43 0 rfl jn hj hz 44 rfl ?_
  refine g_iloadN w at_44 rfl 45 rfl ?_
  refine g_bipush w at_45 (16 : Int32) rfl 47 rfl ?_
  refine g_iushr w at_47 48 rfl ?_
  refine g_iconst w at_48 (3 : Int32) rfl 49 rfl ?_
  refine g_irem w at_49 (by decide) 50 rfl ?_
  refine g_iadd w at_50 51 rfl ?_
  refine g_iconst w at_51 (1 : Int32) rfl 52 rfl ?_
  refine g_isub w at_52 53 rfl ?_
  obtain ⟨ee, hee⟩ : ∃ own_z, own_z = (((z + ((ushrI k (16 : Int32)) % (3 : Int32))) - (1 : Int32)) : Int32) := ⟨_, rfl⟩
  refine g_istoreN w at_53 54 rfl hee.symm #[.val (.int u), .val (.int k), .val (.ref b1), .val (.int ee), .unset, .unset] rfl ?_
  refine g_iloadN w at_54 rfl 55 rfl ?_
  refine g_static w (argsL := [(.int u)]) (rest := []) (rm1 l Z a0 hw n0 u ([(b1, .inr (.int, [(.int (48 : Int32)), (.int (57 : Int32)), (.int (65 : Int32)), (.int (70 : Int32)), (.int (97 : Int32)), (.int (102 : Int32))]))])) at_55 2 rfl 3 rfl 4 rfl 5 rfl ⟨by decide, by decide⟩ pd_0 rfl rfl rfl 0 rfl (by decide) (by decide) (by decide) (by decide) 58 rfl (fun T v L w h => ?_)
  obtain ⟨rfl, hL⟩ := h
  replace w := w.to hL
  refine g_iloadN w at_58 rfl 59 rfl ?_
  refine g_static w (argsL := [(.int u)]) (rest := [(.int (own_hex u))]) (rm3 l Z a0 hw n0 u ([(b1, .inr (.int, [(.int (48 : Int32)), (.int (57 : Int32)), (.int (65 : Int32)), (.int (70 : Int32)), (.int (97 : Int32)), (.int (102 : Int32))]))])) at_59 9 rfl 10 rfl 11 rfl 12 rfl ⟨by decide, by decide⟩ pd_0 rfl rfl rfl 1 rfl (by decide) (by decide) (by decide) (by decide) 62 rfl (fun T v L w h => ?_)
  obtain ⟨rfl, hL⟩ := h
  replace w := w.to hL
  refine g_icmp_ne w at_62 69 (by decide) (by decide) 65 rfl (fun h => absurd (own_eq u) h) (fun hc62 => ?_)
  refine g_iconst w at_65 (1 : Int32) rfl 66 rfl ?_
  refine g_goto w at_66 70 (by decide) (by decide) ?_
  refine g_istore w at_70 72 rfl rfl #[.val (.int u), .val (.int k), .val (.ref b1), .val (.int ee), .val (.int (1 : Int32)), .unset] rfl ?_
  refine g_iloadN w at_72 rfl 73 rfl ?_
  refine g_static w (argsL := [(.int ee)]) (rest := []) (rm1 l Z a0 hw n0 ee ([(b1, .inr (.int, [(.int (48 : Int32)), (.int (57 : Int32)), (.int (65 : Int32)), (.int (70 : Int32)), (.int (97 : Int32)), (.int (102 : Int32))]))])) at_73 2 rfl 3 rfl 4 rfl 5 rfl ⟨by decide, by decide⟩ pd_0 rfl rfl rfl 0 rfl (by decide) (by decide) (by decide) (by decide) 76 rfl (fun T v L w h => ?_)
  obtain ⟨rfl, hL⟩ := h
  replace w := w.to hL
  refine g_iloadN w at_76 rfl 77 rfl ?_
  refine g_static w (argsL := [(.int ee)]) (rest := [(.int (own_hex ee))]) (rm3 l Z a0 hw n0 ee ([(b1, .inr (.int, [(.int (48 : Int32)), (.int (57 : Int32)), (.int (65 : Int32)), (.int (70 : Int32)), (.int (97 : Int32)), (.int (102 : Int32))]))])) at_77 9 rfl 10 rfl 11 rfl 12 rfl ⟨by decide, by decide⟩ pd_0 rfl rfl rfl 1 rfl (by decide) (by decide) (by decide) (by decide) 80 rfl (fun T v L w h => ?_)
  obtain ⟨rfl, hL⟩ := h
  replace w := w.to hL
  refine g_icmp_ne w at_80 87 (by decide) (by decide) 83 rfl (fun h => absurd (own_eq ee) h) (fun hc80 => ?_)
  refine g_iconst w at_83 (1 : Int32) rfl 84 rfl ?_
  refine g_goto w at_84 88 (by decide) (by decide) ?_
  refine g_istore w at_88 90 rfl rfl #[.val (.int u), .val (.int k), .val (.ref b1), .val (.int ee), .val (.int (1 : Int32)), .val (.int (1 : Int32))] rfl ?_
  refine g_iload w at_90 rfl 92 rfl ?_
  refine g_if_eq w at_92 104 (by decide) (by decide) 95 rfl (fun h => absurd h (by decide)) (fun hc92 => ?_)
  refine g_iload w at_95 rfl 97 rfl ?_
  refine g_if_eq w at_97 104 (by decide) (by decide) 100 rfl (fun h => absurd h (by decide)) (fun hc97 => ?_)
  refine g_iconst w at_100 (1 : Int32) rfl 101 rfl ?_
  refine g_goto w at_101 105 (by decide) (by decide) ?_
  exact g_iretn w (by simp) at_105 (by decide) (by decide) rfl
set_option maxRecDepth 65536 in
set_option maxHeartbeats 40000000 in
theorem comes_1 {Post : Tables → Env → Array Value → State → Outcome → State → Prop} (hpost : ∀ tb e args s v u, (limb_1_1.after args s (.returned v) u = true ∧ limb_1_2.after args s (.returned v) u = true ∧ True) → FrameEnd s (.returned v) u (Jvm.fieldLocs frame_1_writes args s ++ Jvm.arrayLocs frame_1_arrays args s ++ Jvm.staticLocs frame_1_statics s) 16 128 → Post tb e args s (.returned v) u) :
    ArmFor flags0 classFile x code maxLocals ret World_1 tables_1 room_1 Calls_1 rest_1 Pre_1 Post := by
  intro l hfl _ _ p e ha hc hk s m args below hf hA hF happ hP
  obtain ⟨hcalls, hrest, hpre⟩ := hP
  obtain ⟨-, -, -, hnamed, -, -, -, hat⟩ := (Spec.applies_iff hf).mp happ
  obtain ⟨hg, hn⟩ := and_e (Cond.before_iff.mp (show (Jvm.Cond.and given_1 narrow_1).before args s = true from hpre))
  obtain ⟨hcnt, g0⟩ := and_e hg
  obtain ⟨k0, g1⟩ := and_e g0
  have k1 := g1
  obtain ⟨w0, w1, rfl⟩ : ∃ w0 w1 : Value, args = #[w0, w1] := by
    have hs : args.size = 2 := by simpa [Cond.value, given_1] using hcnt
    obtain ⟨L⟩ := args
    match L, hs with
    | [w0, w1], _ => exact ⟨w0, w1, rfl⟩
  have hw := fun d (hd : d ∈ tables_1) => atoms_spec (ws := Jvm.Cond.code x code maxLocals ret :: tables_1) hat d (List.mem_cons_of_mem _ hd)
  obtain ⟨i0, e0⟩ := is_v k0
  obtain rfl : w0 = (.int i0) := Option.some.inj e0
  obtain ⟨i1, e1⟩ := is_v k1
  obtain rfl : w1 = (.int i1) := Option.some.inj e1
  obtain ⟨n, o, h1, h2, h3, _, Lc, rfl, ⟨N, LL, hH, rfl⟩, hq⟩ := rm0 l s _ hw s.heap.size i0 i1 tables_1 0 s.heap (Hp.nil (Old.start s) (Nat.zero_le _)) p e ha hc hk s m _ below hf ((Spec.applies_iff_loose hf).mp happ).1 ⟨rfl, State.Warmed39.refl s, rfl⟩ trivial
  exact ⟨n, _, h1, h2, h3, hpost _ _ _ _ _ _ ⟨Cond.after_iff.mpr rfl, Cond.after_iff.mpr (eq_i res_at (Term.int_eval (1)) rfl), trivial⟩ (fr_end N hq _ (by decide) (by decide))⟩
theorem main_1_1 : Claimed_1_1 := comes_1 fun _ _ _ _ _ _ h hF => ⟨h.1, hF⟩
theorem main_1_2 : Claimed_1_2 := comes_1 fun _ _ _ _ _ _ h hF => ⟨h.2.1, hF⟩
end Jvm.Pilot.@@N@@
namespace Jvm.Pilot.@@N@@
open Jvm Jvm.ClassFile Sem Op Lib Jvm.Free Jvm.Stand Jvm.Pilot.@@N@@.Jvm.D
/-! MADE BY PROGRAM (witnessworld.py) out of the Statement's table words and the real class files: 9 classes; the members and pool entries that the words name. The judged class is class 1, her method 2. -/
namespace start1
open Jvm.ClassFile
def u (s : String) : CpInfo := .utf8 (stringToUtf16 s)
/-- a pool by its gaps: so many unusable entries, then the entry; so many at the end -/
def gap : Nat → List CpInfo → List CpInfo
  | 0, r => r
  | n + 1, r => .unusable :: gap n r
def poolList (es : List (Nat × CpInfo)) (last : Nat) : List CpInfo := es.foldr (fun e r => gap e.1 (e.2 :: r)) (gap last [])
def pool (es : List (Nat × CpInfo)) (last : Nat) : Array CpInfo := ⟨poolList es last⟩
def fileOf (pool : Array CpInfo) (this : Nat) (attrs : Array Attribute := #[]) (ms : Array MethodInfo := #[]) (fl : Nat := 33) (sup : Nat := 0) (ifs : Array Nat := #[]) (fds : Array FieldInfo := #[]) : ClassFile where
  minorVersion := 0
  majorVersion := 65
  constantPool := pool
  accessFlags := fl
  thisClass := this
  superClass := sup
  interfaces := ifs
  fields := fds
  methods := ms
  attributes := attrs
def plain (name : String) (sup : Option ClassId) : Class where
  name := name
  kind := .ordinary
  loader := none
  accessFlags := 33
  super := sup
  interfaces := #[]
  cf := none
  fields := #[]
  methods := #[]
  instanceTypes := #[]
  staticTypes := #[]
  resolved := #[]
  callSites := []
  init := .initialized
  statics := none
  mirror := none

def pool0 : Array CpInfo := pool [(5, u "<init>"), (0, u "()V"), (1, .class_ 10), (1, u "java/lang/Object")] 113

def k0m0 : Method := { name := "<init>", desc := "()V", sig := { parameters := [], returnType := none }, accessFlags := 1, code := none }
/-- java/lang/Object -/
def k0 : Class := { plain "java/lang/Object" none with
  accessFlags := 33
  interfaces := #[]
  cf := some (fileOf pool0 8 #[] #[{ accessFlags := 1, nameIndex := 5, descriptorIndex := 6, attributes := #[] }] 33 0 #[] #[])
  fields := #[]
  methods := #[k0m0]
  instanceTypes := #[]
  staticTypes := #[]
  resolved := Array.replicate 124 none
  statics := none }

def pool1 : Array CpInfo := pool [(2, .class_ 4), (1, u "java/lang/Object"), (0, u "<init>"), (0, u "()V"), (0, .long 48), (1, .long 9), (1, .integer 2147483647), (0, .methodref 13 14), (0, .class_ 15), (0, .nameAndType 16 17), (0, u "com/example/tillcard/tillcard/http/Tokens"), (0, u "isHexDigit"), (0, u "(I)Z"), (0, .methodref 19 20), (0, .class_ 21), (0, .nameAndType 22 17), (0, u "com/example/tillcard/tillcard/http/TokensIsHexDigitPinLaw"), (0, u "ref"), (3, u "law"), (0, u "(II)Z")] 4

def k1m0 : Method := { name := "<init>", desc := "()V", sig := { parameters := [], returnType := none }, accessFlags := 2, code := none }
def k1c1 : Code := { maxStack := 4, maxLocals := 4, code := method_2_code, exceptionTable := #[], attributes := #[] }
def k1m1 : Method := { name := "ref", desc := "(I)Z", sig := { parameters := [.int], returnType := some .boolean }, accessFlags := 10, code := some k1c1 }
def k1c2 : Code := { maxStack := 4, maxLocals := 6, code := code, exceptionTable := #[], attributes := #[] }
def k1m2 : Method := { name := "law", desc := "(II)Z", sig := { parameters := [.int, .int], returnType := some .boolean }, accessFlags := 9, code := some k1c2 }
/-- com/example/tillcard/tillcard/http/TokensIsHexDigitPinLaw -/
def k1 : Class := { plain "com/example/tillcard/tillcard/http/TokensIsHexDigitPinLaw" (some 0) with
  accessFlags := 49
  interfaces := #[]
  cf := some (fileOf pool1 19 #[] #[{ accessFlags := 2, nameIndex := 5, descriptorIndex := 6, attributes := #[] }, { accessFlags := 10, nameIndex := 22, descriptorIndex := 17, attributes := #[] }, { accessFlags := 9, nameIndex := 26, descriptorIndex := 27, attributes := #[] }] 49 2 #[] #[])
  fields := #[]
  methods := #[k1m0, k1m1, k1m2]
  instanceTypes := #[]
  staticTypes := #[]
  resolved := Array.replicate 32 none
  statics := none }

def pool2 : Array CpInfo := pool [(2, .class_ 4), (1, u "java/lang/Object"), (0, u "<init>"), (0, u "()V"), (7, .class_ 16), (1, u "com/example/tillcard/tillcard/http/Tokens"), (6, .methodref 14 24), (0, .nameAndType 25 26), (0, u "isDigit"), (0, u "(I)Z"), (20, u "isHexDigit"), (0, u "TOKEN_SYMBOLS"), (0, u "Ljava/lang/String;")] 12

def k2m0 : Method := { name := "<init>", desc := "()V", sig := { parameters := [], returnType := none }, accessFlags := 2, code := none }
def k2c1 : Code := { maxStack := 2, maxLocals := 1, code := prog_52_method_8_code, exceptionTable := #[], attributes := #[] }
def k2m1 : Method := { name := "isDigit", desc := "(I)Z", sig := { parameters := [.int], returnType := some .boolean }, accessFlags := 8, code := some k2c1 }
def k2c2 : Code := { maxStack := 2, maxLocals := 1, code := prog_52_method_9_code, exceptionTable := #[], attributes := #[] }
def k2m2 : Method := { name := "isHexDigit", desc := "(I)Z", sig := { parameters := [.int], returnType := some .boolean }, accessFlags := 8, code := some k2c2 }
/-- com/example/tillcard/tillcard/http/Tokens -/
def k2 : Class := { plain "com/example/tillcard/tillcard/http/Tokens" (some 0) with
  accessFlags := 49
  interfaces := #[]
  cf := some (fileOf pool2 14 #[] #[{ accessFlags := 2, nameIndex := 5, descriptorIndex := 6, attributes := #[] }, { accessFlags := 8, nameIndex := 25, descriptorIndex := 26, attributes := #[] }, { accessFlags := 8, nameIndex := 47, descriptorIndex := 26, attributes := #[] }] 49 2 #[] #[{ accessFlags := 26, nameIndex := 48, descriptorIndex := 49, attributes := #[] }])
  fields := #[{ name := "TOKEN_SYMBOLS", type := (.object "java/lang/String"), accessFlags := 26, slot := 0, constantValue := 0 }]
  methods := #[k2m0, k2m1, k2m2]
  instanceTypes := #[]
  staticTypes := #[(.object "java/lang/String")]
  resolved := Array.replicate 62 none
  statics := none }

def pool3 : Array CpInfo := pool [(1, u "java/lang/Cloneable"), (0, .class_ 1), (0, u "java/lang/Object"), (0, .class_ 3)] 3

/-- java/lang/Cloneable -/
def k3 : Class := { plain "java/lang/Cloneable" (some 0) with
  accessFlags := 1537
  interfaces := #[]
  cf := some (fileOf pool3 2 #[] #[] 1537 4 #[] #[])
  fields := #[]
  methods := #[]
  instanceTypes := #[]
  staticTypes := #[]
  resolved := Array.replicate 8 none
  statics := none }

def pool4 : Array CpInfo := pool [(1, u "java/io/Serializable"), (0, .class_ 1), (0, u "java/lang/Object"), (0, .class_ 3)] 3

/-- java/io/Serializable -/
def k4 : Class := { plain "java/io/Serializable" (some 0) with
  accessFlags := 1537
  interfaces := #[]
  cf := some (fileOf pool4 2 #[] #[] 1537 4 #[] #[])
  fields := #[]
  methods := #[]
  instanceTypes := #[]
  staticTypes := #[]
  resolved := Array.replicate 8 none
  statics := none }

/-- the primitive byte -/
def k5 : Class := { plain "byte" none with kind := .primitive 'B', accessFlags := 0x411 }
/-- [B -/
def k6 : Class := { plain "[B" (some 0) with kind := .array 5 .byte, interfaces := #[3, 4], accessFlags := 1041 }

/-- the primitive int -/
def k7 : Class := { plain "int" none with kind := .primitive 'I', accessFlags := 0x411 }
/-- [I -/
def k8 : Class := { plain "[I" (some 0) with kind := .array 7 .int, interfaces := #[3, 4], accessFlags := 1041 }

def heap : Heap := #[]
def classes : Array Class := #[k0, k1, k2, k3, k4, k5, k6, k7, k8]
def interned : List (Array UInt16 × Addr) := []
def slotsUsed : Nat := 0
def theMethod : MethodId := ⟨1, 2⟩
def args0 : Array Value := #[.int 53, .int 5]
def aboutOver (below : List Frame) : State where
  vm := { classes := classes, interned := interned.toArray }
  heap := heap
  slotsUsed := slotsUsed
  threads := #[{ frames := .invoking theMethod args0 :: below }]
def below0 : List Frame := [.native { method := ⟨0, 0⟩, args := #[] }]
def about1 : State := aboutOver below0
def p0 : Program := .bare "" "" ""
def e0 : Env := launch0.env 0 0 0
theorem w_frames : about1.frames = Frame.invoking theMethod args0 :: below0 := rfl
set_option maxRecDepth 65536 in
theorem w_args : argsFit about1.vm theMethod args0 = true := by decide +kernel
set_option maxRecDepth 65536 in
theorem w_heap : heapFits about1 = true := by decide +kernel
set_option maxRecDepth 65536 in
theorem w_runnable : about1.curStatus? = some .runnable := by decide +kernel
set_option maxRecDepth 65536 in
theorem w_alone : about1.alone = true := by decide +kernel
set_option maxRecDepth 65536 in
theorem w_named : about1.methodNamed? x = some theMethod := by decide +kernel
set_option maxRecDepth 65536 in
theorem w_hears : about1.hears theMethod below0 = true := by decide +kernel
set_option maxRecDepth 65536 in
theorem w_ripe : about1.ripe theMethod args0 below0 = true := by decide +kernel
theorem w_running : about1.status = .running := rfl
set_option maxRecDepth 65536 in
theorem w_room : about1.hasRoom e0.platform room_1 = true :=
  launch0.hasRoom_least _ room_1 (by decide +kernel) (by decide +kernel) (by decide +kernel) (by decide +kernel) (by decide +kernel) (by decide +kernel)
theorem allAtoms_all (ts : List Jvm.Cond) (a : Array Jvm.Value) (st : Jvm.State) : (allAtoms ts).before a st = ts.all (fun c => c.before a st) := by
  induction ts with
  | nil => rfl
  | cons c t ih =>
    show (Jvm.Cond.and c (allAtoms t)).before a st = _
    rw [Jvm.Cond.before_and, ih, List.all_cons]
def words1 : List Jvm.Cond := Jvm.Cond.code x code maxLocals ret :: tables_1
/-- a 'code' word, met by the world's own term for the bytes: nothing is compared byte by byte -/
theorem code_word {y : MethodName} {bytes : ByteArray} {mx : Nat} {rt : Option FieldType} {a : Array Value} {s : State} {m : MethodId} {meth : Method} {c : Code} (h1 : s.methodNamed? y = some m) (h2 : s.vm.method? m = some meth) (h3 : meth.code = some c) (h4 : c.code = bytes)
    (h5 : (c.maxLocals == mx && c.exceptionTable.isEmpty && decide (c.maxStack ≤ mostOperands) && decide (meth.sig.returnType = rt) && !meth.locks && decide (parseMethodDescriptor y.desc = some meth.sig)) = true) : (Jvm.Cond.code y bytes mx rt).before a s = true := by
  simp only [Bool.and_eq_true, beq_iff_eq, Bool.not_eq_true', decide_eq_true_eq] at h5
  obtain ⟨⟨⟨⟨⟨g1, g2⟩, g3⟩, g4⟩, g5⟩, g6⟩ := h5
  simp [Cond.before, Cond.holds, Cond.value, h1, h2, h3, h4, g1, g2, g3, g4, g5, g6]
def isCode : Jvm.Cond → Bool
  | .code _ _ _ _ => true
  | _ => false
theorem all_split {L : List Jvm.Cond} {P : Jvm.Cond → Bool} (h1 : L.all (fun c => isCode c || P c) = true) (h2 : ∀ c ∈ L.filter isCode, P c = true) : L.all P = true := by
  refine List.all_eq_true.mpr fun c hc => ?_
  have h := List.all_eq_true.mp h1 c hc
  rcases Bool.eq_false_or_eq_true (isCode c) with hi | hi
  · exact h2 c (List.mem_filter.mpr ⟨hc, hi⟩)
  · simpa [hi] using h
set_option maxRecDepth 65536 in
theorem w_c0 : (Jvm.Cond.code x code maxLocals ret).before args0 about1 = true := code_word (m := ⟨1, 2⟩) (meth := k1m2) (c := k1c2) (by decide +kernel) rfl rfl rfl (by decide +kernel)
set_option maxRecDepth 65536 in
theorem w_c1 : (Jvm.Cond.code ({ cls := "com/example/tillcard/tillcard/http/Tokens", name := "isHexDigit", desc := "(I)Z" } : Jvm.MethodName) prog_52_method_9_code (1 : Nat) (Option.some Jvm.ClassFile.FieldType.boolean)).before args0 about1 = true := code_word (m := ⟨2, 2⟩) (meth := k2m2) (c := k2c2) (by decide +kernel) rfl rfl rfl (by decide +kernel)
set_option maxRecDepth 65536 in
theorem w_c2 : (Jvm.Cond.code ({ cls := "com/example/tillcard/tillcard/http/Tokens", name := "isDigit", desc := "(I)Z" } : Jvm.MethodName) prog_52_method_8_code (1 : Nat) (Option.some Jvm.ClassFile.FieldType.boolean)).before args0 about1 = true := code_word (m := ⟨2, 1⟩) (meth := k2m1) (c := k2c1) (by decide +kernel) rfl rfl rfl (by decide +kernel)
set_option maxRecDepth 65536 in
theorem w_c3 : (Jvm.Cond.code ({ cls := "com/example/tillcard/tillcard/http/TokensIsHexDigitPinLaw", name := "ref", desc := "(I)Z" } : Jvm.MethodName) method_2_code (4 : Nat) (Option.some Jvm.ClassFile.FieldType.boolean)).before args0 about1 = true := code_word (m := ⟨1, 1⟩) (meth := k1m1) (c := k1c1) (by decide +kernel) rfl rfl rfl (by decide +kernel)
def codes1 : List Jvm.Cond := [Jvm.Cond.code x code maxLocals ret, Jvm.Cond.code ({ cls := "com/example/tillcard/tillcard/http/Tokens", name := "isHexDigit", desc := "(I)Z" } : Jvm.MethodName) prog_52_method_9_code (1 : Nat) (Option.some Jvm.ClassFile.FieldType.boolean), Jvm.Cond.code ({ cls := "com/example/tillcard/tillcard/http/Tokens", name := "isDigit", desc := "(I)Z" } : Jvm.MethodName) prog_52_method_8_code (1 : Nat) (Option.some Jvm.ClassFile.FieldType.boolean), Jvm.Cond.code ({ cls := "com/example/tillcard/tillcard/http/TokensIsHexDigitPinLaw", name := "ref", desc := "(I)Z" } : Jvm.MethodName) method_2_code (4 : Nat) (Option.some Jvm.ClassFile.FieldType.boolean)]
set_option maxRecDepth 65536 in
theorem codes_eq : words1.filter isCode = codes1 := rfl
theorem w_codes : ∀ c ∈ words1.filter isCode, c.before args0 about1 = true := by
  rw [codes_eq]
  intro c hc
  simp only [codes1, List.mem_cons, List.not_mem_nil, or_false] at hc
  rcases hc with rfl | rfl | rfl | rfl
  · exact w_c0
  · exact w_c1
  · exact w_c2
  · exact w_c3
set_option maxRecDepth 65536 in
theorem w_t1 : words1.all (fun c => isCode c || c.before args0 about1) = true := by decide +kernel
theorem w_tables : (allAtoms (Jvm.Cond.code x code maxLocals ret :: tables_1)).before args0 about1 = true := by
  rw [allAtoms_all]
  show words1.all (fun c => c.before args0 about1) = true
  refine all_split ?_ w_codes
  rw [w_t1]
set_option maxRecDepth 65536 in
theorem w_case : (Jvm.Cond.and given_1 narrow_1).before args0 about1 = true := by decide +kernel
theorem w_applies : (headSpec (Jvm.Cond.code x code maxLocals ret :: tables_1) room_1).applies x e0.platform about1 = true :=
  (Spec.applies_iff w_frames).mpr ⟨w_running, w_runnable, w_alone, w_named, w_hears, w_ripe, w_room, w_tables⟩
theorem atStart : AtStart classFile x code maxLocals ret World_1 tables_1 room_1 Calls_1 rest_1 Pre_1 launch0 p0 e0 about1 theMethod args0 below0 :=
  ⟨lists_1, trivial, launch0.admits_env _ _ _, launch0.least_env, fairChoices_fair.cas, fairChoices_fair.clock, w_frames, w_args, w_heap, w_applies, trivial, trivial, w_case⟩
end start1
theorem witness_1 : WitnessClaimed_1 := ⟨start1.p0, start1.e0, start1.about1, start1.theMethod, start1.args0, start1.below0, start1.atStart⟩
end Jvm.Pilot.@@N@@
