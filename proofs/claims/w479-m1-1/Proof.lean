import JvmDerived
import JvmDerived.Pilot.@@N@@Statement
import JvmDerived.Pilot.@@N@@Code
set_option linter.unusedVariables false
set_option linter.unusedSimpArgs false
namespace Jvm.OwnW
open Jvm Jvm.ClassFile Sem Op Lib Jvm.Free Jvm.Stand Jvm.LawKit Jvm.RoadKit
/-! ## shifts -/
def ushrI (x y : Int32) : Int32 := (x.toUInt32 >>> (y &&& 31).toUInt32).toInt32
def shlL (x : Int64) (y : Int32) : Int64 := x <<< (y &&& 0x3f).toInt64
def shrL (x : Int64) (y : Int32) : Int64 := x >>> (y &&& 0x3f).toInt64
def ushrL (x : Int64) (y : Int32) : Int64 := (x.toUInt64 >>> (y &&& 0x3f).toInt64.toUInt64).toInt64
theorem ushrI_c (x q : Int32) (k : Nat) (hk : q.toBitVec.toNat % 32 = k) (h0 : 0 < k) : (ushrI x q).toInt = (x.toInt % 4294967296) / (2 ^ k : Nat) := c_iushr x q k hk h0
theorem shlL_c (x : Int64) (q : Int32) (k : Nat) (hk : q.toBitVec.toNat % 64 = k) : ((shlL x q).toInt - x.toInt * (2 ^ k : Nat)) % 18446744073709551616 = 0 := c_lshl x q k hk
theorem shrL_c (x : Int64) (q : Int32) (k : Nat) (hk : q.toBitVec.toNat % 64 = k) : (shrL x q).toInt = x.toInt / (2 ^ k : Nat) := c_lshr x q k hk
theorem ushrL_c (x : Int64) (q : Int32) (k : Nat) (hk : q.toBitVec.toNat % 64 = k) (h0 : 0 < k) : (ushrL x q).toInt = (x.toInt % 18446744073709551616) / (2 ^ k : Nat) := c_lushr x q k hk h0
theorem ushrL_0 (x : Int64) : ushrL x 0 = x := by
  show (x.toUInt64 >>> (0 : UInt64)).toInt64 = x
  simp
/-! ## what the walk's own cells hold -/
/-- a field: the class that declares it, its name, its descriptor, its value -/
abbrev FldE := String × String × String × Value
/-- an object (its class, its fields) or an array (its component's kind, its values) -/
abbrev Obj := (String × List FldE) ⊕ (FieldType × List Value)
abbrev HL := List (Addr × Obj)
def Is (Z : State) (h : Heap) (a : Addr) : Obj → Prop
  | .inl (C, fs) => Exa Z h a C ∧ (∀ f ∈ fs, Fld Z h a f.1 f.2.1 f.2.2.1 f.2.2.2) ∧ fs.Pairwise fun f g => RoadKit.slotOf Z f.1 f.2.1 f.2.2.1 ≠ RoadKit.slotOf Z g.1 g.2.1 g.2.2.1
  | .inr (ty, vs) => ∃ c : Cell, Arr Z h a c ty ∧ Exa Z h a ("[" ++ ty.toString) ∧ c.slots.toList = vs ∧ vs.length < 2 ^ 31
def Hp (Z : State) (n0 kb : Nat) (h : Heap) (L : HL) : Prop :=
  (Old Z n0 h ∧ kb ≤ h.size) ∧ (∀ (i : Nat) (a : Addr) (o : Obj), L[i]? = some (a, o) → n0 ≤ a ∧ Is Z h a o) ∧ ∀ (i j : Nat) (a : Addr) (o o' : Obj), L[i]? = some (a, o) → L[j]? = some (a, o') → i = j
section Heaps
variable {Z : State} {a0 : Array Value} {n0 kb : Nat} {h h' : Heap} {a b : Addr} {o : Obj} {L : HL}
theorem Is.lt (F : Is Z h a o) : a < h.size := by
  rcases o with ⟨C, fs⟩ | ⟨ty, vs⟩
  · exact F.1.lt
  · obtain ⟨c, A, -⟩ := F; exact A.lt
theorem Is.ext (F : Is Z h a o) (E : Ext h h') : Is Z h' a o := by
  rcases o with ⟨C, fs⟩ | ⟨ty, vs⟩
  · exact ⟨F.1.ext E, fun f hf => (F.2.1 f hf).ext E, F.2.2⟩
  · obtain ⟨c, A, X, r⟩ := F; exact ⟨c, A.ext E, X.ext E, r⟩
theorem Is.other {sl : Nat} {v : Value} (F : Is Z h b o) (W : Wr h h' a sl v) (q : b ≠ a) : Is Z h' b o := by
  rcases o with ⟨C, fs⟩ | ⟨ty, vs⟩
  · exact ⟨F.1.wr W, fun f hf => (F.2.1 f hf).other W (Or.inl q), F.2.2⟩
  · obtain ⟨c, A, X, r⟩ := F; exact ⟨c, A.other W q, X.wr W, r⟩
theorem Hp.nil (O : Old Z n0 h) (hk : kb ≤ h.size) : Hp Z n0 kb h [] := ⟨⟨O, hk⟩, fun i a o q => by simp at q, fun i j a o o' q => by simp at q⟩
theorem Hp.at (H : Hp Z n0 kb h L) {i : Nat} (q : L[i]? = some (a, o)) : Is Z h a o := (H.2.1 i a o q).2
theorem Hp.obj {C : String} {fs : List FldE} (H : Hp Z n0 kb h L) {i : Nat} (q : L[i]? = some (a, .inl (C, fs))) : Exa Z h a C ∧ (∀ f ∈ fs, Fld Z h a f.1 f.2.1 f.2.2.1 f.2.2.2) ∧ fs.Pairwise fun f g => RoadKit.slotOf Z f.1 f.2.1 f.2.2.1 ≠ RoadKit.slotOf Z g.1 g.2.1 g.2.2.1 := (H.2.1 i a _ q).2
theorem Hp.arr {ty : FieldType} {vs : List Value} (H : Hp Z n0 kb h L) {i : Nat} (q : L[i]? = some (a, .inr (ty, vs))) : ∃ c : Cell, Arr Z h a c ty ∧ Exa Z h a ("[" ++ ty.toString) ∧ c.slots.toList = vs ∧ vs.length < 2 ^ 31 := (H.2.1 i a _ q).2
theorem Hp.ge (H : Hp Z n0 kb h L) {i : Nat} (q : L[i]? = some (a, o)) : n0 ≤ a := (H.2.1 i a o q).1
theorem Hp.push (H : Hp Z n0 kb h L) (E : Ext h h') (hn : n0 ≤ h.size) (F : Is Z h' h.size o) : Hp Z n0 kb h' (L ++ [(h.size, o)]) := by
  have lt : ∀ {i : Nat} {b : Addr} {o' : Obj}, (L ++ [(h.size, o)])[i]? = some (b, o') → (i < L.length ∧ L[i]? = some (b, o') ∧ b < h.size) ∨ (i = L.length ∧ b = h.size ∧ o' = o) := by
    intro i b o' q
    by_cases hi : i < L.length
    · rw [List.getElem?_append_left hi] at q
      exact Or.inl ⟨hi, q, (H.at q).lt⟩
    · rw [List.getElem?_append_right (Nat.le_of_not_lt hi)] at q
      have : i - L.length = 0 := by
        cases hk : i - L.length with
        | zero => rfl
        | succ k => rw [hk] at q; simp at q
      rw [this] at q
      simp at q
      exact Or.inr ⟨by omega, q.1.symm, q.2.symm⟩
  refine ⟨⟨H.1.1.ext E, Nat.le_trans H.1.2 E.1⟩, fun i b o' q => ?_, fun i j b o1 o2 q1 q2 => ?_⟩
  · rcases lt q with ⟨-, q', -⟩ | ⟨-, rfl, rfl⟩
    · exact ⟨H.ge q', (H.at q').ext E⟩
    · exact ⟨hn, F⟩
  · rcases lt q1 with ⟨-, q1', r1⟩ | ⟨e1, r1, -⟩ <;> rcases lt q2 with ⟨-, q2', r2⟩ | ⟨e2, r2, -⟩
    · exact H.2.2 i j b o1 o2 q1' q2'
    · exact absurd r2 (Nat.ne_of_lt r1)
    · exact absurd r1 (Nat.ne_of_lt r2)
    · exact e1.trans e2.symm
theorem Hp.size (H : Hp Z n0 kb h L) : n0 ≤ h.size := H.1.1.1 ▸ H.1.1.2.1
theorem Hp.lower {kb' : Nat} (H : Hp Z n0 kb h L) (q : kb' ≤ h.size) : Hp Z n0 kb' h L := ⟨⟨H.1.1, q⟩, H.2⟩
theorem Hp.put {sl : Nat} {v : Value} {o' : Obj} (H : Hp Z n0 kb h L) {i : Nat} (q : L[i]? = some (a, o)) (W : Wr h h' a sl v) (F : Is Z h' a o') : Hp Z n0 kb h' (L.set i (a, o')) := by
  have at' : ∀ {j : Nat} {b : Addr} {o2 : Obj}, (L.set i (a, o'))[j]? = some (b, o2) → (j = i ∧ b = a ∧ o2 = o') ∨ (j ≠ i ∧ L[j]? = some (b, o2)) := by
    intro j b o2 r
    by_cases hj : j = i
    · subst hj
      rw [List.getElem?_set_self (List.getElem?_eq_some_iff.mp q).1] at r
      simp at r
      exact Or.inl ⟨rfl, r.1.symm, r.2.symm⟩
    · rw [List.getElem?_set_ne (Ne.symm hj)] at r
      exact Or.inr ⟨hj, r⟩
  refine ⟨⟨H.1.1.wr W (H.ge q), by rw [W.size]; exact H.1.2⟩, fun j b o2 r => ?_, fun j j' b o1 o2 r1 r2 => ?_⟩
  · rcases at' r with ⟨rfl, rfl, rfl⟩ | ⟨hj, r'⟩
    · exact ⟨H.ge q, F⟩
    · exact ⟨H.ge r', (H.at r').other W fun e => hj (by subst e; exact H.2.2 _ _ _ _ _ r' q)⟩
  · rcases at' r1 with ⟨rfl, rfl, rfl⟩ | ⟨n1, r1'⟩ <;> rcases at' r2 with ⟨rfl, e2, -⟩ | ⟨n2, r2'⟩
    · rfl
    · exact absurd (H.2.2 _ _ _ _ _ r2' q) n2
    · subst e2; exact absurd (H.2.2 _ _ _ _ _ r1' q) n1
    · exact H.2.2 _ _ _ _ _ r1' r2'
theorem Is.field {C : String} {fs : List FldE} {j : Nat} {O n d : String} {v w : Value} (F : Is Z h a (.inl (C, fs))) (q : fs[j]? = some (O, n, d, w)) (W : Wr h h' a (RoadKit.slotOf Z O n d) v) : Is Z h' a (.inl (C, fs.set j (O, n, d, v))) := by
  obtain ⟨E, A, D⟩ := F
  obtain ⟨hj, e⟩ := List.getElem?_eq_some_iff.mp q
  have nth : ∀ k g, k ≠ j → fs[k]? = some g → RoadKit.slotOf Z g.1 g.2.1 g.2.2.1 ≠ RoadKit.slotOf Z O n d := by
    intro k g hk r
    obtain ⟨hk', e'⟩ := List.getElem?_eq_some_iff.mp r
    rw [List.pairwise_iff_getElem] at D
    rcases Nat.lt_or_gt_of_ne hk with u | u
    · have := D k j hk' hj u; rw [e, e'] at this; exact this
    · have := D j k hj hk' u; rw [e, e'] at this; exact Ne.symm this
  refine ⟨E.wr W, fun f hf => ?_, ?_⟩
  · obtain ⟨k, hk, ek⟩ := List.mem_iff_getElem.mp hf
    by_cases hkj : k = j
    · subst hkj
      have : f = (O, n, d, v) := by rw [← ek]; simp
      subst this
      exact (A (O, n, d, w) (List.mem_of_getElem? q)).same W
    · have r : fs[k]? = some f := by
        have : (fs.set j (O, n, d, v))[k]? = some f := List.getElem?_eq_some_iff.mpr ⟨hk, ek⟩
        rwa [List.getElem?_set_ne (Ne.symm hkj)] at this
      exact (A f (List.mem_of_getElem? r)).other W (Or.inr (nth k f hkj r))
  · have em : (fs.set j (O, n, d, v)).map (fun f => RoadKit.slotOf Z f.1 f.2.1 f.2.2.1) = fs.map (fun f => RoadKit.slotOf Z f.1 f.2.1 f.2.2.1) := by
      rw [List.map_set]
      refine List.ext_getElem? fun k => ?_
      by_cases hkj : j = k
      · subst hkj
        rw [List.getElem?_set_self (by simpa using hj)]
        simp [q]
      · rw [List.getElem?_set_ne hkj]
    have D' : (fs.map (fun f => RoadKit.slotOf Z f.1 f.2.1 f.2.2.1)).Pairwise (· ≠ ·) := List.pairwise_map.mpr D
    rw [← em] at D'
    exact List.pairwise_map.mp D'
theorem Is.elem {ty : FieldType} {vs : List Value} {v : Value} {c : Cell} (A : Arr Z h a c ty) (X : Exa Z h a ("[" ++ ty.toString)) (e : c.slots.toList = vs) (hl : vs.length < 2 ^ 31) {j : Nat} (W : Wr h h' a j v) : Is Z h' a (.inr (ty, vs.set j v)) :=
  ⟨c.setSlot j v, A.same W, X.wr W, by subst e; simp [Cell.setSlot], by simpa using hl⟩
/-- the fields of a fresh object -/
def FOk (Z : State) (a0 : Array Value) (C : String) : List FldE → Prop
  | [] => True
  | (O, n, d, v) :: r => Laid Z a0 C O n d ∧ (∃ ty, parseFieldDescriptor d = some ty ∧ v = defaultValue ty) ∧ FOk Z a0 C r
theorem FOk.cons {C O n d : String} {v : Value} {ty : FieldType} {r : List FldE} (l : Laid Z a0 C O n d) (p : parseFieldDescriptor d = some ty) (e : v = defaultValue ty) (k : FOk Z a0 C r) : FOk Z a0 C ((O, n, d, v) :: r) := ⟨l, ⟨ty, p, e⟩, k⟩
theorem FOk.mem {C : String} : ∀ {fs : List FldE}, FOk Z a0 C fs → ∀ f ∈ fs, Laid Z a0 C f.1 f.2.1 f.2.2.1 ∧ ∃ ty, parseFieldDescriptor f.2.2.1 = some ty ∧ f.2.2.2 = defaultValue ty
  | [], _, _, hf => by simp at hf
  | (O, n, d, v) :: r, k, f, hf => by
    rcases List.mem_cons.mp hf with rfl | hf
    · exact ⟨k.1, k.2.1⟩
    · exact FOk.mem k.2.2 f hf
theorem FOk.pw {C : String} {fs : List FldE} (k : FOk Z a0 C fs) (hn : (fs.map fun f => f.2.1).Nodup) : fs.Pairwise fun f g => RoadKit.slotOf Z f.1 f.2.1 f.2.2.1 ≠ RoadKit.slotOf Z g.1 g.2.1 g.2.2.1 := by
  have hn' : fs.Pairwise fun f g => f.2.1 ≠ g.2.1 := List.pairwise_map.mp hn
  refine List.Pairwise.imp_of_mem ?_ hn'
  intro f g hf hg q
  obtain ⟨l1, t1, p1, -⟩ := k.mem f hf
  obtain ⟨l2, t2, p2, -⟩ := k.mem g hg
  exact slot_ne l1 l2 q p1 p2
theorem set_at {L : HL} {i : Nat} {q r : Addr × Obj} (h : L[i]? = some q) : (L.set i r)[i]? = some r := List.getElem?_set_self (List.getElem?_eq_some_iff.mp h).1
theorem set_ne {L : HL} {i j : Nat} {q r : Addr × Obj} (n : i ≠ j) (h : L[j]? = some q) : (L.set i r)[j]? = some q := (List.getElem?_set_ne n).trans h
end Heaps
/-! ## the walk: where it stands, and that it comes to its end -/
def Wd (p : Program) (l : Launch) (e : Env) (R : Room) (s : State) (m : MethodId) (args : Array Value) (below : List Frame) (meth : Method) (c : Code) (Z : State) (a0 : Array Value) (n0 kb : Nat) (ws : List Cond)
    (y : MethodName) (bytes : ByteArray) (ml : Nat) (ret : Option FieldType) (T : State) (L : HL) (cells slots : Nat) : Prop :=
  (∃ locs, Stand p l e R s m args below meth c T locs cells slots ∧ Fr n0 locs) ∧ Hp Z n0 kb T.heap L ∧ p.tables.exec = Jvm.exec ∧ Z.Warmed39 s.vm ∧ s.vm.findClass y.cls = some m.cls ∧ c.code = bytes ∧ c.maxLocals = ml ∧
    meth.sig.returnType = ret ∧ meth.locks = false ∧ meth.name = y.name ∧ ∀ d ∈ ws, d.before a0 Z = true
/-- how a narrow walk ends: nothing of the tables has changed but what has been resolved -/
def EndN (s : State) (kc ks : Nat) (v : Option Value) (t : State) (Lc : List Loc) : Prop := FrameEnd s (.returned v) t Lc kc ks
def Go (p : Program) (e : Env) (below : List Frame) (Z : State) (n0 kg : Nat) (E : Option Value → State → List Loc → Prop) (P : Option Value → HL → Prop) (T : State) (g : JFrame) : Prop :=
  ∃ s₂ o, Steps p.tables e below (T.setTop g) s₂ ∧ s₂.status = .running ∧ Ended s₂ below o ∧ ∃ v Lc, o = .returned v ∧ (Fr n0 Lc ∧ ∃ L', Hp Z n0 kg s₂.heap L' ∧ P v L') ∧ E v s₂ Lc
/-- a method's contract: at these arguments and these cells it returns, with P of what it returns and of the cells -/
def Con (l : Launch) (y : MethodName) (bytes : ByteArray) (ml : Nat) (ret : Option FieldType) (rm : Room) (Z : State) (n0 : Nat) (as' : Array Value) (L : HL) (P : Option Value → HL → Prop) : Prop :=
  ∀ (wx : List Cond) (kb : Nat) (h : Heap), Hp Z n0 kb h L → MetFree l y (head1 (Cond.code y bytes ml ret :: wx) rm) (fun a U => a = as' ∧ Z.Warmed39 U.vm ∧ U.heap = h) (fun _ _ _ _ _ => True)
    (fun _ U o U' => ∃ v Lc, o = .returned v ∧ (Fr n0 Lc ∧ ∃ L', Hp Z n0 kb U'.heap L' ∧ P v L') ∧ FrameEnd U o U' Lc rm.cells rm.slots)
/-- what a call leaves on the stack -/
def pushV : Option Value → List Value → List Value
  | some v, r => v :: r
  | none, r => r
theorem pushV_eq (v : Option Value) (r : List Value) : v.toList ++ r = pushV v r := by cases v <;> rfl
section Walk
variable {p : Program} {l : Launch} {e : Env} {R : Room} {s : State} {m : MethodId} {args : Array Value} {below : List Frame} {meth : Method} {c : Code} {Z : State} {a0 : Array Value} {n0 kb kg : Nat} {ws : List Cond} {y : MethodName} {bytes : ByteArray} {ml : Nat} {ret : Option FieldType} {T T' : State} {L : HL} {cells slots : Nat} {P : Option Value → HL → Prop} {E : Option Value → State → List Loc → Prop} {kc ks : Nat}
theorem Go.pre {g g' : JFrame} (k : Go p e below Z n0 kg E P T' g') (f : ∀ t, Steps p.tables e below (T'.setTop g') t → Steps p.tables e below (T.setTop g) t) : Go p e below Z n0 kg E P T g := by
  obtain ⟨s₂, o, h1, r⟩ := k
  exact ⟨s₂, o, f _ h1, r⟩
theorem Go.mono {g : JFrame} {P' : Option Value → HL → Prop} (k : Go p e below Z n0 kg E P' T g) (f : ∀ v L, P' v L → P v L) : Go p e below Z n0 kg E P T g := by
  obtain ⟨s₂, o, h1, h2, h3, v, Lc, h4, ⟨h5, L', h6, h7⟩, h8⟩ := k
  exact ⟨s₂, o, h1, h2, h3, v, Lc, h4, ⟨h5, L', h6, f _ _ h7⟩, h8⟩
section Wds
variable (w : Wd p l e R s m args below meth c Z a0 n0 kb ws y bytes ml ret T L cells slots)
theorem Wd.here (w : Wd p l e R s m args below meth c Z a0 n0 kb ws y bytes ml ret T L cells slots) : At T m c below := by obtain ⟨⟨_, X, -⟩, -⟩ := w; exact X.here
theorem Wd.hx (w : Wd p l e R s m args below meth c Z a0 n0 kb ws y bytes ml ret T L cells slots) : p.tables.exec = Jvm.exec := w.2.2.1
theorem Wd.hby (w : Wd p l e R s m args below meth c Z a0 n0 kb ws y bytes ml ret T L cells slots) : c.code = bytes := w.2.2.2.2.2.1
theorem Wd.hp (w : Wd p l e R s m args below meth c Z a0 n0 kb ws y bytes ml ret T L cells slots) : Hp Z n0 kb T.heap L := w.2.1
theorem Wd.hw (w : Wd p l e R s m args below meth c Z a0 n0 kb ws y bytes ml ret T L cells slots) {k : Nat} {d : Cond} (h : ws[k]? = some d) : d.before a0 Z = true := w.2.2.2.2.2.2.2.2.2.2 _ (List.mem_of_getElem? h)
theorem Wd.to {L' : HL} (w : Wd p l e R s m args below meth c Z a0 n0 kb ws y bytes ml ret T L cells slots) (q : L = L') : Wd p l e R s m args below meth c Z a0 n0 kb ws y bytes ml ret T L' cells slots := q ▸ w
end Wds
theorem Con.of {rm : Room} {as' : Array Value} (hpl : plainFor y = true) (hws : ∀ d ∈ ws, d.before a0 Z = true)
    (body : ∀ {p : Program} {e : Env} {s : State} {m : MethodId} {below : List Frame} {meth : Method} {c : Code} {T : State} {kb : Nat}, Wd p l e rm s m as' below meth c Z a0 n0 kb ws y bytes ml ret T L 0 0 → Go p e below Z n0 kb (EndN s rm.cells rm.slots) P T (entryFrame m as' ml)) :
    Con l y bytes ml ret rm Z n0 as' L P := by
  intro wx kb h hH
  refine MetFree.of_bodySF hpl hisR ?_
  intro p e s m args below meth c s₁ Bd hml hP hK
  obtain ⟨rfl, hZ, hh⟩ := hP
  have X0 : Stand p l e rm s m args below meth c s₁ [] 0 0 := Stand.of_body Bd
  have e0 : s₁.heap = h := by rw [← hh, Bd.state]; rfl
  obtain ⟨s₂, o, h1, h2, h3, v, Lc, rfl, h5, h6⟩ := body ⟨⟨[], X0, Fr.nil n0⟩, by rw [e0]; exact hH, Bd.exec, hZ, findClass_of_methodNamed Bd.named, Bd.bytes, hml, Bd.returns, Bd.notSynchronized, (name_of_methodNamed Bd.named Bd.method).1, hws⟩
  obtain ⟨h5a, L', h5b, h5c⟩ := h5
  exact ⟨s₂, _, h1, h2, h3, v, Lc, rfl, ⟨h5a, L', h5b, h5c⟩, h6⟩
theorem g_entry {as' : Array Value} (Ls : Array Slot) (q : entryFrame m as' ml = mkF m 0 Ls []) (k : Go p e below Z n0 kg E P T (mkF m 0 Ls [])) : Go p e below Z n0 kg E P T (entryFrame m as' ml) := by rw [q]; exact k
theorem g_int {pc : Nat} {Ls : Array Slot} {x x' : Int32} {st : List Value} (q : x = x') (k : Go p e below Z n0 kg E P T (mkF m pc Ls (.int x' :: st))) : Go p e below Z n0 kg E P T (mkF m pc Ls (.int x :: st)) := by rw [q]; exact k
theorem g_long {pc : Nat} {Ls : Array Slot} {x x' : Int64} {st : List Value} (q : x = x') (k : Go p e below Z n0 kg E P T (mkF m pc Ls (.long x' :: st))) : Go p e below Z n0 kg E P T (mkF m pc Ls (.long x :: st)) := by rw [q]; exact k
theorem g_end {f : State → State} {fs : List Frame} {v : Option Value} {g : JFrame} {locs : List Loc} (X : Stand p l e R s m args below meth c T locs cells slots) (N : Fr n0 locs) (H : Hp Z n0 kb T.heap L) (hc : cells ≤ kc) (hs : slots ≤ ks) (hP : P v L)
    (st : Steps p.tables e below (T.setTop g) (T.setFrames fs)) (h1 : (T.setFrames fs).status = .running) (h2 : Ended (T.setFrames fs) below (.returned v)) (h3 : s.WarmedH (T.setFrames fs).vm) (h4 : s.sameButNew ({ T.setFrames fs with vm := s.vm } : State) locs cells slots) :
    Go p e below Z n0 kb (EndN s kc ks) P T g :=
  ⟨_, _, st, h1, h2, v, locs, rfl, ⟨N, L, H, hP⟩, ⟨_, rfl⟩, h3, h4.mono hc hs⟩
theorem g_ret (w : Wd p l e R s m args below meth c Z a0 n0 kb ws y bytes ml none T L cells slots) {pc : Nat} {Ls : Array Slot} (hd : decode bytes pc = .ok (.return_, 1)) (hc : cells ≤ kc) (hs : slots ≤ ks) (hP : P none L) :
    Go p e below Z n0 kb (EndN s kc ks) P T (mkF m pc Ls []) := by
  obtain ⟨⟨locs, X, N⟩, H, hx, hZ, hown, hby, hml, hret, hlk, hnm, hws⟩ := w
  obtain ⟨fs, hr, h1, h2, h3, h4⟩ := X.leave (v := none) (fun _ => rfl) hlk
  exact g_end (f := id) X N H hc hs hP (X.returnOut hx hret (hb hby hd) hr) h1 h2 h3 h4
theorem g_retW {t : FieldType} {i : Instr} (w : Wd p l e R s m args below meth c Z a0 n0 kb ws y bytes ml (some t) T L cells slots) {pc : Nat} {Ls : Array Slot} {v : Value} {st : List Value} (hd : decode bytes pc = .ok (i, 1)) (hn : narrow t v = v)
    (hi : (i = .ireturn ∧ (t = .int ∨ t = .boolean ∨ t = .byte ∨ t = .char ∨ t = .short) ∧ ∃ z, v = .int z) ∨ (i = .lreturn ∧ t = .long ∧ ∃ z, v = .long z) ∨ (i = .dreturn ∧ t = .double ∧ ∃ z, v = .double z) ∨ (i = .freturn ∧ t = .float ∧ ∃ z, v = .float z) ∨ (i = .areturn ∧ t.isReference = true ∧ v.isRef = true))
    (hc : cells ≤ kc) (hs : slots ≤ ks) (hP : P (some v) L) : Go p e below Z n0 kb (EndN s kc ks) P T (mkF m pc Ls (v :: st)) := by
  obtain ⟨⟨locs, X, N⟩, H, hx, hZ, hown, hby, hml, hret, hlk, hnm, hws⟩ := w
  obtain ⟨fs, hr, h1, h2, h3, h4⟩ := X.leave (v := some v) (fun q => by rw [hret] at q; cases q) hlk
  exact g_end (f := id) X N H hc hs hP (retOut X hx hret hn hi (hb hby hd) hr) h1 h2 h3 h4
theorem g_ireti (w : Wd p l e R s m args below meth c Z a0 n0 kb ws y bytes ml (some .int) T L cells slots) {pc : Nat} {Ls : Array Slot} {z : Int32} {st : List Value} (hd : decode bytes pc = .ok (.ireturn, 1)) (hc : cells ≤ kc) (hs : slots ≤ ks) (hP : P (some (.int z)) L) :
    Go p e below Z n0 kb (EndN s kc ks) P T (mkF m pc Ls (.int z :: st)) := g_retW w hd rfl (Or.inl ⟨rfl, Or.inl rfl, z, rfl⟩) hc hs hP
theorem g_lret (w : Wd p l e R s m args below meth c Z a0 n0 kb ws y bytes ml (some .long) T L cells slots) {pc : Nat} {Ls : Array Slot} {z : Int64} {st : List Value} (hd : decode bytes pc = .ok (.lreturn, 1)) (hc : cells ≤ kc) (hs : slots ≤ ks) (hP : P (some (.long z)) L) :
    Go p e below Z n0 kb (EndN s kc ks) P T (mkF m pc Ls (.long z :: st)) := g_retW w hd rfl (Or.inr (Or.inl ⟨rfl, rfl, z, rfl⟩)) hc hs hP
theorem g_aret {t : FieldType} (w : Wd p l e R s m args below meth c Z a0 n0 kb ws y bytes ml (some t) T L cells slots) {pc : Nat} {Ls : Array Slot} {v : Value} {st : List Value} (hd : decode bytes pc = .ok (.areturn, 1)) (ht : t.isReference = true) (hv : v.isRef = true) (hn : narrow t v = v) (hc : cells ≤ kc) (hs : slots ≤ ks) (hP : P (some v) L) :
    Go p e below Z n0 kb (EndN s kc ks) P T (mkF m pc Ls (v :: st)) := g_retW w hd hn (Or.inr (Or.inr (Or.inr (Or.inr ⟨rfl, ht, hv⟩)))) hc hs hP
/-- a boolean, byte, char or short: narrowed -/
theorem g_iretn {t : FieldType} (w : Wd p l e R s m args below meth c Z a0 n0 kb ws y bytes ml (some t) T L cells slots) (ht : t = .boolean ∨ t = .byte ∨ t = .char ∨ t = .short) {pc : Nat} {Ls : Array Slot} {z : Int32} {st : List Value} (hd : decode bytes pc = .ok (.ireturn, 1)) (hc : cells ≤ kc) (hs : slots ≤ ks) (hP : P (some (.int (nar t z))) L) :
    Go p e below Z n0 kb (EndN s kc ks) P T (mkF m pc Ls (.int z :: st)) := by
  obtain ⟨⟨locs, X, N⟩, H, hx, hZ, hown, hby, hml, hret, hlk, hnm, hws⟩ := w
  obtain ⟨fs, hr, h1, h2, h3, h4⟩ := X.leave (v := some (.int (nar t z))) (fun q => by rw [hret] at q; cases q) hlk
  exact g_end (f := id) X N H hc hs hP (retN X hx hret ht (hb hby hd) hr) h1 h2 h3 h4
/-! ## constants of the pool -/
theorem g_ldci (w : Wd p l e R s m args below meth c Z a0 n0 kb ws y bytes ml ret T L cells slots) {pc : Nat} {Ls : Array Slot} {st : List Value} {idx : Nat} (hd : decode bytes pc = .ok (.ldc idx, 2)) (k : Nat) {v : Int32} (hk : ws[k]? = some (.constant y.cls idx v)) (pc' : Nat) (hp : pc + 2 = pc')
    (kt : Go p e below Z n0 kg E P T (mkF m pc' Ls (.int v :: st))) : Go p e below Z n0 kg E P T (mkF m pc Ls st) := by
  subst hp
  have hk' := w.hw hk
  obtain ⟨⟨locs, X, N⟩, H, hx, hZ, hown, hby, hml, hret, hlk, hnm, hws⟩ := w
  exact kt.pre fun t q => X.ldcInt hx hown (mvT hZ hk') (g := mkF m pc Ls st) rfl (hb hby hd) t q
theorem g_ldcl (w : Wd p l e R s m args below meth c Z a0 n0 kb ws y bytes ml ret T L cells slots) {pc : Nat} {Ls : Array Slot} {st : List Value} {idx : Nat} (hd : decode bytes pc = .ok (.ldc2_w idx, 3)) (k : Nat) {v : Int64} (hk : ws[k]? = some (.constantLong y.cls idx v)) (pc' : Nat) (hp : pc + 3 = pc')
    (kt : Go p e below Z n0 kg E P T (mkF m pc' Ls (.long v :: st))) : Go p e below Z n0 kg E P T (mkF m pc Ls st) := by
  subst hp
  have hk' := w.hw hk
  obtain ⟨⟨locs, X, N⟩, H, hx, hZ, hown, hby, hml, hret, hlk, hnm, hws⟩ := w
  exact kt.pre fun t q => X.ldc2Long hx hown (mvT hZ hk') (g := mkF m pc Ls st) rfl (hb hby hd) t q
/-! ## fields -/
theorem g_getf (w : Wd p l e R s m args below meth c Z a0 n0 kb ws y bytes ml ret T L cells slots) {pc : Nat} {Ls : Array Slot} {st : List Value} {idx : Nat} {a : Addr} {C R0 O n d : String} {fs : List FldE} {v : Value} (hd : decode bytes pc = .ok (.getfield idx, 3)) (i : Nat) (hi : L[i]? = some (a, .inl (C, fs))) (j : Nat) (hj : fs[j]? = some (O, n, d, v))
    (k : Nat) (hk : ws[k]? = some (.fieldLink y.cls idx R0 n d)) (via : Via Z R0 O n d) (pc' : Nat) (hp : pc + 3 = pc')
    (kt : ∀ T', Wd p l e R s m args below meth c Z a0 n0 kb ws y bytes ml ret T' L cells slots → Go p e below Z n0 kg E P T' (mkF m pc' Ls (v :: st))) : Go p e below Z n0 kg E P T (mkF m pc Ls (.ref a :: st)) := by
  subst hp
  have hk' := w.hw hk
  obtain ⟨⟨locs, X, N⟩, H, hx, hZ, hown, hby, hml, hret, hlk, hnm, hws⟩ := w
  have F := (H.obj hi).2.1 _ (List.mem_of_getElem? hj)
  obtain ⟨T', X', e', st'⟩ := getF X hx hZ hown (host := "") (Or.inl hk') via rfl F (g := mkF m pc Ls (.ref a :: st)) rfl rfl (hb hby hd)
  exact (kt T' ⟨⟨locs, X', N⟩, by rw [e']; exact H, hx, hZ, hown, hby, hml, hret, hlk, hnm, hws⟩).pre st'
theorem g_putf (w : Wd p l e R s m args below meth c Z a0 n0 kb ws y bytes ml ret T L cells slots) {pc : Nat} {Ls : Array Slot} {st : List Value} {idx kk : Nat} {a : Addr} {C R0 O n d : String} {fs : List FldE} {u v : Value} {ty : FieldType} (hd : decode bytes pc = .ok (.putfield idx, 3)) (i : Nat) (hi : L[i]? = some (a, .inl (C, fs))) (j : Nat) (hj : fs[j]? = some (O, n, d, u))
    (k : Nat) (hk : ws[k]? = some (.fieldLink y.cls idx R0 n d)) (via : Via Z R0 O n d) (k2 : Nat) (hk2 : ws[k2]? = some (.lays C O n d) ∨ (ws[k2]? = some (.laysFinal C O n d) ∧ y.cls = O ∧ y.name = "<init>")) (k3 : Nat) (hk3 : ws[k3]? = some (.instantiable C kk)) (hty : parseFieldDescriptor d = some ty) (hn : narrow ty v = v) (hf : fits ty v = true) (pc' : Nat) (hp : pc + 3 = pc')
    (kt : ∀ T', Wd p l e R s m args below meth c Z a0 n0 kb ws y bytes ml ret T' (L.set i (a, .inl (C, fs.set j (O, n, d, v)))) cells slots → Go p e below Z n0 kg E P T' (mkF m pc' Ls st)) : Go p e below Z n0 kg E P T (mkF m pc Ls (v :: .ref a :: st)) := by
  subst hp
  have hk' := w.hw hk
  have hk3' := w.hw hk3
  have hk2' : (Cond.lays C O n d).before a0 Z = true ∨ ((Cond.laysFinal C O n d).before a0 Z = true ∧ y.cls = O ∧ y.name = "<init>") := hk2.imp (fun q => w.hw q) fun q => ⟨w.hw q.1, q.2⟩
  obtain ⟨⟨locs, X, N⟩, H, hx, hZ, hown, hby, hml, hret, hlk, hnm, hws⟩ := w
  have I := H.obj hi
  have F := I.2.1 _ (List.mem_of_getElem? hj)
  obtain ⟨T', h', X', e', W, st'⟩ := putF X hx hZ hown (host := "") (Or.inl hk') via rfl F I.1 (hk2'.imp id fun q => ⟨q.1, q.2.1, hnm.trans q.2.2⟩) hk3' hty hn hf (g := mkF m pc Ls (v :: .ref a :: st)) rfl rfl (hb hby hd)
  refine (kt T' ⟨⟨_, X', Fr.snoc X' N (H.ge hi)⟩, ?_, hx, hZ, hown, hby, hml, hret, hlk, hnm, hws⟩).pre st'
  rw [e']
  exact H.put hi W (Is.field (H.at hi) hj W)
/-! ## new objects and arrays -/
theorem g_new (w : Wd p l e R s m args below meth c Z a0 n0 kb ws y bytes ml ret T L cells slots) {pc : Nat} {Ls : Array Slot} {st : List Value} {idx n : Nat} {C : String} (fs : List FldE) (hd : decode bytes pc = .ok (.new idx, 3)) (k1 : Nat) (hk1 : ws[k1]? = some (.classLink y.cls idx C)) (k2 : Nat) (hk2 : ws[k2]? = some (.instantiable C n)) (k3 : Nat) (hk3 : ws[k3]? = some (.initialized C))
    (hfs : FOk Z a0 C fs) (hnd : (fs.map fun f => f.2.1).Nodup) (hc : cells + 1 ≤ R.cells) (hs : slots + n ≤ R.slots) (pc' : Nat) (hp : pc + 3 = pc')
    (kt : ∀ T' a, Wd p l e R s m args below meth c Z a0 n0 kb ws y bytes ml ret T' (L ++ [(a, .inl (C, fs))]) (cells + 1) (slots + n) → Go p e below Z n0 kg E P T' (mkF m pc' Ls (.ref a :: st))) : Go p e below Z n0 kg E P T (mkF m pc Ls st) := by
  subst hp
  have hk1' := w.hw hk1
  have hk2' := w.hw hk2
  have hk3' := w.hw hk3
  obtain ⟨⟨locs, X, N⟩, H, hx, hZ, hown, hby, hml, hret, hlk, hnm, hws⟩ := w
  obtain ⟨T', h', X', e', E, A, D, -, st'⟩ := newO X hx hZ hown hk1' hk2' hk3' rfl (g := mkF m pc Ls st) rfl (hb hby hd) hc hs
  refine (kt T' T.heap.size ⟨⟨_, X', N⟩, ?_, hx, hZ, hown, hby, hml, hret, hlk, hnm, hws⟩).pre st'
  rw [e']
  refine H.push E H.size (show Exa _ _ _ _ ∧ _ ∧ _ from ⟨A, fun f hf => ?_, hfs.pw hnd⟩)
  obtain ⟨l1, t1, p1, v1⟩ := hfs.mem f hf
  rw [v1]
  exact D l1 p1
theorem g_newarr (w : Wd p l e R s m args below meth c Z a0 n0 kb ws y bytes ml ret T L cells slots) {pc : Nat} {Ls : Array Slot} {st : List Value} {aty : ArrayType} {n : Int32} (hd : decode bytes pc = .ok (.newarray aty, 2)) (k1 : Nat) (hk1 : ws[k1]? = some (.arrayClass (newarray.typeOf aty))) (nn cap : Nat) (hn : n.toInt = (nn : Int)) (hcap : nn ≤ cap) (hb8 : cap * 8 ≤ 536870912)
    (vs : List Value) (hvs : vs = List.replicate nn (defaultValue (newarray.typeOf aty))) (hc : cells + 1 ≤ R.cells) (hs : slots + cap ≤ R.slots) (pc' : Nat) (hp : pc + 2 = pc')
    (kt : ∀ T' a, Wd p l e R s m args below meth c Z a0 n0 kb ws y bytes ml ret T' (L ++ [(a, .inr (newarray.typeOf aty, vs))]) (cells + 1) (slots + cap) → Go p e below Z n0 kg E P T' (mkF m pc' Ls (.ref a :: st))) : Go p e below Z n0 kg E P T (mkF m pc Ls (.int n :: st)) := by
  subst hp hvs
  have hk1' := w.hw hk1
  obtain ⟨⟨locs, X, N⟩, H, hx, hZ, hown, hby, hml, hret, hlk, hnm, hws⟩ := w
  have q0 : ¬ n < 0 := by rw [Int32.lt_iff_toInt_lt, hn]; show ¬ ((nn : Int) < 0); omega
  have q1 : n.toNatClampNeg = nn := by have := nat_of q0; rw [hn] at this; exact (Int.ofNat.inj this).symm
  obtain ⟨T', h', cA, X', e', E, A, XA, st'⟩ := newPE X hx hZ hk1' rfl (g := mkF m pc Ls (.int n :: st)) rfl (hb hby hd) rfl q0 (cap := cap) (by rw [q1]; exact hcap) hb8 hc hs (ad := "[" ++ (newarray.typeOf aty).toString) rfl
  refine (kt T' T.heap.size ⟨⟨_, X', N⟩, ?_, hx, hZ, hown, hby, hml, hret, hlk, hnm, hws⟩).pre st'
  rw [e']
  refine H.push E H.size (show ∃ c : Cell, _ from ⟨_, A, XA, by simp [newA, q1], ?_⟩)
  have := Int32.toInt_lt n
  rw [hn] at this
  simp only [List.length_replicate]
  omega
theorem inb {j : Int32} {jn : Nat} {cl : Cell} {vs : List Value} (hj : j.toInt = (jn : Int)) (e : cl.slots.toList = vs) (hl : jn < vs.length) : ¬ (j < 0 ∨ cl.slots.size ≤ j.toNatClampNeg) ∧ j.toNatClampNeg = jn := by
  have q0 : ¬ j < 0 := by rw [Int32.lt_iff_toInt_lt, hj]; show ¬ ((jn : Int) < 0); omega
  have q1 : j.toNatClampNeg = jn := by have := nat_of q0; rw [hj] at this; exact (Int.ofNat.inj this).symm
  refine ⟨fun q => q.elim q0 fun r => ?_, q1⟩
  rw [q1] at r
  have : cl.slots.size = vs.length := by rw [← e]; simp
  omega
theorem g_alen (w : Wd p l e R s m args below meth c Z a0 n0 kb ws y bytes ml ret T L cells slots) {pc : Nat} {Ls : Array Slot} {st : List Value} {a : Addr} {ty : FieldType} {vs : List Value} (hd : decode bytes pc = .ok (.arraylength, 1)) (i : Nat) (hi : L[i]? = some (a, .inr (ty, vs))) (z : Int32) (hz : z.toInt = (vs.length : Int)) (pc' : Nat) (hp : pc + 1 = pc')
    (kt : Go p e below Z n0 kg E P T (mkF m pc' Ls (.int z :: st))) : Go p e below Z n0 kg E P T (mkF m pc Ls (.ref a :: st)) := by
  subst hp
  obtain ⟨⟨locs, X, N⟩, H, hx, hZ, hown, hby, hml, hret, hlk, hnm, hws⟩ := w
  obtain ⟨cl, A, -, ev, hl⟩ := H.arr hi
  refine kt.pre fun t q => X.arraylength hx A.1 (State.isArrayOf_alike hZ.alike A.2.1) (g := mkF m pc Ls (.ref a :: st)) rfl rfl (hb hby hd) t ?_
  have : cl.slots.size.toInt32 = z := by
    apply Int32.toInt_inj.mp
    have e1 : cl.slots.size = vs.length := by rw [← ev]; simp
    rw [hz, e1]
    exact len_toInt hl
  rw [this]
  exact q
theorem g_castA (w : Wd p l e R s m args below meth c Z a0 n0 kb ws y bytes ml ret T L cells slots) {pc : Nat} {Ls : Array Slot} {st : List Value} {a : Addr} {ty : FieldType} {vs : List Value} {idx : Nat} {K : String} (hd : decode bytes pc = .ok (.checkcast idx, 3)) (i : Nat) (hi : L[i]? = some (a, .inr (ty, vs))) (k : Nat) (hk : ws[k]? = some (.classLink y.cls idx K)) (hK : "[" ++ ty.toString = K) (pc' : Nat) (hp : pc + 3 = pc')
    (kt : ∀ T', Wd p l e R s m args below meth c Z a0 n0 kb ws y bytes ml ret T' L cells slots → Go p e below Z n0 kg E P T' (mkF m pc' Ls (.ref a :: st))) : Go p e below Z n0 kg E P T (mkF m pc Ls (.ref a :: st)) := by
  subst hp hK
  have hk' := w.hw hk
  obtain ⟨⟨locs, X, N⟩, H, hx, hZ, hown, hby, hml, hret, hlk, hnm, hws⟩ := w
  obtain ⟨cl, A, XA, ev, hl⟩ := H.arr hi
  obtain ⟨T', X', e', st'⟩ := castY X hx hZ hown hk' rfl (Ins.self XA) (g := mkF m pc Ls (.ref a :: st)) rfl rfl (hb hby hd)
  exact (kt T' ⟨⟨locs, X', N⟩, by rw [e']; exact H, hx, hZ, hown, hby, hml, hret, hlk, hnm, hws⟩).pre st'
theorem g_cloneA (w : Wd p l e R s m args below meth c Z a0 n0 kb ws y bytes ml ret T L cells slots) {pc : Nat} {Ls : Array Slot} {st : List Value} {a : Addr} {ty : FieldType} {vs : List Value} {idx : Nat} {ad : String} (hd : decode bytes pc = .ok (.invokevirtual idx, 3)) (i : Nat) (hi : L[i]? = some (a, .inr (ty, vs))) (had : "[" ++ ty.toString = ad)
    (k1 : Nat) (hk1 : ws[k1]? = some (.methodLink y.cls idx ⟨ad, "clone", "()Ljava/lang/Object;"⟩)) (k2 : Nat) (hk2 : ws[k2]? = some (.sameMethod ad "java/lang/Object" "clone" "()Ljava/lang/Object;")) (k3 : Nat) (hk3 : ws[k3]? = some (.native ⟨"java/lang/Object", "clone", "()Ljava/lang/Object;"⟩)) (k4 : Nat) (hk4 : ws[k4]? = some (.instanceMethod ⟨"java/lang/Object", "clone", "()Ljava/lang/Object;"⟩))
    (k5 : Nat) (hk5 : ws[k5]? = some (.selects ad ⟨ad, "clone", "()Ljava/lang/Object;"⟩ ⟨"java/lang/Object", "clone", "()Ljava/lang/Object;"⟩)) (k6 : Nat) (hk6 : ws[k6]? = some (.castable ad "java/lang/Cloneable")) (hfit : ∀ v ∈ vs, fits ty v = true) (hsz : Ls.size = ml) (hf : 1 ≤ R.frames) (W cap : Nat) (hW : (st.map fun v => v.category).sum = W) (hl : W + 14 ≤ R.locals) (hcap : vs.length ≤ cap) (hc : cells + 1 ≤ R.cells) (hs : slots + cap ≤ R.slots) (pc' : Nat) (hp : pc + 3 = pc')
    (kt : ∀ T' a', Wd p l e R s m args below meth c Z a0 n0 kb ws y bytes ml ret T' (L ++ [(a', .inr (ty, vs))]) (cells + 1) (slots + cap) → Go p e below Z n0 kg E P T' (mkF m pc' Ls (.ref a' :: st))) : Go p e below Z n0 kg E P T (mkF m pc Ls (.ref a :: st)) := by
  subst hp had
  have hk1' := w.hw hk1
  have hk2' := w.hw hk2
  have hk3' := w.hw hk3
  have hk4' := w.hw hk4
  have hk5' := w.hw hk5
  have hk6' := w.hw hk6
  obtain ⟨⟨locs, X, N⟩, H, hx, hZ, hown, hby, hml, hret, hlk, hnm, hws⟩ := w
  obtain ⟨cl, A, XA, ev, hL⟩ := H.arr hi
  have FC : FitC Z cl := fitC_of A fun i hi v hv => hfit v (by rw [← ev]; exact Array.mem_toList_iff.mpr (Array.mem_of_getElem? hv))
  have hlen : cl.slots.size = vs.length := by rw [← ev]; simp
  obtain ⟨T', h', X', e', E, A', XA', st'⟩ := cloneA X hx hZ hown hk1' hk2' hk3' hk4' hk5' hk6' rfl A XA FC (g := mkF m pc Ls (.ref a :: st)) rfl (by rw [hml]; exact hsz) rfl (hb hby hd) hf (W := W) (cap := cap) (by show 2 * 0 + _ ≤ _; rw [hW]; omega) hl (by rw [hlen]; exact hcap) hc hs
  refine (kt T' T.heap.size ⟨⟨_, X', N⟩, ?_, hx, hZ, hown, hby, hml, hret, hlk, hnm, hws⟩).pre st'
  rw [e']
  exact H.push E H.size ⟨_, A', XA', ev, hL⟩
/-! ## what stood at the start: statics and old objects (never written) -/
theorem Hp.old (H : Hp Z n0 kb T.heap L) : Ext Z.heap T.heap := H.1.1.2
theorem g_gets (w : Wd p l e R s m args below meth c Z a0 n0 kb ws y bytes ml ret T L cells slots) {pc : Nat} {Ls : Array Slot} {st : List Value} {idx : Nat} {O n d : String} {v : Value} (F : Sta Z Z.heap O n d v) (hd : decode bytes pc = .ok (.getstatic idx, 3)) (k : Nat) (hk : ws[k]? = some (.fieldLink y.cls idx O n d)) (pc' : Nat) (hp : pc + 3 = pc')
    (kt : ∀ T', Wd p l e R s m args below meth c Z a0 n0 kb ws y bytes ml ret T' L cells slots → Go p e below Z n0 kg E P T' (mkF m pc' Ls (v :: st))) : Go p e below Z n0 kg E P T (mkF m pc Ls st) := by
  subst hp
  have hk' := w.hw hk
  obtain ⟨⟨locs, X, N⟩, H, hx, hZ, hown, hby, hml, hret, hlk, hnm, hws⟩ := w
  obtain ⟨T', X', e', st'⟩ := getS X hx hZ hown (host := "") hk' Via.refl rfl (F.ext H.old) (g := mkF m pc Ls st) rfl (hb hby hd)
  exact (kt T' ⟨⟨locs, X', N⟩, by rw [e']; exact H, hx, hZ, hown, hby, hml, hret, hlk, hnm, hws⟩).pre st'
theorem g_getfO (w : Wd p l e R s m args below meth c Z a0 n0 kb ws y bytes ml ret T L cells slots) {pc : Nat} {Ls : Array Slot} {st : List Value} {idx : Nat} {a : Addr} {O n d : String} {v : Value} (F : Fld Z Z.heap a O n d v) (hd : decode bytes pc = .ok (.getfield idx, 3)) (k : Nat) (hk : ws[k]? = some (.fieldLink y.cls idx O n d)) (pc' : Nat) (hp : pc + 3 = pc')
    (kt : ∀ T', Wd p l e R s m args below meth c Z a0 n0 kb ws y bytes ml ret T' L cells slots → Go p e below Z n0 kg E P T' (mkF m pc' Ls (v :: st))) : Go p e below Z n0 kg E P T (mkF m pc Ls (.ref a :: st)) := by
  subst hp
  have hk' := w.hw hk
  obtain ⟨⟨locs, X, N⟩, H, hx, hZ, hown, hby, hml, hret, hlk, hnm, hws⟩ := w
  obtain ⟨T', X', e', st'⟩ := getF X hx hZ hown (host := "") (Or.inl hk') Via.refl rfl (F.ext H.old) (g := mkF m pc Ls (.ref a :: st)) rfl rfl (hb hby hd)
  exact (kt T' ⟨⟨locs, X', N⟩, by rw [e']; exact H, hx, hZ, hown, hby, hml, hret, hlk, hnm, hws⟩).pre st'
theorem g_iaload (w : Wd p l e R s m args below meth c Z a0 n0 kb ws y bytes ml ret T L cells slots) {pc : Nat} {Ls : Array Slot} {st : List Value} {a : Addr} {vs : List Value} {j : Int32} {v : Value} (hd : decode bytes pc = .ok (.iaload, 1)) (i : Nat) (hi : L[i]? = some (a, .inr (.int, vs))) (jn : Nat) (hj : j.toInt = (jn : Int)) (hv : vs[jn]? = some v) (pc' : Nat) (hp : pc + 1 = pc')
    (kt : Go p e below Z n0 kg E P T (mkF m pc' Ls (v :: st))) : Go p e below Z n0 kg E P T (mkF m pc Ls (.int j :: .ref a :: st)) := by
  subst hp
  obtain ⟨⟨locs, X, N⟩, H, hx, hZ, hown, hby, hml, hret, hlk, hnm, hws⟩ := w
  obtain ⟨cl, A, -, ev, hl⟩ := H.arr hi
  obtain ⟨q1, q2⟩ := inb hj ev (List.getElem?_eq_some_iff.mp hv).1
  exact kt.pre fun t q => X.iaload hx (j := j) (v := v) A.1 (State.isArrayOf_alike hZ.alike A.2.1) A.2.2 q1 (by rw [q2, ← hv, ← ev]; simp) (g := mkF m pc Ls (.int j :: .ref a :: st)) rfl rfl (hb hby hd) t q
theorem g_laload (w : Wd p l e R s m args below meth c Z a0 n0 kb ws y bytes ml ret T L cells slots) {pc : Nat} {Ls : Array Slot} {st : List Value} {a : Addr} {vs : List Value} {j : Int32} {v : Value} (hd : decode bytes pc = .ok (.laload, 1)) (i : Nat) (hi : L[i]? = some (a, .inr (.long, vs))) (jn : Nat) (hj : j.toInt = (jn : Int)) (hv : vs[jn]? = some v) (pc' : Nat) (hp : pc + 1 = pc')
    (kt : Go p e below Z n0 kg E P T (mkF m pc' Ls (v :: st))) : Go p e below Z n0 kg E P T (mkF m pc Ls (.int j :: .ref a :: st)) := by
  subst hp
  obtain ⟨⟨locs, X, N⟩, H, hx, hZ, hown, hby, hml, hret, hlk, hnm, hws⟩ := w
  obtain ⟨cl, A, -, ev, hl⟩ := H.arr hi
  obtain ⟨q1, q2⟩ := inb hj ev (List.getElem?_eq_some_iff.mp hv).1
  exact kt.pre fun t q => X.laload hx (j := j) (v := v) A.1 (State.isArrayOf_alike hZ.alike A.2.1) A.2.2 q1 (by rw [q2, ← hv, ← ev]; simp) (g := mkF m pc Ls (.int j :: .ref a :: st)) rfl rfl (hb hby hd) t q
theorem g_caload (w : Wd p l e R s m args below meth c Z a0 n0 kb ws y bytes ml ret T L cells slots) {pc : Nat} {Ls : Array Slot} {st : List Value} {a : Addr} {vs : List Value} {j : Int32} {v : Value} (hd : decode bytes pc = .ok (.caload, 1)) (i : Nat) (hi : L[i]? = some (a, .inr (.char, vs))) (jn : Nat) (hj : j.toInt = (jn : Int)) (hv : vs[jn]? = some v) (pc' : Nat) (hp : pc + 1 = pc')
    (kt : Go p e below Z n0 kg E P T (mkF m pc' Ls (v :: st))) : Go p e below Z n0 kg E P T (mkF m pc Ls (.int j :: .ref a :: st)) := by
  subst hp
  obtain ⟨⟨locs, X, N⟩, H, hx, hZ, hown, hby, hml, hret, hlk, hnm, hws⟩ := w
  obtain ⟨cl, A, -, ev, hl⟩ := H.arr hi
  obtain ⟨q1, q2⟩ := inb hj ev (List.getElem?_eq_some_iff.mp hv).1
  exact kt.pre fun t q => X.caload hx (j := j) (v := v) A.1 (State.isArrayOf_alike hZ.alike A.2.1) A.2.2 q1 (by rw [q2, ← hv, ← ev]; simp) (g := mkF m pc Ls (.int j :: .ref a :: st)) rfl rfl (hb hby hd) t q
theorem g_baload (w : Wd p l e R s m args below meth c Z a0 n0 kb ws y bytes ml ret T L cells slots) {pc : Nat} {Ls : Array Slot} {st : List Value} {a : Addr} {vs : List Value} {j : Int32} {v : Value} (hd : decode bytes pc = .ok (.baload, 1)) (i : Nat) (hi : L[i]? = some (a, .inr (.byte, vs))) (jn : Nat) (hj : j.toInt = (jn : Int)) (hv : vs[jn]? = some v) (pc' : Nat) (hp : pc + 1 = pc')
    (kt : Go p e below Z n0 kg E P T (mkF m pc' Ls (v :: st))) : Go p e below Z n0 kg E P T (mkF m pc Ls (.int j :: .ref a :: st)) := by
  subst hp
  obtain ⟨⟨locs, X, N⟩, H, hx, hZ, hown, hby, hml, hret, hlk, hnm, hws⟩ := w
  obtain ⟨cl, A, -, ev, hl⟩ := H.arr hi
  obtain ⟨q1, q2⟩ := inb hj ev (List.getElem?_eq_some_iff.mp hv).1
  exact kt.pre fun t q => X.baloadBytes hx (j := j) (v := v) A.1 (State.isArrayOf_alike hZ.alike A.2.1) A.2.2 q1 (by rw [q2, ← hv, ← ev]; simp) (g := mkF m pc Ls (.int j :: .ref a :: st)) rfl rfl (hb hby hd) t q
theorem g_zaload (w : Wd p l e R s m args below meth c Z a0 n0 kb ws y bytes ml ret T L cells slots) {pc : Nat} {Ls : Array Slot} {st : List Value} {a : Addr} {vs : List Value} {j : Int32} {v : Value} (hd : decode bytes pc = .ok (.baload, 1)) (i : Nat) (hi : L[i]? = some (a, .inr (.boolean, vs))) (jn : Nat) (hj : j.toInt = (jn : Int)) (hv : vs[jn]? = some v) (pc' : Nat) (hp : pc + 1 = pc')
    (kt : Go p e below Z n0 kg E P T (mkF m pc' Ls (v :: st))) : Go p e below Z n0 kg E P T (mkF m pc Ls (.int j :: .ref a :: st)) := by
  subst hp
  obtain ⟨⟨locs, X, N⟩, H, hx, hZ, hown, hby, hml, hret, hlk, hnm, hws⟩ := w
  obtain ⟨cl, A, -, ev, hl⟩ := H.arr hi
  obtain ⟨q1, q2⟩ := inb hj ev (List.getElem?_eq_some_iff.mp hv).1
  exact kt.pre fun t q => X.baloadBooleans hx (j := j) (v := v) A.1 (State.isArrayOf_alike hZ.alike A.2.1) A.2.2 q1 (by rw [q2, ← hv, ← ev]; simp) (g := mkF m pc Ls (.int j :: .ref a :: st)) rfl rfl (hb hby hd) t q
theorem g_iastore (w : Wd p l e R s m args below meth c Z a0 n0 kb ws y bytes ml ret T L cells slots) {pc : Nat} {Ls : Array Slot} {st : List Value} {a : Addr} {vs : List Value} {j : Int32} {x : Int32} (hd : decode bytes pc = .ok (.iastore, 1)) (i : Nat) (hi : L[i]? = some (a, .inr (.int, vs))) (jn : Nat) (hj : j.toInt = (jn : Int)) (hl : jn < vs.length) (v : Value) (hv : (.int x) = v) (pc' : Nat) (hp : pc + 1 = pc')
    (kt : ∀ T', Wd p l e R s m args below meth c Z a0 n0 kb ws y bytes ml ret T' (L.set i (a, .inr (.int, vs.set jn v))) cells slots → Go p e below Z n0 kg E P T' (mkF m pc' Ls st)) : Go p e below Z n0 kg E P T (mkF m pc Ls (.int x :: .int j :: .ref a :: st)) := by
  subst hp hv
  obtain ⟨⟨locs, X, N⟩, H, hx, hZ, hown, hby, hml, hret, hlk, hnm, hws⟩ := w
  obtain ⟨cl, A, XA, ev, hL⟩ := H.arr hi
  obtain ⟨q1, q2⟩ := inb hj ev hl
  obtain ⟨T', h', X', e', W, st'⟩ := stI X hx hZ rfl A (j := j) (x := x) q1 (g := mkF m pc Ls (.int x :: .int j :: .ref a :: st)) rfl rfl (hb hby hd)
  rw [q2] at W
  refine (kt T' ⟨⟨_, X', Fr.snoc X' N (H.ge hi)⟩, ?_, hx, hZ, hown, hby, hml, hret, hlk, hnm, hws⟩).pre st'
  rw [e']
  exact H.put hi W (Is.elem A XA ev hL W)
theorem g_lastore (w : Wd p l e R s m args below meth c Z a0 n0 kb ws y bytes ml ret T L cells slots) {pc : Nat} {Ls : Array Slot} {st : List Value} {a : Addr} {vs : List Value} {j : Int32} {x : Int64} (hd : decode bytes pc = .ok (.lastore, 1)) (i : Nat) (hi : L[i]? = some (a, .inr (.long, vs))) (jn : Nat) (hj : j.toInt = (jn : Int)) (hl : jn < vs.length) (v : Value) (hv : (.long x) = v) (pc' : Nat) (hp : pc + 1 = pc')
    (kt : ∀ T', Wd p l e R s m args below meth c Z a0 n0 kb ws y bytes ml ret T' (L.set i (a, .inr (.long, vs.set jn v))) cells slots → Go p e below Z n0 kg E P T' (mkF m pc' Ls st)) : Go p e below Z n0 kg E P T (mkF m pc Ls (.long x :: .int j :: .ref a :: st)) := by
  subst hp hv
  obtain ⟨⟨locs, X, N⟩, H, hx, hZ, hown, hby, hml, hret, hlk, hnm, hws⟩ := w
  obtain ⟨cl, A, XA, ev, hL⟩ := H.arr hi
  obtain ⟨q1, q2⟩ := inb hj ev hl
  obtain ⟨T', h', X', e', W, st'⟩ := stJ X hx hZ rfl A (j := j) (x := x) q1 (g := mkF m pc Ls (.long x :: .int j :: .ref a :: st)) rfl rfl (hb hby hd)
  rw [q2] at W
  refine (kt T' ⟨⟨_, X', Fr.snoc X' N (H.ge hi)⟩, ?_, hx, hZ, hown, hby, hml, hret, hlk, hnm, hws⟩).pre st'
  rw [e']
  exact H.put hi W (Is.elem A XA ev hL W)
theorem g_castore (w : Wd p l e R s m args below meth c Z a0 n0 kb ws y bytes ml ret T L cells slots) {pc : Nat} {Ls : Array Slot} {st : List Value} {a : Addr} {vs : List Value} {j : Int32} {x : Int32} (hd : decode bytes pc = .ok (.castore, 1)) (i : Nat) (hi : L[i]? = some (a, .inr (.char, vs))) (jn : Nat) (hj : j.toInt = (jn : Int)) (hl : jn < vs.length) (v : Value) (hv : (.int (nar .char x)) = v) (pc' : Nat) (hp : pc + 1 = pc')
    (kt : ∀ T', Wd p l e R s m args below meth c Z a0 n0 kb ws y bytes ml ret T' (L.set i (a, .inr (.char, vs.set jn v))) cells slots → Go p e below Z n0 kg E P T' (mkF m pc' Ls st)) : Go p e below Z n0 kg E P T (mkF m pc Ls (.int x :: .int j :: .ref a :: st)) := by
  subst hp hv
  obtain ⟨⟨locs, X, N⟩, H, hx, hZ, hown, hby, hml, hret, hlk, hnm, hws⟩ := w
  obtain ⟨cl, A, XA, ev, hL⟩ := H.arr hi
  obtain ⟨q1, q2⟩ := inb hj ev hl
  obtain ⟨T', h', X', e', W, st'⟩ := stC X hx hZ rfl A (j := j) (x := x) q1 (g := mkF m pc Ls (.int x :: .int j :: .ref a :: st)) rfl rfl (hb hby hd)
  rw [q2] at W
  refine (kt T' ⟨⟨_, X', Fr.snoc X' N (H.ge hi)⟩, ?_, hx, hZ, hown, hby, hml, hret, hlk, hnm, hws⟩).pre st'
  rw [e']
  exact H.put hi W (Is.elem A XA ev hL W)
theorem g_bastore (w : Wd p l e R s m args below meth c Z a0 n0 kb ws y bytes ml ret T L cells slots) {pc : Nat} {Ls : Array Slot} {st : List Value} {a : Addr} {vs : List Value} {j : Int32} {x : Int32} (hd : decode bytes pc = .ok (.bastore, 1)) (i : Nat) (hi : L[i]? = some (a, .inr (.byte, vs))) (jn : Nat) (hj : j.toInt = (jn : Int)) (hl : jn < vs.length) (v : Value) (hv : (.int (nar .byte x)) = v) (pc' : Nat) (hp : pc + 1 = pc')
    (kt : ∀ T', Wd p l e R s m args below meth c Z a0 n0 kb ws y bytes ml ret T' (L.set i (a, .inr (.byte, vs.set jn v))) cells slots → Go p e below Z n0 kg E P T' (mkF m pc' Ls st)) : Go p e below Z n0 kg E P T (mkF m pc Ls (.int x :: .int j :: .ref a :: st)) := by
  subst hp hv
  obtain ⟨⟨locs, X, N⟩, H, hx, hZ, hown, hby, hml, hret, hlk, hnm, hws⟩ := w
  obtain ⟨cl, A, XA, ev, hL⟩ := H.arr hi
  obtain ⟨q1, q2⟩ := inb hj ev hl
  obtain ⟨T', h', X', e', W, st'⟩ := stB X hx hZ rfl A (j := j) (x := x) q1 (g := mkF m pc Ls (.int x :: .int j :: .ref a :: st)) rfl rfl (hb hby hd)
  rw [q2] at W
  refine (kt T' ⟨⟨_, X', Fr.snoc X' N (H.ge hi)⟩, ?_, hx, hZ, hown, hby, hml, hret, hlk, hnm, hws⟩).pre st'
  rw [e']
  exact H.put hi W (Is.elem A XA ev hL W)
theorem g_zastore (w : Wd p l e R s m args below meth c Z a0 n0 kb ws y bytes ml ret T L cells slots) {pc : Nat} {Ls : Array Slot} {st : List Value} {a : Addr} {vs : List Value} {j : Int32} {x : Int32} (hd : decode bytes pc = .ok (.bastore, 1)) (i : Nat) (hi : L[i]? = some (a, .inr (.boolean, vs))) (jn : Nat) (hj : j.toInt = (jn : Int)) (hl : jn < vs.length) (v : Value) (hv : (.int (nar .boolean x)) = v) (pc' : Nat) (hp : pc + 1 = pc')
    (kt : ∀ T', Wd p l e R s m args below meth c Z a0 n0 kb ws y bytes ml ret T' (L.set i (a, .inr (.boolean, vs.set jn v))) cells slots → Go p e below Z n0 kg E P T' (mkF m pc' Ls st)) : Go p e below Z n0 kg E P T (mkF m pc Ls (.int x :: .int j :: .ref a :: st)) := by
  subst hp hv
  obtain ⟨⟨locs, X, N⟩, H, hx, hZ, hown, hby, hml, hret, hlk, hnm, hws⟩ := w
  obtain ⟨cl, A, XA, ev, hL⟩ := H.arr hi
  obtain ⟨q1, q2⟩ := inb hj ev hl
  obtain ⟨T', h', X', e', W, st'⟩ := stZ X hx hZ rfl A (j := j) (x := x) q1 (g := mkF m pc Ls (.int x :: .int j :: .ref a :: st)) rfl rfl (hb hby hd)
  rw [q2] at W
  refine (kt T' ⟨⟨_, X', Fr.snoc X' N (H.ge hi)⟩, ?_, hx, hZ, hown, hby, hml, hret, hlk, hnm, hws⟩).pre st'
  rw [e']
  exact H.put hi W (Is.elem A XA ev hL W)
theorem g_iadd (w : Wd p l e R s m args below meth c Z a0 n0 kb ws y bytes ml ret T L cells slots) {pc : Nat} {Ls : Array Slot} {x y : Int32} {st : List Value} (hd : decode bytes pc = .ok (.iadd, 1)) (pc' : Nat) (hp : pc + 1 = pc')
    (k : Go p e below Z n0 kg E P T (mkF m pc' Ls (.int (x + y) :: st))) : Go p e below Z n0 kg E P T (mkF m pc Ls (.int y :: .int x :: st)) := by
  subst hp
  exact k.pre fun t q => XS.iadd w.here w.hx rfl (hb w.hby hd) rfl q
theorem g_isub (w : Wd p l e R s m args below meth c Z a0 n0 kb ws y bytes ml ret T L cells slots) {pc : Nat} {Ls : Array Slot} {x y : Int32} {st : List Value} (hd : decode bytes pc = .ok (.isub, 1)) (pc' : Nat) (hp : pc + 1 = pc')
    (k : Go p e below Z n0 kg E P T (mkF m pc' Ls (.int (x - y) :: st))) : Go p e below Z n0 kg E P T (mkF m pc Ls (.int y :: .int x :: st)) := by
  subst hp
  exact k.pre fun t q => XS.isub w.here w.hx rfl (hb w.hby hd) rfl q
theorem g_imul (w : Wd p l e R s m args below meth c Z a0 n0 kb ws y bytes ml ret T L cells slots) {pc : Nat} {Ls : Array Slot} {x y : Int32} {st : List Value} (hd : decode bytes pc = .ok (.imul, 1)) (pc' : Nat) (hp : pc + 1 = pc')
    (k : Go p e below Z n0 kg E P T (mkF m pc' Ls (.int (x * y) :: st))) : Go p e below Z n0 kg E P T (mkF m pc Ls (.int y :: .int x :: st)) := by
  subst hp
  exact k.pre fun t q => XS.imul w.here w.hx rfl (hb w.hby hd) rfl q
theorem g_iand (w : Wd p l e R s m args below meth c Z a0 n0 kb ws y bytes ml ret T L cells slots) {pc : Nat} {Ls : Array Slot} {x y : Int32} {st : List Value} (hd : decode bytes pc = .ok (.iand, 1)) (pc' : Nat) (hp : pc + 1 = pc')
    (k : Go p e below Z n0 kg E P T (mkF m pc' Ls (.int (x &&& y) :: st))) : Go p e below Z n0 kg E P T (mkF m pc Ls (.int y :: .int x :: st)) := by
  subst hp
  exact k.pre fun t q => XS.iand w.here w.hx rfl (hb w.hby hd) rfl q
theorem g_ior (w : Wd p l e R s m args below meth c Z a0 n0 kb ws y bytes ml ret T L cells slots) {pc : Nat} {Ls : Array Slot} {x y : Int32} {st : List Value} (hd : decode bytes pc = .ok (.ior, 1)) (pc' : Nat) (hp : pc + 1 = pc')
    (k : Go p e below Z n0 kg E P T (mkF m pc' Ls (.int (x ||| y) :: st))) : Go p e below Z n0 kg E P T (mkF m pc Ls (.int y :: .int x :: st)) := by
  subst hp
  exact k.pre fun t q => XT.ior w.here w.hx rfl (hb w.hby hd) rfl q
theorem g_ixor (w : Wd p l e R s m args below meth c Z a0 n0 kb ws y bytes ml ret T L cells slots) {pc : Nat} {Ls : Array Slot} {x y : Int32} {st : List Value} (hd : decode bytes pc = .ok (.ixor, 1)) (pc' : Nat) (hp : pc + 1 = pc')
    (k : Go p e below Z n0 kg E P T (mkF m pc' Ls (.int (x ^^^ y) :: st))) : Go p e below Z n0 kg E P T (mkF m pc Ls (.int y :: .int x :: st)) := by
  subst hp
  exact k.pre fun t q => XT.ixor w.here w.hx rfl (hb w.hby hd) rfl q
theorem g_ishl (w : Wd p l e R s m args below meth c Z a0 n0 kb ws y bytes ml ret T L cells slots) {pc : Nat} {Ls : Array Slot} {x y : Int32} {st : List Value} (hd : decode bytes pc = .ok (.ishl, 1)) (pc' : Nat) (hp : pc + 1 = pc')
    (k : Go p e below Z n0 kg E P T (mkF m pc' Ls (.int (x <<< (y &&& 31)) :: st))) : Go p e below Z n0 kg E P T (mkF m pc Ls (.int y :: .int x :: st)) := by
  subst hp
  exact k.pre fun t q => XS.ishl w.here w.hx rfl (hb w.hby hd) rfl q
theorem g_ishr (w : Wd p l e R s m args below meth c Z a0 n0 kb ws y bytes ml ret T L cells slots) {pc : Nat} {Ls : Array Slot} {x y : Int32} {st : List Value} (hd : decode bytes pc = .ok (.ishr, 1)) (pc' : Nat) (hp : pc + 1 = pc')
    (k : Go p e below Z n0 kg E P T (mkF m pc' Ls (.int (x >>> (y &&& 31)) :: st))) : Go p e below Z n0 kg E P T (mkF m pc Ls (.int y :: .int x :: st)) := by
  subst hp
  exact k.pre fun t q => XS.ishr w.here w.hx rfl (hb w.hby hd) rfl q
theorem g_iushr (w : Wd p l e R s m args below meth c Z a0 n0 kb ws y bytes ml ret T L cells slots) {pc : Nat} {Ls : Array Slot} {x y : Int32} {st : List Value} (hd : decode bytes pc = .ok (.iushr, 1)) (pc' : Nat) (hp : pc + 1 = pc')
    (k : Go p e below Z n0 kg E P T (mkF m pc' Ls (.int (ushrI x y) :: st))) : Go p e below Z n0 kg E P T (mkF m pc Ls (.int y :: .int x :: st)) := by
  subst hp
  exact k.pre fun t q => XS.iushr w.here w.hx rfl (hb w.hby hd) rfl q
theorem g_ladd (w : Wd p l e R s m args below meth c Z a0 n0 kb ws y bytes ml ret T L cells slots) {pc : Nat} {Ls : Array Slot} {x y : Int64} {st : List Value} (hd : decode bytes pc = .ok (.ladd, 1)) (pc' : Nat) (hp : pc + 1 = pc')
    (k : Go p e below Z n0 kg E P T (mkF m pc' Ls (.long (x + y) :: st))) : Go p e below Z n0 kg E P T (mkF m pc Ls (.long y :: .long x :: st)) := by
  subst hp
  exact k.pre fun t q => XT.ladd w.here w.hx rfl (hb w.hby hd) rfl q
theorem g_lsub (w : Wd p l e R s m args below meth c Z a0 n0 kb ws y bytes ml ret T L cells slots) {pc : Nat} {Ls : Array Slot} {x y : Int64} {st : List Value} (hd : decode bytes pc = .ok (.lsub, 1)) (pc' : Nat) (hp : pc + 1 = pc')
    (k : Go p e below Z n0 kg E P T (mkF m pc' Ls (.long (x - y) :: st))) : Go p e below Z n0 kg E P T (mkF m pc Ls (.long y :: .long x :: st)) := by
  subst hp
  exact k.pre fun t q => XT.lsub w.here w.hx rfl (hb w.hby hd) rfl q
theorem g_lmul (w : Wd p l e R s m args below meth c Z a0 n0 kb ws y bytes ml ret T L cells slots) {pc : Nat} {Ls : Array Slot} {x y : Int64} {st : List Value} (hd : decode bytes pc = .ok (.lmul, 1)) (pc' : Nat) (hp : pc + 1 = pc')
    (k : Go p e below Z n0 kg E P T (mkF m pc' Ls (.long (x * y) :: st))) : Go p e below Z n0 kg E P T (mkF m pc Ls (.long y :: .long x :: st)) := by
  subst hp
  exact k.pre fun t q => XT.lmul w.here w.hx rfl (hb w.hby hd) rfl q
theorem g_land (w : Wd p l e R s m args below meth c Z a0 n0 kb ws y bytes ml ret T L cells slots) {pc : Nat} {Ls : Array Slot} {x y : Int64} {st : List Value} (hd : decode bytes pc = .ok (.land, 1)) (pc' : Nat) (hp : pc + 1 = pc')
    (k : Go p e below Z n0 kg E P T (mkF m pc' Ls (.long (x &&& y) :: st))) : Go p e below Z n0 kg E P T (mkF m pc Ls (.long y :: .long x :: st)) := by
  subst hp
  exact k.pre fun t q => XT.land w.here w.hx rfl (hb w.hby hd) rfl q
theorem g_lor (w : Wd p l e R s m args below meth c Z a0 n0 kb ws y bytes ml ret T L cells slots) {pc : Nat} {Ls : Array Slot} {x y : Int64} {st : List Value} (hd : decode bytes pc = .ok (.lor, 1)) (pc' : Nat) (hp : pc + 1 = pc')
    (k : Go p e below Z n0 kg E P T (mkF m pc' Ls (.long (x ||| y) :: st))) : Go p e below Z n0 kg E P T (mkF m pc Ls (.long y :: .long x :: st)) := by
  subst hp
  exact k.pre fun t q => XT.lor w.here w.hx rfl (hb w.hby hd) rfl q
theorem g_lxor (w : Wd p l e R s m args below meth c Z a0 n0 kb ws y bytes ml ret T L cells slots) {pc : Nat} {Ls : Array Slot} {x y : Int64} {st : List Value} (hd : decode bytes pc = .ok (.lxor, 1)) (pc' : Nat) (hp : pc + 1 = pc')
    (k : Go p e below Z n0 kg E P T (mkF m pc' Ls (.long (x ^^^ y) :: st))) : Go p e below Z n0 kg E P T (mkF m pc Ls (.long y :: .long x :: st)) := by
  subst hp
  exact k.pre fun t q => XT.lxor w.here w.hx rfl (hb w.hby hd) rfl q
theorem g_lshl (w : Wd p l e R s m args below meth c Z a0 n0 kb ws y bytes ml ret T L cells slots) {pc : Nat} {Ls : Array Slot} {x : Int64} {y : Int32} {st : List Value} (hd : decode bytes pc = .ok (.lshl, 1)) (pc' : Nat) (hp : pc + 1 = pc')
    (k : Go p e below Z n0 kg E P T (mkF m pc' Ls (.long (shlL x y) :: st))) : Go p e below Z n0 kg E P T (mkF m pc Ls (.int y :: .long x :: st)) := by
  subst hp
  exact k.pre fun t q => XS.lshl w.here w.hx rfl (hb w.hby hd) rfl q
theorem g_lshr (w : Wd p l e R s m args below meth c Z a0 n0 kb ws y bytes ml ret T L cells slots) {pc : Nat} {Ls : Array Slot} {x : Int64} {y : Int32} {st : List Value} (hd : decode bytes pc = .ok (.lshr, 1)) (pc' : Nat) (hp : pc + 1 = pc')
    (k : Go p e below Z n0 kg E P T (mkF m pc' Ls (.long (shrL x y) :: st))) : Go p e below Z n0 kg E P T (mkF m pc Ls (.int y :: .long x :: st)) := by
  subst hp
  exact k.pre fun t q => XS.lshr w.here w.hx rfl (hb w.hby hd) rfl q
theorem g_lushr (w : Wd p l e R s m args below meth c Z a0 n0 kb ws y bytes ml ret T L cells slots) {pc : Nat} {Ls : Array Slot} {x : Int64} {y : Int32} {st : List Value} (hd : decode bytes pc = .ok (.lushr, 1)) (pc' : Nat) (hp : pc + 1 = pc')
    (k : Go p e below Z n0 kg E P T (mkF m pc' Ls (.long (ushrL x y) :: st))) : Go p e below Z n0 kg E P T (mkF m pc Ls (.int y :: .long x :: st)) := by
  subst hp
  exact k.pre fun t q => XS.lushr w.here w.hx rfl (hb w.hby hd) rfl q
theorem g_lcmp (w : Wd p l e R s m args below meth c Z a0 n0 kb ws y bytes ml ret T L cells slots) {pc : Nat} {Ls : Array Slot} {x y : Int64} {st : List Value} (hd : decode bytes pc = .ok (.lcmp, 1)) (pc' : Nat) (hp : pc + 1 = pc')
    (k : Go p e below Z n0 kg E P T (mkF m pc' Ls (.int (XT.cmpL x y) :: st))) : Go p e below Z n0 kg E P T (mkF m pc Ls (.long y :: .long x :: st)) := by
  subst hp
  exact k.pre fun t q => XT.lcmp w.here w.hx rfl (hb w.hby hd) rfl q
theorem g_idiv (w : Wd p l e R s m args below meth c Z a0 n0 kb ws y bytes ml ret T L cells slots) {pc : Nat} {Ls : Array Slot} {x y : Int32} {st : List Value} (hd : decode bytes pc = .ok (.idiv, 1)) (hy : y ≠ 0) (pc' : Nat) (hp : pc + 1 = pc')
    (k : Go p e below Z n0 kg E P T (mkF m pc' Ls (.int (x / y) :: st))) : Go p e below Z n0 kg E P T (mkF m pc Ls (.int y :: .int x :: st)) := by
  subst hp
  exact k.pre fun t q => XS.idiv w.here w.hx rfl (hb w.hby hd) rfl hy q
theorem g_ldiv (w : Wd p l e R s m args below meth c Z a0 n0 kb ws y bytes ml ret T L cells slots) {pc : Nat} {Ls : Array Slot} {x y : Int64} {st : List Value} (hd : decode bytes pc = .ok (.ldiv, 1)) (hy : y ≠ 0) (pc' : Nat) (hp : pc + 1 = pc')
    (k : Go p e below Z n0 kg E P T (mkF m pc' Ls (.long (x / y) :: st))) : Go p e below Z n0 kg E P T (mkF m pc Ls (.long y :: .long x :: st)) := by
  subst hp
  exact k.pre fun t q => XT.ldiv w.here w.hx rfl (hb w.hby hd) rfl hy q
theorem g_irem (w : Wd p l e R s m args below meth c Z a0 n0 kb ws y bytes ml ret T L cells slots) {pc : Nat} {Ls : Array Slot} {x y : Int32} {st : List Value} (hd : decode bytes pc = .ok (.irem, 1)) (hy : y ≠ 0) (pc' : Nat) (hp : pc + 1 = pc')
    (k : Go p e below Z n0 kg E P T (mkF m pc' Ls (.int (x % y) :: st))) : Go p e below Z n0 kg E P T (mkF m pc Ls (.int y :: .int x :: st)) := by
  subst hp
  exact k.pre fun t q => XS.irem w.here w.hx rfl (hb w.hby hd) rfl hy (by rw [irem_eq_mod]; exact q)
theorem g_lrem (w : Wd p l e R s m args below meth c Z a0 n0 kb ws y bytes ml ret T L cells slots) {pc : Nat} {Ls : Array Slot} {x y : Int64} {st : List Value} (hd : decode bytes pc = .ok (.lrem, 1)) (hy : y ≠ 0) (pc' : Nat) (hp : pc + 1 = pc')
    (k : Go p e below Z n0 kg E P T (mkF m pc' Ls (.long (x % y) :: st))) : Go p e below Z n0 kg E P T (mkF m pc Ls (.long y :: .long x :: st)) := by
  subst hp
  exact k.pre fun t q => XT.lrem w.here w.hx rfl (hb w.hby hd) rfl hy (by rw [lrem_mod]; exact q)
theorem g_ineg (w : Wd p l e R s m args below meth c Z a0 n0 kb ws y bytes ml ret T L cells slots) {pc : Nat} {Ls : Array Slot} {x : Int32} {st : List Value} (hd : decode bytes pc = .ok (.ineg, 1)) (pc' : Nat) (hp : pc + 1 = pc')
    (k : Go p e below Z n0 kg E P T (mkF m pc' Ls (.int (-x) :: st))) : Go p e below Z n0 kg E P T (mkF m pc Ls (.int x :: st)) := by
  subst hp
  exact k.pre fun t q => XS.ineg w.here w.hx rfl (hb w.hby hd) rfl q
theorem g_lneg (w : Wd p l e R s m args below meth c Z a0 n0 kb ws y bytes ml ret T L cells slots) {pc : Nat} {Ls : Array Slot} {x : Int64} {st : List Value} (hd : decode bytes pc = .ok (.lneg, 1)) (pc' : Nat) (hp : pc + 1 = pc')
    (k : Go p e below Z n0 kg E P T (mkF m pc' Ls (.long (-x) :: st))) : Go p e below Z n0 kg E P T (mkF m pc Ls (.long x :: st)) := by
  subst hp
  exact k.pre fun t q => XT.lneg w.here w.hx rfl (hb w.hby hd) rfl q
theorem g_i2l (w : Wd p l e R s m args below meth c Z a0 n0 kb ws y bytes ml ret T L cells slots) {pc : Nat} {Ls : Array Slot} {x : Int32} {st : List Value} (hd : decode bytes pc = .ok (.i2l, 1)) (pc' : Nat) (hp : pc + 1 = pc')
    (k : Go p e below Z n0 kg E P T (mkF m pc' Ls (.long (x.toInt64) :: st))) : Go p e below Z n0 kg E P T (mkF m pc Ls (.int x :: st)) := by
  subst hp
  exact k.pre fun t q => XT.i2l w.here w.hx rfl (hb w.hby hd) rfl q
theorem g_l2i (w : Wd p l e R s m args below meth c Z a0 n0 kb ws y bytes ml ret T L cells slots) {pc : Nat} {Ls : Array Slot} {x : Int64} {st : List Value} (hd : decode bytes pc = .ok (.l2i, 1)) (pc' : Nat) (hp : pc + 1 = pc')
    (k : Go p e below Z n0 kg E P T (mkF m pc' Ls (.int (x.toInt32) :: st))) : Go p e below Z n0 kg E P T (mkF m pc Ls (.long x :: st)) := by
  subst hp
  exact k.pre fun t q => XT.l2i w.here w.hx rfl (hb w.hby hd) rfl q
theorem g_i2b (w : Wd p l e R s m args below meth c Z a0 n0 kb ws y bytes ml ret T L cells slots) {pc : Nat} {Ls : Array Slot} {x : Int32} {st : List Value} (hd : decode bytes pc = .ok (.i2b, 1)) (pc' : Nat) (hp : pc + 1 = pc')
    (k : Go p e below Z n0 kg E P T (mkF m pc' Ls (.int (x.toInt8.toInt32) :: st))) : Go p e below Z n0 kg E P T (mkF m pc Ls (.int x :: st)) := by
  subst hp
  exact k.pre fun t q => XT.i2b w.here w.hx rfl (hb w.hby hd) rfl q
theorem g_i2c (w : Wd p l e R s m args below meth c Z a0 n0 kb ws y bytes ml ret T L cells slots) {pc : Nat} {Ls : Array Slot} {x : Int32} {st : List Value} (hd : decode bytes pc = .ok (.i2c, 1)) (pc' : Nat) (hp : pc + 1 = pc')
    (k : Go p e below Z n0 kg E P T (mkF m pc' Ls (.int (x.toUInt32.toUInt16.toUInt32.toInt32) :: st))) : Go p e below Z n0 kg E P T (mkF m pc Ls (.int x :: st)) := by
  subst hp
  exact k.pre fun t q => XT.i2c w.here w.hx rfl (hb w.hby hd) rfl q
theorem g_i2s (w : Wd p l e R s m args below meth c Z a0 n0 kb ws y bytes ml ret T L cells slots) {pc : Nat} {Ls : Array Slot} {x : Int32} {st : List Value} (hd : decode bytes pc = .ok (.i2s, 1)) (pc' : Nat) (hp : pc + 1 = pc')
    (k : Go p e below Z n0 kg E P T (mkF m pc' Ls (.int (x.toInt16.toInt32) :: st))) : Go p e below Z n0 kg E P T (mkF m pc Ls (.int x :: st)) := by
  subst hp
  exact k.pre fun t q => XT.i2s w.here w.hx rfl (hb w.hby hd) rfl q
theorem g_iload (w : Wd p l e R s m args below meth c Z a0 n0 kb ws y bytes ml ret T L cells slots) {pc : Nat} {Ls : Array Slot} {i : Nat} {v : Int32} {st : List Value} (hd : decode bytes pc = .ok (.iload i, 2)) (hl : Ls[i]? = some (.val (.int v))) (pc' : Nat) (hp : pc + 2 = pc')
    (k : Go p e below Z n0 kg E P T (mkF m pc' Ls (.int v :: st))) : Go p e below Z n0 kg E P T (mkF m pc Ls (st)) := by
  subst hp
  exact k.pre fun t q => XS.iload w.here w.hx rfl (hb w.hby hd) hl q
theorem g_iloadN (w : Wd p l e R s m args below meth c Z a0 n0 kb ws y bytes ml ret T L cells slots) {pc : Nat} {Ls : Array Slot} {i : Fin 4} {v : Int32} {st : List Value} (hd : decode bytes pc = .ok (.iload_n i, 1)) (hl : Ls[i.val]? = some (.val (.int v))) (pc' : Nat) (hp : pc + 1 = pc')
    (k : Go p e below Z n0 kg E P T (mkF m pc' Ls (.int v :: st))) : Go p e below Z n0 kg E P T (mkF m pc Ls (st)) := by
  subst hp
  exact k.pre fun t q => XS.iloadN w.here w.hx rfl (hb w.hby hd) hl q
theorem g_lload (w : Wd p l e R s m args below meth c Z a0 n0 kb ws y bytes ml ret T L cells slots) {pc : Nat} {Ls : Array Slot} {i : Nat} {v : Int64} {st : List Value} (hd : decode bytes pc = .ok (.lload i, 2)) (hl : Ls[i]? = some (.val (.long v))) (pc' : Nat) (hp : pc + 2 = pc')
    (k : Go p e below Z n0 kg E P T (mkF m pc' Ls (.long v :: st))) : Go p e below Z n0 kg E P T (mkF m pc Ls (st)) := by
  subst hp
  exact k.pre fun t q => XT.lload w.here w.hx rfl (hb w.hby hd) hl q
theorem g_lloadN (w : Wd p l e R s m args below meth c Z a0 n0 kb ws y bytes ml ret T L cells slots) {pc : Nat} {Ls : Array Slot} {i : Fin 4} {v : Int64} {st : List Value} (hd : decode bytes pc = .ok (.lload_n i, 1)) (hl : Ls[i.val]? = some (.val (.long v))) (pc' : Nat) (hp : pc + 1 = pc')
    (k : Go p e below Z n0 kg E P T (mkF m pc' Ls (.long v :: st))) : Go p e below Z n0 kg E P T (mkF m pc Ls (st)) := by
  subst hp
  exact k.pre fun t q => XT.lloadN w.here w.hx rfl (hb w.hby hd) hl q
theorem g_aload (w : Wd p l e R s m args below meth c Z a0 n0 kb ws y bytes ml ret T L cells slots) {pc : Nat} {Ls : Array Slot} {i : Nat} {v : Value} {st : List Value} (hd : decode bytes pc = .ok (.aload i, 2)) (hl : Ls[i]? = some (.val v)) (hv : v.isRef = true) (pc' : Nat) (hp : pc + 2 = pc')
    (k : Go p e below Z n0 kg E P T (mkF m pc' Ls (v :: st))) : Go p e below Z n0 kg E P T (mkF m pc Ls (st)) := by
  subst hp
  exact k.pre fun t q => XS.aload w.here w.hx rfl (hb w.hby hd) hl hv q
theorem g_aloadN (w : Wd p l e R s m args below meth c Z a0 n0 kb ws y bytes ml ret T L cells slots) {pc : Nat} {Ls : Array Slot} {i : Fin 4} {v : Value} {st : List Value} (hd : decode bytes pc = .ok (.aload_n i, 1)) (hl : Ls[i.val]? = some (.val v)) (hv : v.isRef = true) (pc' : Nat) (hp : pc + 1 = pc')
    (k : Go p e below Z n0 kg E P T (mkF m pc' Ls (v :: st))) : Go p e below Z n0 kg E P T (mkF m pc Ls (st)) := by
  subst hp
  exact k.pre fun t q => XS.aloadN w.here w.hx rfl (hb w.hby hd) hl hv q
theorem g_iconst (w : Wd p l e R s m args below meth c Z a0 n0 kb ws y bytes ml ret T L cells slots) {pc : Nat} {Ls : Array Slot} {i : Int} {st : List Value} (hd : decode bytes pc = .ok (.iconst i, 1)) (z : Int32) (hz : Int32.ofInt i = z) (pc' : Nat) (hp : pc + 1 = pc')
    (k : Go p e below Z n0 kg E P T (mkF m pc' Ls (.int z :: st))) : Go p e below Z n0 kg E P T (mkF m pc Ls (st)) := by
  subst hp
  exact k.pre fun t q => XS.iconst w.here w.hx rfl (hb w.hby hd) (by rw [hz]; exact q)
theorem g_bipush (w : Wd p l e R s m args below meth c Z a0 n0 kb ws y bytes ml ret T L cells slots) {pc : Nat} {Ls : Array Slot} {i : Int} {st : List Value} (hd : decode bytes pc = .ok (.bipush i, 2)) (z : Int32) (hz : (Int8.ofInt i).toInt32 = z) (pc' : Nat) (hp : pc + 2 = pc')
    (k : Go p e below Z n0 kg E P T (mkF m pc' Ls (.int z :: st))) : Go p e below Z n0 kg E P T (mkF m pc Ls (st)) := by
  subst hp
  exact k.pre fun t q => XS.bipush w.here w.hx rfl (hb w.hby hd) (by rw [hz]; exact q)
theorem g_sipush (w : Wd p l e R s m args below meth c Z a0 n0 kb ws y bytes ml ret T L cells slots) {pc : Nat} {Ls : Array Slot} {i : Int} {st : List Value} (hd : decode bytes pc = .ok (.sipush i, 3)) (z : Int32) (hz : (Int16.ofInt i).toInt32 = z) (pc' : Nat) (hp : pc + 3 = pc')
    (k : Go p e below Z n0 kg E P T (mkF m pc' Ls (.int z :: st))) : Go p e below Z n0 kg E P T (mkF m pc Ls (st)) := by
  subst hp
  exact k.pre fun t q => XS.sipush w.here w.hx rfl (hb w.hby hd) (by rw [hz]; exact q)
theorem g_lconst (w : Wd p l e R s m args below meth c Z a0 n0 kb ws y bytes ml ret T L cells slots) {pc : Nat} {Ls : Array Slot} {i : Fin 2} {st : List Value} (hd : decode bytes pc = .ok (.lconst i, 1)) (z : Int64) (hz : Int64.ofNat i = z) (pc' : Nat) (hp : pc + 1 = pc')
    (k : Go p e below Z n0 kg E P T (mkF m pc' Ls (.long z :: st))) : Go p e below Z n0 kg E P T (mkF m pc Ls (st)) := by
  subst hp
  exact k.pre fun t q => XT.lconst w.here w.hx rfl (hb w.hby hd) (by rw [hz]; exact q)
theorem g_anull (w : Wd p l e R s m args below meth c Z a0 n0 kb ws y bytes ml ret T L cells slots) {pc : Nat} {Ls : Array Slot} {st : List Value} (hd : decode bytes pc = .ok (.aconst_null, 1)) (pc' : Nat) (hp : pc + 1 = pc')
    (k : Go p e below Z n0 kg E P T (mkF m pc' Ls (.null :: st))) : Go p e below Z n0 kg E P T (mkF m pc Ls (st)) := by
  subst hp
  exact k.pre fun t q => XS.aconstNull w.here w.hx rfl (hb w.hby hd) q
theorem g_dup (w : Wd p l e R s m args below meth c Z a0 n0 kb ws y bytes ml ret T L cells slots) {pc : Nat} {Ls : Array Slot} {x : Value} {st : List Value} (hd : decode bytes pc = .ok (.dup, 1)) (hc : x.category = 1) (pc' : Nat) (hp : pc + 1 = pc')
    (k : Go p e below Z n0 kg E P T (mkF m pc' Ls (x :: x :: st))) : Go p e below Z n0 kg E P T (mkF m pc Ls (x :: st)) := by
  subst hp
  exact k.pre fun t q => XS.dup w.here w.hx rfl (hb w.hby hd) rfl hc q
theorem g_pop (w : Wd p l e R s m args below meth c Z a0 n0 kb ws y bytes ml ret T L cells slots) {pc : Nat} {Ls : Array Slot} {x : Value} {st : List Value} (hd : decode bytes pc = .ok (.pop, 1)) (hc : x.category = 1) (pc' : Nat) (hp : pc + 1 = pc')
    (k : Go p e below Z n0 kg E P T (mkF m pc' Ls (st))) : Go p e below Z n0 kg E P T (mkF m pc Ls (x :: st)) := by
  subst hp
  exact k.pre fun t q => XT.pop w.here w.hx rfl (hb w.hby hd) rfl hc q
theorem g_dup_x1 (w : Wd p l e R s m args below meth c Z a0 n0 kb ws y bytes ml ret T L cells slots) {pc : Nat} {Ls : Array Slot} {x x' : Value} {st : List Value} (hd : decode bytes pc = .ok (.dup_x1, 1)) (hc : x.category = 1) (hc' : x'.category = 1) (pc' : Nat) (hp : pc + 1 = pc')
    (k : Go p e below Z n0 kg E P T (mkF m pc' Ls (x :: x' :: x :: st))) : Go p e below Z n0 kg E P T (mkF m pc Ls (x :: x' :: st)) := by
  subst hp
  exact k.pre fun t q => XT.dupX1 w.here w.hx rfl (hb w.hby hd) rfl hc hc' q
theorem g_dup2 (w : Wd p l e R s m args below meth c Z a0 n0 kb ws y bytes ml ret T L cells slots) {pc : Nat} {Ls : Array Slot} {x x' : Value} {st : List Value} (hd : decode bytes pc = .ok (.dup2, 1)) (hc : x.category = 1) (hc' : x'.category = 1) (pc' : Nat) (hp : pc + 1 = pc')
    (k : Go p e below Z n0 kg E P T (mkF m pc' Ls (x :: x' :: x :: x' :: st))) : Go p e below Z n0 kg E P T (mkF m pc Ls (x :: x' :: st)) := by
  subst hp
  exact k.pre fun t q => XT.dup2 w.here w.hx rfl (hb w.hby hd) rfl hc hc' q
theorem g_istore (w : Wd p l e R s m args below meth c Z a0 n0 kb ws y bytes ml ret T L cells slots) {pc : Nat} {Ls : Array Slot} {i : Nat} {x x' : Int32} {st : List Value} (hd : decode bytes pc = .ok (.istore i, 2)) (pc' : Nat) (hp : pc + 2 = pc') (e1 : x = x') (Ls' : Array Slot) (hl : storeLocals Ls i (.int x') = some Ls')
    (k : Go p e below Z n0 kg E P T (mkF m pc' Ls' st)) : Go p e below Z n0 kg E P T (mkF m pc Ls (.int x :: st)) := by
  subst hp e1
  exact k.pre fun t q => XS.istore w.here w.hx rfl (hb w.hby hd) rfl hl q
theorem g_istoreN (w : Wd p l e R s m args below meth c Z a0 n0 kb ws y bytes ml ret T L cells slots) {pc : Nat} {Ls : Array Slot} {i : Fin 4} {x x' : Int32} {st : List Value} (hd : decode bytes pc = .ok (.istore_n i, 1)) (pc' : Nat) (hp : pc + 1 = pc') (e1 : x = x') (Ls' : Array Slot) (hl : storeLocals Ls i.val (.int x') = some Ls')
    (k : Go p e below Z n0 kg E P T (mkF m pc' Ls' st)) : Go p e below Z n0 kg E P T (mkF m pc Ls (.int x :: st)) := by
  subst hp e1
  exact k.pre fun t q => XS.istoreN w.here w.hx rfl (hb w.hby hd) rfl hl q
theorem g_lstore (w : Wd p l e R s m args below meth c Z a0 n0 kb ws y bytes ml ret T L cells slots) {pc : Nat} {Ls : Array Slot} {i : Nat} {x x' : Int64} {st : List Value} (hd : decode bytes pc = .ok (.lstore i, 2)) (pc' : Nat) (hp : pc + 2 = pc') (e1 : x = x') (Ls' : Array Slot) (hl : storeLocals Ls i (.long x') = some Ls')
    (k : Go p e below Z n0 kg E P T (mkF m pc' Ls' st)) : Go p e below Z n0 kg E P T (mkF m pc Ls (.long x :: st)) := by
  subst hp e1
  exact k.pre fun t q => XT.lstore w.here w.hx rfl (hb w.hby hd) rfl hl q
theorem g_lstoreN (w : Wd p l e R s m args below meth c Z a0 n0 kb ws y bytes ml ret T L cells slots) {pc : Nat} {Ls : Array Slot} {i : Fin 4} {x x' : Int64} {st : List Value} (hd : decode bytes pc = .ok (.lstore_n i, 1)) (pc' : Nat) (hp : pc + 1 = pc') (e1 : x = x') (Ls' : Array Slot) (hl : storeLocals Ls i.val (.long x') = some Ls')
    (k : Go p e below Z n0 kg E P T (mkF m pc' Ls' st)) : Go p e below Z n0 kg E P T (mkF m pc Ls (.long x :: st)) := by
  subst hp e1
  exact k.pre fun t q => XT.lstoreN w.here w.hx rfl (hb w.hby hd) rfl hl q
theorem g_astore (w : Wd p l e R s m args below meth c Z a0 n0 kb ws y bytes ml ret T L cells slots) {pc : Nat} {Ls : Array Slot} {i : Nat} {x : Value} {st : List Value} (hd : decode bytes pc = .ok (.astore i, 2)) (pc' : Nat) (hp : pc + 2 = pc') (hv : x.isRef = true) (Ls' : Array Slot) (hl : storeLocals Ls i x = some Ls')
    (k : Go p e below Z n0 kg E P T (mkF m pc' Ls' st)) : Go p e below Z n0 kg E P T (mkF m pc Ls (x :: st)) := by
  subst hp
  exact k.pre fun t q => XS.astore w.here w.hx rfl (hb w.hby hd) rfl hv hl q
theorem g_astoreN (w : Wd p l e R s m args below meth c Z a0 n0 kb ws y bytes ml ret T L cells slots) {pc : Nat} {Ls : Array Slot} {i : Fin 4} {x : Value} {st : List Value} (hd : decode bytes pc = .ok (.astore_n i, 1)) (pc' : Nat) (hp : pc + 1 = pc') (hv : x.isRef = true) (Ls' : Array Slot) (hl : storeLocals Ls i.val x = some Ls')
    (k : Go p e below Z n0 kg E P T (mkF m pc' Ls' st)) : Go p e below Z n0 kg E P T (mkF m pc Ls (x :: st)) := by
  subst hp
  exact k.pre fun t q => XS.astoreN w.here w.hx rfl (hb w.hby hd) rfl hv hl q
theorem g_iinc (w : Wd p l e R s m args below meth c Z a0 n0 kb ws y bytes ml ret T L cells slots) {pc : Nat} {Ls : Array Slot} {i : Nat} {cst : Int} {x x' : Int32} {st : List Value} (hd : decode bytes pc = .ok (.iinc i cst, 3)) (pc' : Nat) (hp : pc + 3 = pc') (hl0 : Ls[i]? = some (.val (.int x))) (e1 : x + Int32.ofInt cst = x') (Ls' : Array Slot) (hl : storeLocals Ls i (.int x') = some Ls')
    (k : Go p e below Z n0 kg E P T (mkF m pc' Ls' st)) : Go p e below Z n0 kg E P T (mkF m pc Ls st) := by
  subst hp e1
  exact k.pre fun t q => XS.iinc w.here w.hx rfl (hb w.hby hd) hl0 hl q
theorem g_goto (w : Wd p l e R s m args below meth c Z a0 n0 kb ws y bytes ml ret T L cells slots) {pc : Nat} {Ls : Array Slot} {o : Int} {st : List Value} (hd : decode bytes pc = .ok (.goto o, 3)) (pc' : Nat) (ho : 0 ≤ (pc : Int) + o) (hp : ((pc : Int) + o).toNat = pc')
    (k : Go p e below Z n0 kg E P T (mkF m pc' Ls st)) : Go p e below Z n0 kg E P T (mkF m pc Ls st) := k.pre fun t q => XS.goto w.here w.hx rfl rfl (hb w.hby hd) ho hp q
theorem g_icmp_eq (w : Wd p l e R s m args below meth c Z a0 n0 kb ws y bytes ml ret T L cells slots) {pc : Nat} {Ls : Array Slot} {x y' : Int32} {o : Int} {st : List Value} (hd : decode bytes pc = .ok (.if_icmp .eq o, 3)) (pcT : Nat) (ho : 0 ≤ (pc : Int) + o) (hT : ((pc : Int) + o).toNat = pcT) (pcF : Nat) (hF : pc + 3 = pcF)
    (k1 : x = y' → Go p e below Z n0 kg E P T (mkF m pcT Ls st)) (k2 : ¬ x = y' → Go p e below Z n0 kg E P T (mkF m pcF Ls st)) : Go p e below Z n0 kg E P T (mkF m pc Ls (.int y' :: .int x :: st)) := by
  subst hF
  by_cases h : x = y'
  · exact (k1 h).pre fun t q => XS.icmpYes w.here w.hx rfl rfl (hb w.hby hd) rfl (XT.ii_eq_t h) ho hT q
  · exact (k2 h).pre fun t q => XS.icmpNo w.here w.hx rfl (hb w.hby hd) rfl (XT.ii_eq_f h) q
theorem g_if_eq (w : Wd p l e R s m args below meth c Z a0 n0 kb ws y bytes ml ret T L cells slots) {pc : Nat} {Ls : Array Slot} {x : Int32} {o : Int} {st : List Value} (hd : decode bytes pc = .ok (.ifCond .eq o, 3)) (pcT : Nat) (ho : 0 ≤ (pc : Int) + o) (hT : ((pc : Int) + o).toNat = pcT) (pcF : Nat) (hF : pc + 3 = pcF)
    (k1 : x = 0 → Go p e below Z n0 kg E P T (mkF m pcT Ls st)) (k2 : ¬ x = 0 → Go p e below Z n0 kg E P T (mkF m pcF Ls st)) : Go p e below Z n0 kg E P T (mkF m pc Ls (.int x :: st)) := by
  subst hF
  by_cases h : x = 0
  · exact (k1 h).pre fun t q => XS.ifYes w.here w.hx rfl rfl (hb w.hby hd) rfl (XT.i0_eq_t h) ho hT q
  · exact (k2 h).pre fun t q => XS.ifNo w.here w.hx rfl (hb w.hby hd) rfl (XT.i0_eq_f h) q
theorem g_lif_eq (w : Wd p l e R s m args below meth c Z a0 n0 kb ws y bytes ml ret T L cells slots) {pc : Nat} {Ls : Array Slot} {x y' : Int64} {o : Int} {st : List Value} (hd : decode bytes pc = .ok (.ifCond .eq o, 3)) (pcT : Nat) (ho : 0 ≤ (pc : Int) + o) (hT : ((pc : Int) + o).toNat = pcT) (pcF : Nat) (hF : pc + 3 = pcF)
    (k1 : x = y' → Go p e below Z n0 kg E P T (mkF m pcT Ls st)) (k2 : ¬ x = y' → Go p e below Z n0 kg E P T (mkF m pcF Ls st)) : Go p e below Z n0 kg E P T (mkF m pc Ls (.int (XT.cmpL x y') :: st)) := by
  subst hF
  by_cases h : x = y'
  · exact (k1 h).pre fun t q => XS.ifYes w.here w.hx rfl rfl (hb w.hby hd) rfl (XT.ll_eq_t h) ho hT q
  · exact (k2 h).pre fun t q => XS.ifNo w.here w.hx rfl (hb w.hby hd) rfl (XT.ll_eq_f h) q
theorem g_icmp_ne (w : Wd p l e R s m args below meth c Z a0 n0 kb ws y bytes ml ret T L cells slots) {pc : Nat} {Ls : Array Slot} {x y' : Int32} {o : Int} {st : List Value} (hd : decode bytes pc = .ok (.if_icmp .ne o, 3)) (pcT : Nat) (ho : 0 ≤ (pc : Int) + o) (hT : ((pc : Int) + o).toNat = pcT) (pcF : Nat) (hF : pc + 3 = pcF)
    (k1 : ¬ x = y' → Go p e below Z n0 kg E P T (mkF m pcT Ls st)) (k2 : x = y' → Go p e below Z n0 kg E P T (mkF m pcF Ls st)) : Go p e below Z n0 kg E P T (mkF m pc Ls (.int y' :: .int x :: st)) := by
  subst hF
  by_cases h : x = y'
  · exact (k2 h).pre fun t q => XS.icmpNo w.here w.hx rfl (hb w.hby hd) rfl (XT.ii_ne_f h) q
  · exact (k1 h).pre fun t q => XS.icmpYes w.here w.hx rfl rfl (hb w.hby hd) rfl (XT.ii_ne_t h) ho hT q
theorem g_if_ne (w : Wd p l e R s m args below meth c Z a0 n0 kb ws y bytes ml ret T L cells slots) {pc : Nat} {Ls : Array Slot} {x : Int32} {o : Int} {st : List Value} (hd : decode bytes pc = .ok (.ifCond .ne o, 3)) (pcT : Nat) (ho : 0 ≤ (pc : Int) + o) (hT : ((pc : Int) + o).toNat = pcT) (pcF : Nat) (hF : pc + 3 = pcF)
    (k1 : ¬ x = 0 → Go p e below Z n0 kg E P T (mkF m pcT Ls st)) (k2 : x = 0 → Go p e below Z n0 kg E P T (mkF m pcF Ls st)) : Go p e below Z n0 kg E P T (mkF m pc Ls (.int x :: st)) := by
  subst hF
  by_cases h : x = 0
  · exact (k2 h).pre fun t q => XS.ifNo w.here w.hx rfl (hb w.hby hd) rfl (XT.i0_ne_f h) q
  · exact (k1 h).pre fun t q => XS.ifYes w.here w.hx rfl rfl (hb w.hby hd) rfl (XT.i0_ne_t h) ho hT q
theorem g_lif_ne (w : Wd p l e R s m args below meth c Z a0 n0 kb ws y bytes ml ret T L cells slots) {pc : Nat} {Ls : Array Slot} {x y' : Int64} {o : Int} {st : List Value} (hd : decode bytes pc = .ok (.ifCond .ne o, 3)) (pcT : Nat) (ho : 0 ≤ (pc : Int) + o) (hT : ((pc : Int) + o).toNat = pcT) (pcF : Nat) (hF : pc + 3 = pcF)
    (k1 : ¬ x = y' → Go p e below Z n0 kg E P T (mkF m pcT Ls st)) (k2 : x = y' → Go p e below Z n0 kg E P T (mkF m pcF Ls st)) : Go p e below Z n0 kg E P T (mkF m pc Ls (.int (XT.cmpL x y') :: st)) := by
  subst hF
  by_cases h : x = y'
  · exact (k2 h).pre fun t q => XS.ifNo w.here w.hx rfl (hb w.hby hd) rfl (XT.ll_ne_f h) q
  · exact (k1 h).pre fun t q => XS.ifYes w.here w.hx rfl rfl (hb w.hby hd) rfl (XT.ll_ne_t h) ho hT q
theorem g_icmp_lt (w : Wd p l e R s m args below meth c Z a0 n0 kb ws y bytes ml ret T L cells slots) {pc : Nat} {Ls : Array Slot} {x y' : Int32} {o : Int} {st : List Value} (hd : decode bytes pc = .ok (.if_icmp .lt o, 3)) (pcT : Nat) (ho : 0 ≤ (pc : Int) + o) (hT : ((pc : Int) + o).toNat = pcT) (pcF : Nat) (hF : pc + 3 = pcF)
    (k1 : x < y' → Go p e below Z n0 kg E P T (mkF m pcT Ls st)) (k2 : ¬ x < y' → Go p e below Z n0 kg E P T (mkF m pcF Ls st)) : Go p e below Z n0 kg E P T (mkF m pc Ls (.int y' :: .int x :: st)) := by
  subst hF
  by_cases h : x < y'
  · exact (k1 h).pre fun t q => XS.icmpYes w.here w.hx rfl rfl (hb w.hby hd) rfl (XT.ii_lt_t h) ho hT q
  · exact (k2 h).pre fun t q => XS.icmpNo w.here w.hx rfl (hb w.hby hd) rfl (XT.ii_lt_f h) q
theorem g_if_lt (w : Wd p l e R s m args below meth c Z a0 n0 kb ws y bytes ml ret T L cells slots) {pc : Nat} {Ls : Array Slot} {x : Int32} {o : Int} {st : List Value} (hd : decode bytes pc = .ok (.ifCond .lt o, 3)) (pcT : Nat) (ho : 0 ≤ (pc : Int) + o) (hT : ((pc : Int) + o).toNat = pcT) (pcF : Nat) (hF : pc + 3 = pcF)
    (k1 : x < 0 → Go p e below Z n0 kg E P T (mkF m pcT Ls st)) (k2 : ¬ x < 0 → Go p e below Z n0 kg E P T (mkF m pcF Ls st)) : Go p e below Z n0 kg E P T (mkF m pc Ls (.int x :: st)) := by
  subst hF
  by_cases h : x < 0
  · exact (k1 h).pre fun t q => XS.ifYes w.here w.hx rfl rfl (hb w.hby hd) rfl (XT.i0_lt_t h) ho hT q
  · exact (k2 h).pre fun t q => XS.ifNo w.here w.hx rfl (hb w.hby hd) rfl (XT.i0_lt_f h) q
theorem g_lif_lt (w : Wd p l e R s m args below meth c Z a0 n0 kb ws y bytes ml ret T L cells slots) {pc : Nat} {Ls : Array Slot} {x y' : Int64} {o : Int} {st : List Value} (hd : decode bytes pc = .ok (.ifCond .lt o, 3)) (pcT : Nat) (ho : 0 ≤ (pc : Int) + o) (hT : ((pc : Int) + o).toNat = pcT) (pcF : Nat) (hF : pc + 3 = pcF)
    (k1 : x < y' → Go p e below Z n0 kg E P T (mkF m pcT Ls st)) (k2 : ¬ x < y' → Go p e below Z n0 kg E P T (mkF m pcF Ls st)) : Go p e below Z n0 kg E P T (mkF m pc Ls (.int (XT.cmpL x y') :: st)) := by
  subst hF
  by_cases h : x < y'
  · exact (k1 h).pre fun t q => XS.ifYes w.here w.hx rfl rfl (hb w.hby hd) rfl (XT.ll_lt_t h) ho hT q
  · exact (k2 h).pre fun t q => XS.ifNo w.here w.hx rfl (hb w.hby hd) rfl (XT.ll_lt_f h) q
theorem g_icmp_ge (w : Wd p l e R s m args below meth c Z a0 n0 kb ws y bytes ml ret T L cells slots) {pc : Nat} {Ls : Array Slot} {x y' : Int32} {o : Int} {st : List Value} (hd : decode bytes pc = .ok (.if_icmp .ge o, 3)) (pcT : Nat) (ho : 0 ≤ (pc : Int) + o) (hT : ((pc : Int) + o).toNat = pcT) (pcF : Nat) (hF : pc + 3 = pcF)
    (k1 : ¬ x < y' → Go p e below Z n0 kg E P T (mkF m pcT Ls st)) (k2 : x < y' → Go p e below Z n0 kg E P T (mkF m pcF Ls st)) : Go p e below Z n0 kg E P T (mkF m pc Ls (.int y' :: .int x :: st)) := by
  subst hF
  by_cases h : x < y'
  · exact (k2 h).pre fun t q => XS.icmpNo w.here w.hx rfl (hb w.hby hd) rfl (XT.ii_ge_f h) q
  · exact (k1 h).pre fun t q => XS.icmpYes w.here w.hx rfl rfl (hb w.hby hd) rfl (XT.ii_ge_t h) ho hT q
theorem g_if_ge (w : Wd p l e R s m args below meth c Z a0 n0 kb ws y bytes ml ret T L cells slots) {pc : Nat} {Ls : Array Slot} {x : Int32} {o : Int} {st : List Value} (hd : decode bytes pc = .ok (.ifCond .ge o, 3)) (pcT : Nat) (ho : 0 ≤ (pc : Int) + o) (hT : ((pc : Int) + o).toNat = pcT) (pcF : Nat) (hF : pc + 3 = pcF)
    (k1 : ¬ x < 0 → Go p e below Z n0 kg E P T (mkF m pcT Ls st)) (k2 : x < 0 → Go p e below Z n0 kg E P T (mkF m pcF Ls st)) : Go p e below Z n0 kg E P T (mkF m pc Ls (.int x :: st)) := by
  subst hF
  by_cases h : x < 0
  · exact (k2 h).pre fun t q => XS.ifNo w.here w.hx rfl (hb w.hby hd) rfl (XT.i0_ge_f h) q
  · exact (k1 h).pre fun t q => XS.ifYes w.here w.hx rfl rfl (hb w.hby hd) rfl (XT.i0_ge_t h) ho hT q
theorem g_lif_ge (w : Wd p l e R s m args below meth c Z a0 n0 kb ws y bytes ml ret T L cells slots) {pc : Nat} {Ls : Array Slot} {x y' : Int64} {o : Int} {st : List Value} (hd : decode bytes pc = .ok (.ifCond .ge o, 3)) (pcT : Nat) (ho : 0 ≤ (pc : Int) + o) (hT : ((pc : Int) + o).toNat = pcT) (pcF : Nat) (hF : pc + 3 = pcF)
    (k1 : ¬ x < y' → Go p e below Z n0 kg E P T (mkF m pcT Ls st)) (k2 : x < y' → Go p e below Z n0 kg E P T (mkF m pcF Ls st)) : Go p e below Z n0 kg E P T (mkF m pc Ls (.int (XT.cmpL x y') :: st)) := by
  subst hF
  by_cases h : x < y'
  · exact (k2 h).pre fun t q => XS.ifNo w.here w.hx rfl (hb w.hby hd) rfl (XT.ll_ge_f h) q
  · exact (k1 h).pre fun t q => XS.ifYes w.here w.hx rfl rfl (hb w.hby hd) rfl (XT.ll_ge_t h) ho hT q
theorem g_icmp_gt (w : Wd p l e R s m args below meth c Z a0 n0 kb ws y bytes ml ret T L cells slots) {pc : Nat} {Ls : Array Slot} {x y' : Int32} {o : Int} {st : List Value} (hd : decode bytes pc = .ok (.if_icmp .gt o, 3)) (pcT : Nat) (ho : 0 ≤ (pc : Int) + o) (hT : ((pc : Int) + o).toNat = pcT) (pcF : Nat) (hF : pc + 3 = pcF)
    (k1 : y' < x → Go p e below Z n0 kg E P T (mkF m pcT Ls st)) (k2 : ¬ y' < x → Go p e below Z n0 kg E P T (mkF m pcF Ls st)) : Go p e below Z n0 kg E P T (mkF m pc Ls (.int y' :: .int x :: st)) := by
  subst hF
  by_cases h : y' < x
  · exact (k1 h).pre fun t q => XS.icmpYes w.here w.hx rfl rfl (hb w.hby hd) rfl (XT.ii_gt_t h) ho hT q
  · exact (k2 h).pre fun t q => XS.icmpNo w.here w.hx rfl (hb w.hby hd) rfl (XT.ii_gt_f h) q
theorem g_if_gt (w : Wd p l e R s m args below meth c Z a0 n0 kb ws y bytes ml ret T L cells slots) {pc : Nat} {Ls : Array Slot} {x : Int32} {o : Int} {st : List Value} (hd : decode bytes pc = .ok (.ifCond .gt o, 3)) (pcT : Nat) (ho : 0 ≤ (pc : Int) + o) (hT : ((pc : Int) + o).toNat = pcT) (pcF : Nat) (hF : pc + 3 = pcF)
    (k1 : 0 < x → Go p e below Z n0 kg E P T (mkF m pcT Ls st)) (k2 : ¬ 0 < x → Go p e below Z n0 kg E P T (mkF m pcF Ls st)) : Go p e below Z n0 kg E P T (mkF m pc Ls (.int x :: st)) := by
  subst hF
  by_cases h : 0 < x
  · exact (k1 h).pre fun t q => XS.ifYes w.here w.hx rfl rfl (hb w.hby hd) rfl (XT.i0_gt_t h) ho hT q
  · exact (k2 h).pre fun t q => XS.ifNo w.here w.hx rfl (hb w.hby hd) rfl (XT.i0_gt_f h) q
theorem g_lif_gt (w : Wd p l e R s m args below meth c Z a0 n0 kb ws y bytes ml ret T L cells slots) {pc : Nat} {Ls : Array Slot} {x y' : Int64} {o : Int} {st : List Value} (hd : decode bytes pc = .ok (.ifCond .gt o, 3)) (pcT : Nat) (ho : 0 ≤ (pc : Int) + o) (hT : ((pc : Int) + o).toNat = pcT) (pcF : Nat) (hF : pc + 3 = pcF)
    (k1 : y' < x → Go p e below Z n0 kg E P T (mkF m pcT Ls st)) (k2 : ¬ y' < x → Go p e below Z n0 kg E P T (mkF m pcF Ls st)) : Go p e below Z n0 kg E P T (mkF m pc Ls (.int (XT.cmpL x y') :: st)) := by
  subst hF
  by_cases h : y' < x
  · exact (k1 h).pre fun t q => XS.ifYes w.here w.hx rfl rfl (hb w.hby hd) rfl (XT.ll_gt_t h) ho hT q
  · exact (k2 h).pre fun t q => XS.ifNo w.here w.hx rfl (hb w.hby hd) rfl (XT.ll_gt_f h) q
theorem g_icmp_le (w : Wd p l e R s m args below meth c Z a0 n0 kb ws y bytes ml ret T L cells slots) {pc : Nat} {Ls : Array Slot} {x y' : Int32} {o : Int} {st : List Value} (hd : decode bytes pc = .ok (.if_icmp .le o, 3)) (pcT : Nat) (ho : 0 ≤ (pc : Int) + o) (hT : ((pc : Int) + o).toNat = pcT) (pcF : Nat) (hF : pc + 3 = pcF)
    (k1 : ¬ y' < x → Go p e below Z n0 kg E P T (mkF m pcT Ls st)) (k2 : y' < x → Go p e below Z n0 kg E P T (mkF m pcF Ls st)) : Go p e below Z n0 kg E P T (mkF m pc Ls (.int y' :: .int x :: st)) := by
  subst hF
  by_cases h : y' < x
  · exact (k2 h).pre fun t q => XS.icmpNo w.here w.hx rfl (hb w.hby hd) rfl (XT.ii_le_f h) q
  · exact (k1 h).pre fun t q => XS.icmpYes w.here w.hx rfl rfl (hb w.hby hd) rfl (XT.ii_le_t h) ho hT q
theorem g_if_le (w : Wd p l e R s m args below meth c Z a0 n0 kb ws y bytes ml ret T L cells slots) {pc : Nat} {Ls : Array Slot} {x : Int32} {o : Int} {st : List Value} (hd : decode bytes pc = .ok (.ifCond .le o, 3)) (pcT : Nat) (ho : 0 ≤ (pc : Int) + o) (hT : ((pc : Int) + o).toNat = pcT) (pcF : Nat) (hF : pc + 3 = pcF)
    (k1 : ¬ 0 < x → Go p e below Z n0 kg E P T (mkF m pcT Ls st)) (k2 : 0 < x → Go p e below Z n0 kg E P T (mkF m pcF Ls st)) : Go p e below Z n0 kg E P T (mkF m pc Ls (.int x :: st)) := by
  subst hF
  by_cases h : 0 < x
  · exact (k2 h).pre fun t q => XS.ifNo w.here w.hx rfl (hb w.hby hd) rfl (XT.i0_le_f h) q
  · exact (k1 h).pre fun t q => XS.ifYes w.here w.hx rfl rfl (hb w.hby hd) rfl (XT.i0_le_t h) ho hT q
theorem g_lif_le (w : Wd p l e R s m args below meth c Z a0 n0 kb ws y bytes ml ret T L cells slots) {pc : Nat} {Ls : Array Slot} {x y' : Int64} {o : Int} {st : List Value} (hd : decode bytes pc = .ok (.ifCond .le o, 3)) (pcT : Nat) (ho : 0 ≤ (pc : Int) + o) (hT : ((pc : Int) + o).toNat = pcT) (pcF : Nat) (hF : pc + 3 = pcF)
    (k1 : ¬ y' < x → Go p e below Z n0 kg E P T (mkF m pcT Ls st)) (k2 : y' < x → Go p e below Z n0 kg E P T (mkF m pcF Ls st)) : Go p e below Z n0 kg E P T (mkF m pc Ls (.int (XT.cmpL x y') :: st)) := by
  subst hF
  by_cases h : y' < x
  · exact (k2 h).pre fun t q => XS.ifNo w.here w.hx rfl (hb w.hby hd) rfl (XT.ll_le_f h) q
  · exact (k1 h).pre fun t q => XS.ifYes w.here w.hx rfl rfl (hb w.hby hd) rfl (XT.ll_le_t h) ho hT q
theorem g_acmp_eq (w : Wd p l e R s m args below meth c Z a0 n0 kb ws y bytes ml ret T L cells slots) {pc : Nat} {Ls : Array Slot} {x y' : Value} {o : Int} {st : List Value} (hd : decode bytes pc = .ok (.if_acmp .eq o, 3)) (hx' : x.isRef = true) (hy' : y'.isRef = true) (pcT : Nat) (ho : 0 ≤ (pc : Int) + o) (hT : ((pc : Int) + o).toNat = pcT) (pcF : Nat) (hF : pc + 3 = pcF)
    (k1 : x = y' → Go p e below Z n0 kg E P T (mkF m pcT Ls st)) (k2 : ¬ x = y' → Go p e below Z n0 kg E P T (mkF m pcF Ls st)) : Go p e below Z n0 kg E P T (mkF m pc Ls (y' :: x :: st)) := by
  subst hF
  by_cases h : x = y'
  · exact (k1 h).pre fun t q => XT.acmpYes w.here w.hx rfl rfl (hb w.hby hd) rfl hx' hy' (XT.aa_eq_t h) ho hT q
  · exact (k2 h).pre fun t q => XT.acmpNo w.here w.hx rfl (hb w.hby hd) rfl hx' hy' (XT.aa_eq_f h) q
theorem g_acmp_ne (w : Wd p l e R s m args below meth c Z a0 n0 kb ws y bytes ml ret T L cells slots) {pc : Nat} {Ls : Array Slot} {x y' : Value} {o : Int} {st : List Value} (hd : decode bytes pc = .ok (.if_acmp .ne o, 3)) (hx' : x.isRef = true) (hy' : y'.isRef = true) (pcT : Nat) (ho : 0 ≤ (pc : Int) + o) (hT : ((pc : Int) + o).toNat = pcT) (pcF : Nat) (hF : pc + 3 = pcF)
    (k1 : ¬ x = y' → Go p e below Z n0 kg E P T (mkF m pcT Ls st)) (k2 : x = y' → Go p e below Z n0 kg E P T (mkF m pcF Ls st)) : Go p e below Z n0 kg E P T (mkF m pc Ls (y' :: x :: st)) := by
  subst hF
  by_cases h : x = y'
  · exact (k2 h).pre fun t q => XT.acmpNo w.here w.hx rfl (hb w.hby hd) rfl hx' hy' (XT.aa_ne_f h) q
  · exact (k1 h).pre fun t q => XT.acmpYes w.here w.hx rfl rfl (hb w.hby hd) rfl hx' hy' (XT.aa_ne_t h) ho hT q
theorem g_ifnullT (w : Wd p l e R s m args below meth c Z a0 n0 kb ws y bytes ml ret T L cells slots) {pc : Nat} {Ls : Array Slot} {o : Int} {st : List Value} (hd : decode bytes pc = .ok (.ifnull o, 3)) (pcT : Nat) (ho : 0 ≤ (pc : Int) + o) (hT : ((pc : Int) + o).toNat = pcT) (k : Go p e below Z n0 kg E P T (mkF m pcT Ls st)) : Go p e below Z n0 kg E P T (mkF m pc Ls (.null :: st)) := k.pre fun t q => XS.ifnullYes w.here w.hx rfl rfl (hb w.hby hd) rfl ho hT q
theorem g_ifnullF (w : Wd p l e R s m args below meth c Z a0 n0 kb ws y bytes ml ret T L cells slots) {pc : Nat} {Ls : Array Slot} {r : Addr} {o : Int} {st : List Value} (hd : decode bytes pc = .ok (.ifnull o, 3)) (pcF : Nat) (hF : pc + 3 = pcF) (k : Go p e below Z n0 kg E P T (mkF m pcF Ls st)) : Go p e below Z n0 kg E P T (mkF m pc Ls (.ref r :: st)) := by
  subst hF
  exact k.pre fun t q => XS.ifnullNo w.here w.hx rfl (hb w.hby hd) rfl q
theorem g_ifnonnullT (w : Wd p l e R s m args below meth c Z a0 n0 kb ws y bytes ml ret T L cells slots) {pc : Nat} {Ls : Array Slot} {r : Addr} {o : Int} {st : List Value} (hd : decode bytes pc = .ok (.ifnonnull o, 3)) (pcT : Nat) (ho : 0 ≤ (pc : Int) + o) (hT : ((pc : Int) + o).toNat = pcT) (k : Go p e below Z n0 kg E P T (mkF m pcT Ls st)) : Go p e below Z n0 kg E P T (mkF m pc Ls (.ref r :: st)) := k.pre fun t q => XT.ifnonnullYes w.here w.hx rfl rfl (hb w.hby hd) rfl ho hT q
theorem g_ifnonnullF (w : Wd p l e R s m args below meth c Z a0 n0 kb ws y bytes ml ret T L cells slots) {pc : Nat} {Ls : Array Slot} {o : Int} {st : List Value} (hd : decode bytes pc = .ok (.ifnonnull o, 3)) (pcF : Nat) (hF : pc + 3 = pcF) (k : Go p e below Z n0 kg E P T (mkF m pcF Ls st)) : Go p e below Z n0 kg E P T (mkF m pc Ls (.null :: st)) := by
  subst hF
  exact k.pre fun t q => XT.ifnonnullNo w.here w.hx rfl (hb w.hby hd) rfl q
/-! ## calls -/
theorem g_initO (w : Wd p l e R s m args below meth c Z a0 n0 kb ws y bytes ml ret T L cells slots) {pc : Nat} {Ls : Array Slot} {st : List Value} {idx : Nat} {a : Addr} (hd : decode bytes pc = .ok (.invokespecial idx, 3)) (k1 : Nat) (hk1 : ws[k1]? = some (.methodLink y.cls idx Lib.objectInit)) (k2 : Nat) (hk2 : ws[k2]? = some (.instanceMethod Lib.objectInit)) (k3 : Nat) (hk3 : ws[k3]? = some (.code Lib.objectInit ⟨#[0xb1]⟩ 1 none))
    (hsz : Ls.size = ml) (hf : 1 ≤ R.frames) (W : Nat) (hW : (st.map fun v => v.category).sum = W) (hl : W + 12 ≤ R.locals) (pc' : Nat) (hp : pc + 3 = pc')
    (kt : ∀ T', Wd p l e R s m args below meth c Z a0 n0 kb ws y bytes ml ret T' L cells slots → Go p e below Z n0 kg E P T' (mkF m pc' Ls st)) : Go p e below Z n0 kg E P T (mkF m pc Ls (.ref a :: st)) := by
  subst hp
  have hk1' := w.hw hk1
  have hk2' := w.hw hk2
  have hk3' := w.hw hk3
  obtain ⟨⟨locs, X, N⟩, H, hx, hZ, hown, hby, hml, hret, hlk, hnm, hws⟩ := w
  obtain ⟨T', X', e', st'⟩ := initO X hx hZ hown hk1' hk2' hk3' rfl (g := mkF m pc Ls (.ref a :: st)) rfl (by rw [hml]; exact hsz) rfl (hb hby hd) hf (W := W) (by show 2 * 0 + _ ≤ _; rw [hW]; omega) hl
  exact (kt T' ⟨⟨locs, X', N⟩, by rw [e']; exact H, hx, hZ, hown, hby, hml, hret, hlk, hnm, hws⟩).pre st'
theorem Con.back {y' : MethodName} {bytes' : ByteArray} {ml' : Nat} {ret' : Option FieldType} {rm : Room} {as' : Array Value} {P' : Option Value → HL → Prop} {h : Heap} {len W : Nat} (C : Con l y' bytes' ml' ret' rm Z n0 as' L P') (H : Hp Z n0 kb h L) (hZ : Z.Warmed39 s.vm) (wc : (Cond.code y' bytes' ml' ret').before a0 Z = true) (wz : (Cond.initialized y'.cls).before a0 Z = true) (hf : rm.frames + 1 ≤ R.frames) (hl : W + (ml' + 11) + rm.locals ≤ R.locals) :
    Back l R p e below s args y' len W (fun A a => a = as' ∧ A.U.heap = h ∧ A.cells + rm.cells ≤ R.cells ∧ A.slots + rm.slots ≤ R.slots)
      (fun A _ v B => ∃ Lc, (Fr n0 Lc ∧ ∃ L', Hp Z n0 kb B.U.heap L' ∧ P' v L') ∧ B.locs = A.locs ++ Lc ∧ B.cells = A.cells + rm.cells ∧ B.slots = A.slots + rm.slots) :=
  backOf (Q := fun v hh Lc => Fr n0 Lc ∧ ∃ L', Hp Z n0 kb hh L' ∧ P' v L') (C [] kb h H) hZ wc wz hf hl
/-- behind a call -/
theorem g_behind {rm : Room} {P' : Option Value → HL → Prop} {pc : Nat} {Ls : Array Slot} {rest : List Value} {v : Option Value} {B : Pt} {locs : List Loc}
    (N : Fr n0 locs) (hx : p.tables.exec = Jvm.exec) (hZ : Z.Warmed39 s.vm) (hown : s.vm.findClass y.cls = some m.cls) (hby : c.code = bytes) (hml : c.maxLocals = ml) (hret : meth.sig.returnType = ret) (hlk : meth.locks = false) (hnm : meth.name = y.name) (hws : ∀ d ∈ ws, d.before a0 Z = true)
    (X' : Stand p l e R s m args below meth c B.U B.locs B.cells B.slots)
    (hQ : ∃ Lc, (Fr n0 Lc ∧ ∃ L', Hp Z n0 kb B.U.heap L' ∧ P' v L') ∧ Pt.locs B = locs ++ Lc ∧ Pt.cells B = cells + rm.cells ∧ Pt.slots B = slots + rm.slots)
    (kt : ∀ T' v L', Wd p l e R s m args below meth c Z a0 n0 kb ws y bytes ml ret T' L' (cells + rm.cells) (slots + rm.slots) → P' v L' → Go p e below Z n0 kg E P T' (mkF m pc Ls (pushV v rest))) :
    Go p e below Z n0 kg E P B.U (mkF m pc Ls (v.toList ++ rest)) := by
  obtain ⟨Lc, ⟨N', L', H', hP⟩, h1, h2, h3⟩ := hQ
  obtain ⟨U, bl, bc, bs⟩ := B
  dsimp only [Pt.U, Pt.locs, Pt.cells, Pt.slots] at h1 h2 h3 X' H' ⊢
  subst h1 h2 h3
  rw [pushV_eq]
  exact kt U v L' ⟨⟨_, X', Fr.app N N'⟩, H', hx, hZ, hown, hby, hml, hret, hlk, hnm, hws⟩ hP
theorem g_static (w : Wd p l e R s m args below meth c Z a0 n0 kb ws y bytes ml ret T L cells slots) {pc : Nat} {Ls : Array Slot} {st : List Value} {idx : Nat} {y' : MethodName} {bytes' : ByteArray} {ml' : Nat} {ret' : Option FieldType} {rm : Room} {P' : Option Value → HL → Prop} {ps : List FieldType} {rt : Option FieldType} {argsL rest : List Value}
    (C : Con l y' bytes' ml' ret' rm Z n0 argsL.toArray L P') (hd : decode bytes pc = .ok (.invokestatic idx, 3)) (k1 : Nat) (hk1 : ws[k1]? = some (.methodLink y.cls idx y')) (k2 : Nat) (hk2 : ws[k2]? = some (.static y')) (k3 : Nat) (hk3 : ws[k3]? = some (.initialized y'.cls)) (k4 : Nat) (hk4 : ws[k4]? = some (.code y' bytes' ml' ret'))
    (hy : y'.cls ≠ "java/lang/invoke/MethodHandle" ∧ y'.cls ≠ "java/lang/invoke/VarHandle") (hpd : parseMethodDescriptor y'.desc = some ⟨ps, rt⟩) (hlen : argsL.length = ps.length) (hst : st = argsL.reverse ++ rest) (hsz : Ls.size = ml) (W : Nat) (hW : (rest.map fun v => v.category).sum = W) (hf : rm.frames + 1 ≤ R.frames) (hl : W + (ml' + 11) + rm.locals ≤ R.locals)
    (hc : cells + rm.cells ≤ R.cells) (hs : slots + rm.slots ≤ R.slots) (pc' : Nat) (hp : pc + 3 = pc')
    (kt : ∀ T' v L', Wd p l e R s m args below meth c Z a0 n0 kb ws y bytes ml ret T' L' (cells + rm.cells) (slots + rm.slots) → P' v L' → Go p e below Z n0 kg E P T' (mkF m pc' Ls (pushV v rest))) : Go p e below Z n0 kg E P T (mkF m pc Ls st) := by
  subst hp hst
  have hk1' := w.hw hk1
  have hk2' := w.hw hk2
  have hk3' := w.hw hk3
  have hk4' := w.hw hk4
  obtain ⟨⟨locs, X, N⟩, H, hx, hZ, hown, hby, hml, hret, hlk, hnm, hws⟩ := w
  obtain ⟨v, vm₁, B, -, X', hQ, st'⟩ := Jvm.LawKit.callS X hx hown (mvT hZ hk1') (mvT hZ hk2') (mvT hZ hk3') (mvT hZ hk4') hy (Con.back C H hZ hk4' hk3' hf hl) (g := mkF m pc Ls (argsL.reverse ++ rest)) rfl (by rw [hml]; exact hsz) (argsL := argsL) (rest := rest) (lenOf hpd hlen) rfl (by show 2 * 0 + _ ≤ _; rw [hW]; omega) (hb hby hd) (fun _ _ => ⟨rfl, rfl, hc, hs⟩)
  exact (g_behind (rm := rm) (P' := P') N hx hZ hown hby hml hret hlk hnm hws X' hQ kt).pre st'
theorem g_ctor (w : Wd p l e R s m args below meth c Z a0 n0 kb ws y bytes ml ret T L cells slots) {pc : Nat} {Ls : Array Slot} {st : List Value} {idx : Nat} {y' : MethodName} {bytes' : ByteArray} {ml' : Nat} {rm : Room} {P' : Option Value → HL → Prop} {ps : List FieldType} {rt : Option FieldType} {a : Addr} {argsL rest : List Value}
    (C : Con l y' bytes' ml' none rm Z n0 (Value.ref a :: argsL).toArray L P') (hd : decode bytes pc = .ok (.invokespecial idx, 3)) (k1 : Nat) (hk1 : ws[k1]? = some (.methodLink y.cls idx y')) (k2 : Nat) (hk2 : ws[k2]? = some (.instanceMethod y')) (k3 : Nat) (hk3 : ws[k3]? = some (.initialized y'.cls)) (k4 : Nat) (hk4 : ws[k4]? = some (.code y' bytes' ml' none))
    (hyn : y'.name = "<init>") (hy : y'.cls ≠ "java/lang/invoke/MethodHandle" ∧ y'.cls ≠ "java/lang/invoke/VarHandle") (hpd : parseMethodDescriptor y'.desc = some ⟨ps, rt⟩) (hlen : argsL.length = ps.length) (hst : st = argsL.reverse ++ .ref a :: rest) (hsz : Ls.size = ml) (W : Nat) (hW : (rest.map fun v => v.category).sum = W) (hf : rm.frames + 1 ≤ R.frames) (hl : W + (ml' + 11) + rm.locals ≤ R.locals)
    (hc : cells + rm.cells ≤ R.cells) (hs : slots + rm.slots ≤ R.slots) (pc' : Nat) (hp : pc + 3 = pc')
    (kt : ∀ T' v L', Wd p l e R s m args below meth c Z a0 n0 kb ws y bytes ml ret T' L' (cells + rm.cells) (slots + rm.slots) → P' v L' → Go p e below Z n0 kg E P T' (mkF m pc' Ls (pushV v rest))) : Go p e below Z n0 kg E P T (mkF m pc Ls st) := by
  subst hp hst
  have hk1' := w.hw hk1
  have hk2' := w.hw hk2
  have hk3' := w.hw hk3
  have hk4' := w.hw hk4
  obtain ⟨⟨locs, X, N⟩, H, hx, hZ, hown, hby, hml, hret, hlk, hnm, hws⟩ := w
  obtain ⟨v, vm₁, B, -, X', hQ, st'⟩ := X.specialBack hx hyn hown (mvT hZ hk1') (mvT hZ hk2') (mvT hZ hk4') hy (Con.back C H hZ hk4' hk3' hf hl) (g := mkF m pc Ls (argsL.reverse ++ .ref a :: rest)) rfl (by rw [hml]; exact hsz) (Steps.refl _) (a := a) (argsL := argsL) (rest := rest) (lenOf hpd hlen) rfl (by show 2 * 0 + _ ≤ _; rw [hW]; omega) (hb hby hd) (fun _ _ => ⟨rfl, rfl, hc, hs⟩)
  exact (g_behind (rm := rm) (P' := P') N hx hZ hown hby hml hret hlk hnm hws X' hQ kt).pre fun t q => st'.trans q
theorem g_virt (w : Wd p l e R s m args below meth c Z a0 n0 kb ws y bytes ml ret T L cells slots) {pc : Nat} {Ls : Array Slot} {st : List Value} {idx : Nat} {y' : MethodName} {bytes' : ByteArray} {ml' : Nat} {ret' : Option FieldType} {rm : Room} {P' : Option Value → HL → Prop} {ps : List FieldType} {rt : Option FieldType} {a : Addr} {Cn : String} {fs : List FldE} {argsL rest : List Value}
    (C : Con l y' bytes' ml' ret' rm Z n0 (Value.ref a :: argsL).toArray L P') (hd : decode bytes pc = .ok (.invokevirtual idx, 3)) (i : Nat) (hi : L[i]? = some (a, .inl (Cn, fs))) (k1 : Nat) (hk1 : ws[k1]? = some (.methodLink y.cls idx y')) (k2 : Nat) (hk2 : ws[k2]? = some (.declares y')) (k3 : Nat) (hk3 : ws[k3]? = some (.initialized y'.cls)) (k4 : Nat) (hk4 : ws[k4]? = some (.code y' bytes' ml' ret'))
    (k5 : Nat) (hk5 : ws[k5]? = some (.selects Cn y' y')) (k6 : Nat) (hk6 : ws[k6]? = some (.instanceMethod y'))
    (hy : y'.cls ≠ "java/lang/invoke/MethodHandle" ∧ y'.cls ≠ "java/lang/invoke/VarHandle") (hpd : parseMethodDescriptor y'.desc = some ⟨ps, rt⟩) (hlen : argsL.length = ps.length) (hst : st = argsL.reverse ++ .ref a :: rest) (hsz : Ls.size = ml) (W : Nat) (hW : (rest.map fun v => v.category).sum = W) (hf : rm.frames + 1 ≤ R.frames) (hl : W + (ml' + 11) + rm.locals ≤ R.locals)
    (hc : cells + rm.cells ≤ R.cells) (hs : slots + rm.slots ≤ R.slots) (pc' : Nat) (hp : pc + 3 = pc')
    (kt : ∀ T' v L', Wd p l e R s m args below meth c Z a0 n0 kb ws y bytes ml ret T' L' (cells + rm.cells) (slots + rm.slots) → P' v L' → Go p e below Z n0 kg E P T' (mkF m pc' Ls (pushV v rest))) : Go p e below Z n0 kg E P T (mkF m pc Ls st) := by
  subst hp hst
  have hk1' := w.hw hk1
  have hk2' := w.hw hk2
  have hk3' := w.hw hk3
  have hk4' := w.hw hk4
  have hk5' := w.hw hk5
  have hk6' := w.hw hk6
  obtain ⟨⟨locs, X, N⟩, H, hx, hZ, hown, hby, hml, hret, hlk, hnm, hws⟩ := w
  obtain ⟨cq, kq, qa, qb, qc⟩ := isOf hZ rfl (H.obj hi).1
  obtain ⟨v, vm₁, B, -, X', hQ, st'⟩ := X.virtualBack hx (y := y') (z := y') hown (mvT hZ hk1') (mvT hZ hk2') (notFace_of_selects (args := #[]) (mvT hZ hk5')) (mvT hZ hk5') (mvT hZ hk6') hy (Con.back C H hZ hk4' hk3' hf hl) qa qc (g := mkF m pc Ls (argsL.reverse ++ .ref a :: rest)) rfl (by rw [hml]; exact hsz) (Steps.refl _) (argsL := argsL) (rest := rest) (lenOf hpd hlen) rfl (by show 2 * 0 + _ ≤ _; rw [hW]; omega) (hb hby hd) (fun _ _ => ⟨rfl, rfl, hc, hs⟩)
  exact (g_behind (rm := rm) (P' := P') N hx hZ hown hby hml hret hlk hnm hws X' hQ kt).pre fun t q => st'.trans q
theorem g_virtO (w : Wd p l e R s m args below meth c Z a0 n0 kb ws y bytes ml ret T L cells slots) {pc : Nat} {Ls : Array Slot} {st : List Value} {idx : Nat} {y' : MethodName} {bytes' : ByteArray} {ml' : Nat} {ret' : Option FieldType} {rm : Room} {P' : Option Value → HL → Prop} {ps : List FieldType} {rt : Option FieldType} {a : Addr} {Cn : String} {argsL rest : List Value}
    (C : Con l y' bytes' ml' ret' rm Z n0 (Value.ref a :: argsL).toArray L P') (hd : decode bytes pc = .ok (.invokevirtual idx, 3)) (EO : Exa Z Z.heap a Cn) (k1 : Nat) (hk1 : ws[k1]? = some (.methodLink y.cls idx y')) (k2 : Nat) (hk2 : ws[k2]? = some (.declares y')) (k3 : Nat) (hk3 : ws[k3]? = some (.initialized y'.cls)) (k4 : Nat) (hk4 : ws[k4]? = some (.code y' bytes' ml' ret'))
    (k5 : Nat) (hk5 : ws[k5]? = some (.selects Cn y' y')) (k6 : Nat) (hk6 : ws[k6]? = some (.instanceMethod y'))
    (hy : y'.cls ≠ "java/lang/invoke/MethodHandle" ∧ y'.cls ≠ "java/lang/invoke/VarHandle") (hpd : parseMethodDescriptor y'.desc = some ⟨ps, rt⟩) (hlen : argsL.length = ps.length) (hst : st = argsL.reverse ++ .ref a :: rest) (hsz : Ls.size = ml) (W : Nat) (hW : (rest.map fun v => v.category).sum = W) (hf : rm.frames + 1 ≤ R.frames) (hl : W + (ml' + 11) + rm.locals ≤ R.locals)
    (hc : cells + rm.cells ≤ R.cells) (hs : slots + rm.slots ≤ R.slots) (pc' : Nat) (hp : pc + 3 = pc')
    (kt : ∀ T' v L', Wd p l e R s m args below meth c Z a0 n0 kb ws y bytes ml ret T' L' (cells + rm.cells) (slots + rm.slots) → P' v L' → Go p e below Z n0 kg E P T' (mkF m pc' Ls (pushV v rest))) : Go p e below Z n0 kg E P T (mkF m pc Ls st) := by
  subst hp hst
  have hk1' := w.hw hk1
  have hk2' := w.hw hk2
  have hk3' := w.hw hk3
  have hk4' := w.hw hk4
  have hk5' := w.hw hk5
  have hk6' := w.hw hk6
  obtain ⟨⟨locs, X, N⟩, H, hx, hZ, hown, hby, hml, hret, hlk, hnm, hws⟩ := w
  obtain ⟨cq, kq, qa, qb, qc⟩ := isOf hZ rfl (EO.ext H.old)
  obtain ⟨v, vm₁, B, -, X', hQ, st'⟩ := X.virtualBack hx (y := y') (z := y') hown (mvT hZ hk1') (mvT hZ hk2') (notFace_of_selects (args := #[]) (mvT hZ hk5')) (mvT hZ hk5') (mvT hZ hk6') hy (Con.back C H hZ hk4' hk3' hf hl) qa qc (g := mkF m pc Ls (argsL.reverse ++ .ref a :: rest)) rfl (by rw [hml]; exact hsz) (Steps.refl _) (argsL := argsL) (rest := rest) (lenOf hpd hlen) rfl (by show 2 * 0 + _ ≤ _; rw [hW]; omega) (hb hby hd) (fun _ _ => ⟨rfl, rfl, hc, hs⟩)
  exact (g_behind (rm := rm) (P' := P') N hx hZ hown hby hml hret hlk hnm hws X' hQ kt).pre fun t q => st'.trans q
theorem g_priv (w : Wd p l e R s m args below meth c Z a0 n0 kb ws y bytes ml ret T L cells slots) {pc : Nat} {Ls : Array Slot} {st : List Value} {idx nI : Nat} {y' : MethodName} {bytes' : ByteArray} {ml' : Nat} {ret' : Option FieldType} {rm : Room} {P' : Option Value → HL → Prop} {ps : List FieldType} {rt : Option FieldType} {a : Addr} {Cn : String} {fs : List FldE} {argsL rest : List Value}
    (C : Con l y' bytes' ml' ret' rm Z n0 (Value.ref a :: argsL).toArray L P') (hd : decode bytes pc = .ok (.invokevirtual idx, 3)) (i : Nat) (hi : L[i]? = some (a, .inl (Cn, fs))) (k1 : Nat) (hk1 : ws[k1]? = some (.methodLink y.cls idx y')) (k2 : Nat) (hk2 : ws[k2]? = some (.instanceMethod y')) (k3 : Nat) (hk3 : ws[k3]? = some (.initialized y'.cls)) (k4 : Nat) (hk4 : ws[k4]? = some (.code y' bytes' ml' ret'))
    (k5 : Nat) (hk5 : ws[k5]? = some (.privateMethod y')) (k6 : Nat) (hk6 : ws[k6]? = some (.instantiable y'.cls nI))
    (hy : y'.cls ≠ "java/lang/invoke/MethodHandle" ∧ y'.cls ≠ "java/lang/invoke/VarHandle") (hpd : parseMethodDescriptor y'.desc = some ⟨ps, rt⟩) (hlen : argsL.length = ps.length) (hst : st = argsL.reverse ++ .ref a :: rest) (hsz : Ls.size = ml) (W : Nat) (hW : (rest.map fun v => v.category).sum = W) (hf : rm.frames + 1 ≤ R.frames) (hl : W + (ml' + 11) + rm.locals ≤ R.locals)
    (hc : cells + rm.cells ≤ R.cells) (hs : slots + rm.slots ≤ R.slots) (pc' : Nat) (hp : pc + 3 = pc')
    (kt : ∀ T' v L', Wd p l e R s m args below meth c Z a0 n0 kb ws y bytes ml ret T' L' (cells + rm.cells) (slots + rm.slots) → P' v L' → Go p e below Z n0 kg E P T' (mkF m pc' Ls (pushV v rest))) : Go p e below Z n0 kg E P T (mkF m pc Ls st) := by
  subst hp hst
  have hk1' := w.hw hk1
  have hk2' := w.hw hk2
  have hk3' := w.hw hk3
  have hk4' := w.hw hk4
  have hk5' := w.hw hk5
  have hk6' := w.hw hk6
  obtain ⟨⟨locs, X, N⟩, H, hx, hZ, hown, hby, hml, hret, hlk, hnm, hws⟩ := w
  obtain ⟨cl, hcl, hst0⟩ := (H.obj hi).1.cell
  have hpa : s.PrivateAt y' := Cond.privateMethod_at (mvP hZ hk5' (args := #[]))
  have hin : (Cond.instanceMethod y').before args s = true := mvT hZ hk2'
  have hic : (Cond.instantiable y'.cls nI).before args s = true := mvT hZ hk6'
  obtain ⟨cI, kI, i1, i2, i3, i4, -⟩ := Cond.instantiable_spec hic
  have hsel : (Cond.selects y'.cls y' y').before args s = true := selects_self_of_private i1 i2 (Bool.or_eq_false_iff.mp i4).1 hpa hin hy
  obtain ⟨v, vm₁, B, -, X', hQ, st'⟩ := X.privateBack hx (y := y') hown (mvT hZ hk1') hin hsel hpa (mvT hZ hk4') hy (Con.back C H hZ hk4' hk3' hf hl) (g := mkF m pc Ls (argsL.reverse ++ .ref a :: rest)) rfl (by rw [hml]; exact hsz) (Steps.refl _) (a := a) hcl hst0 (argsL := argsL) (rest := rest) (lenOf hpd hlen) rfl (by show 2 * 0 + _ ≤ _; rw [hW]; omega) (hb hby hd) (fun _ _ => ⟨rfl, rfl, hc, hs⟩)
  exact (g_behind (rm := rm) (P' := P') N hx hZ hown hby hml hret hlk hnm hws X' hQ kt).pre fun t q => st'.trans q
/-! ## from the case's words to the contract of the law -/
theorem fr_end {Lc : List Loc} {v : Option Value} {u : State} (N : Fr s.heap.size Lc) (hq : FrameEnd s (.returned v) u Lc kc ks) (L0 : List Loc) {kc' ks' : Nat} (h1 : kc ≤ kc') (h2 : ks ≤ ks') : FrameEnd s (.returned v) u L0 kc' ks' :=
  ⟨hq.1, hq.2.1, (hq.2.2.sift fun y hy => Or.inr (N y hy)).mono h1 h2⟩
end Walk
end Jvm.OwnW
namespace Jvm.Pilot.@@N@@
open Jvm Jvm.ClassFile Sem Op Lib Jvm.Free Jvm.Stand Jvm.LawKit Jvm.RoadKit Bundle Jvm.OwnW Jvm.Pilot.@@N@@.Jvm.D
def own_b0 (q : Int64) : Int32 := nar .byte (q.toInt32.toInt8.toInt32)
def own_bk (q : Int64) (s : Int32) : Int32 := nar .byte ((ushrL q s).toInt32.toInt8.toInt32)
def own_v0 (u : Int32) : Int32 := nar .byte (u.toInt8.toInt32)
def own_vk (u s : Int32) : Int32 := nar .byte ((ushrI u s).toInt8.toInt32)
def own_u (z i : Int32) : Int64 := shlL ((z &&& 255).toInt64) (8 * i)
/-- the k-th byte -/
def own_byte (x : Int64) (k : Nat) : Nat := x.toBitVec.toNat / 2 ^ (8 * k) % 256
theorem own_by_or (x y : Int64) (k : Nat) : own_byte (x ||| y) k = own_byte x k ||| own_byte y k := by
  unfold own_byte
  rw [Int64.toBitVec_or, BitVec.toNat_or, ← Nat.shiftRight_eq_div_pow, ← Nat.shiftRight_eq_div_pow, ← Nat.shiftRight_eq_div_pow, Nat.shiftRight_or_distrib]
  exact Nat.or_mod_two_pow (n := 8)
theorem own_by_and (x y : Int64) (k : Nat) : own_byte (x &&& y) k = own_byte x k &&& own_byte y k := by
  unfold own_byte
  rw [Int64.toBitVec_and, BitVec.toNat_and, ← Nat.shiftRight_eq_div_pow, ← Nat.shiftRight_eq_div_pow, ← Nat.shiftRight_eq_div_pow, Nat.shiftRight_and_distrib]
  exact Nat.and_mod_two_pow (n := 8)
theorem own_by_lt (x : Int64) (k : Nat) : own_byte x k < 256 := Nat.mod_lt _ (by decide)
theorem own_ext {x y : Int64} (h : ∀ k, k < 8 → own_byte x k = own_byte y k) : x = y := by
  apply Int64.toBitVec_inj.mp
  apply BitVec.eq_of_toNat_eq
  have a := x.toBitVec.isLt
  have b := y.toBitVec.isLt
  have h0 := h 0 (by decide); have h1 := h 1 (by decide); have h2 := h 2 (by decide); have h3 := h 3 (by decide)
  have h4 := h 4 (by decide); have h5 := h 5 (by decide); have h6 := h 6 (by decide); have h7 := h 7 (by decide)
  unfold own_byte at *
  generalize x.toBitVec.toNat = X at *
  generalize y.toBitVec.toNat = Y at *
  simp only [Nat.mul_zero, Nat.pow_zero, Nat.div_one] at h0
  simp only [show 2 ^ (8 * 1) = 256 from rfl, show 2 ^ (8 * 2) = 65536 from rfl, show 2 ^ (8 * 3) = 16777216 from rfl, show 2 ^ (8 * 4) = 4294967296 from rfl, show 2 ^ (8 * 5) = 1099511627776 from rfl, show 2 ^ (8 * 6) = 281474976710656 from rfl, show 2 ^ (8 * 7) = 72057594037927936 from rfl] at *
  omega
theorem own_nat (x : Int64) : x.toInt % 18446744073709551616 = (x.toBitVec.toNat : Int) := by
  have e : x.toInt = x.toBitVec.toInt := rfl
  have h := x.toBitVec.isLt
  rw [e, BitVec.toInt_eq_toNat_cond]; split <;> omega
theorem own_nat32 (x : Int32) : x.toInt % 4294967296 = (x.toBitVec.toNat : Int) := by
  have e : x.toInt = x.toBitVec.toInt := rfl
  have h := x.toBitVec.isLt
  rw [e, BitVec.toInt_eq_toNat_cond]; split <;> omega
theorem own_b0_eq (q : Int64) : (own_b0 q).toInt % 256 = (own_byte q 0 : Nat) := by
  have h1 := c_i2b (q.toInt32)
  have h2 := c_i2b (q.toInt32.toInt8.toInt32)
  have h3 := c_l2i q
  have h4 := own_nat q
  show (q.toInt32.toInt8.toInt32.toInt8.toInt32).toInt % 256 = _
  unfold own_byte
  simp only [Nat.mul_zero, Nat.pow_zero, Nat.div_one]
  omega
theorem own_v0_eq (u : Int32) : (own_v0 u).toInt % 256 = u.toInt % 256 := by
  have h1 := c_i2b u
  have h2 := c_i2b (u.toInt8.toInt32)
  show (u.toInt8.toInt32.toInt8.toInt32).toInt % 256 = _
  omega
theorem own_bk_eq1 (q : Int64) : (own_bk q (8 : Int32)).toInt % 256 = (own_byte q 1 : Nat) := by
  have h0 : (ushrL q (8 : Int32)).toInt = (q.toInt % 18446744073709551616) / (2 ^ 8 : Nat) := ushrL_c q (8 : Int32) 8 (by decide) (by decide)
  have h1 := c_i2b (ushrL q (8 : Int32)).toInt32
  have h2 := c_i2b ((ushrL q (8 : Int32)).toInt32.toInt8.toInt32)
  have h3 := c_l2i (ushrL q (8 : Int32))
  have h4 := own_nat q
  show ((ushrL q (8 : Int32)).toInt32.toInt8.toInt32.toInt8.toInt32).toInt % 256 = _
  unfold own_byte
  rw [show 2 ^ (8 * 1) = 256 from rfl]
  rw [show ((2 ^ 8 : Nat) : Int) = 256 from rfl] at h0
  omega
theorem own_bk_eq2 (q : Int64) : (own_bk q (16 : Int32)).toInt % 256 = (own_byte q 2 : Nat) := by
  have h0 : (ushrL q (16 : Int32)).toInt = (q.toInt % 18446744073709551616) / (2 ^ 16 : Nat) := ushrL_c q (16 : Int32) 16 (by decide) (by decide)
  have h1 := c_i2b (ushrL q (16 : Int32)).toInt32
  have h2 := c_i2b ((ushrL q (16 : Int32)).toInt32.toInt8.toInt32)
  have h3 := c_l2i (ushrL q (16 : Int32))
  have h4 := own_nat q
  show ((ushrL q (16 : Int32)).toInt32.toInt8.toInt32.toInt8.toInt32).toInt % 256 = _
  unfold own_byte
  rw [show 2 ^ (8 * 2) = 65536 from rfl]
  rw [show ((2 ^ 16 : Nat) : Int) = 65536 from rfl] at h0
  omega
theorem own_bk_eq3 (q : Int64) : (own_bk q (24 : Int32)).toInt % 256 = (own_byte q 3 : Nat) := by
  have h0 : (ushrL q (24 : Int32)).toInt = (q.toInt % 18446744073709551616) / (2 ^ 24 : Nat) := ushrL_c q (24 : Int32) 24 (by decide) (by decide)
  have h1 := c_i2b (ushrL q (24 : Int32)).toInt32
  have h2 := c_i2b ((ushrL q (24 : Int32)).toInt32.toInt8.toInt32)
  have h3 := c_l2i (ushrL q (24 : Int32))
  have h4 := own_nat q
  show ((ushrL q (24 : Int32)).toInt32.toInt8.toInt32.toInt8.toInt32).toInt % 256 = _
  unfold own_byte
  rw [show 2 ^ (8 * 3) = 16777216 from rfl]
  rw [show ((2 ^ 24 : Nat) : Int) = 16777216 from rfl] at h0
  omega
theorem own_bk_eq4 (q : Int64) : (own_bk q (32 : Int32)).toInt % 256 = (own_byte q 4 : Nat) := by
  have h0 : (ushrL q (32 : Int32)).toInt = (q.toInt % 18446744073709551616) / (2 ^ 32 : Nat) := ushrL_c q (32 : Int32) 32 (by decide) (by decide)
  have h1 := c_i2b (ushrL q (32 : Int32)).toInt32
  have h2 := c_i2b ((ushrL q (32 : Int32)).toInt32.toInt8.toInt32)
  have h3 := c_l2i (ushrL q (32 : Int32))
  have h4 := own_nat q
  show ((ushrL q (32 : Int32)).toInt32.toInt8.toInt32.toInt8.toInt32).toInt % 256 = _
  unfold own_byte
  rw [show 2 ^ (8 * 4) = 4294967296 from rfl]
  rw [show ((2 ^ 32 : Nat) : Int) = 4294967296 from rfl] at h0
  omega
theorem own_bk_eq5 (q : Int64) : (own_bk q (40 : Int32)).toInt % 256 = (own_byte q 5 : Nat) := by
  have h0 : (ushrL q (40 : Int32)).toInt = (q.toInt % 18446744073709551616) / (2 ^ 40 : Nat) := ushrL_c q (40 : Int32) 40 (by decide) (by decide)
  have h1 := c_i2b (ushrL q (40 : Int32)).toInt32
  have h2 := c_i2b ((ushrL q (40 : Int32)).toInt32.toInt8.toInt32)
  have h3 := c_l2i (ushrL q (40 : Int32))
  have h4 := own_nat q
  show ((ushrL q (40 : Int32)).toInt32.toInt8.toInt32.toInt8.toInt32).toInt % 256 = _
  unfold own_byte
  rw [show 2 ^ (8 * 5) = 1099511627776 from rfl]
  rw [show ((2 ^ 40 : Nat) : Int) = 1099511627776 from rfl] at h0
  omega
theorem own_bk_eq6 (q : Int64) : (own_bk q (48 : Int32)).toInt % 256 = (own_byte q 6 : Nat) := by
  have h0 : (ushrL q (48 : Int32)).toInt = (q.toInt % 18446744073709551616) / (2 ^ 48 : Nat) := ushrL_c q (48 : Int32) 48 (by decide) (by decide)
  have h1 := c_i2b (ushrL q (48 : Int32)).toInt32
  have h2 := c_i2b ((ushrL q (48 : Int32)).toInt32.toInt8.toInt32)
  have h3 := c_l2i (ushrL q (48 : Int32))
  have h4 := own_nat q
  show ((ushrL q (48 : Int32)).toInt32.toInt8.toInt32.toInt8.toInt32).toInt % 256 = _
  unfold own_byte
  rw [show 2 ^ (8 * 6) = 281474976710656 from rfl]
  rw [show ((2 ^ 48 : Nat) : Int) = 281474976710656 from rfl] at h0
  omega
theorem own_bk_eq7 (q : Int64) : (own_bk q (56 : Int32)).toInt % 256 = (own_byte q 7 : Nat) := by
  have h0 : (ushrL q (56 : Int32)).toInt = (q.toInt % 18446744073709551616) / (2 ^ 56 : Nat) := ushrL_c q (56 : Int32) 56 (by decide) (by decide)
  have h1 := c_i2b (ushrL q (56 : Int32)).toInt32
  have h2 := c_i2b ((ushrL q (56 : Int32)).toInt32.toInt8.toInt32)
  have h3 := c_l2i (ushrL q (56 : Int32))
  have h4 := own_nat q
  show ((ushrL q (56 : Int32)).toInt32.toInt8.toInt32.toInt8.toInt32).toInt % 256 = _
  unfold own_byte
  rw [show 2 ^ (8 * 7) = 72057594037927936 from rfl]
  rw [show ((2 ^ 56 : Nat) : Int) = 72057594037927936 from rfl] at h0
  omega
theorem own_vk_eq1 (u : Int32) : (own_vk u (8 : Int32)).toInt % 256 = (u.toInt % 4294967296) / 256 % 256 := by
  have h0 : (ushrI u (8 : Int32)).toInt = (u.toInt % 4294967296) / (2 ^ 8 : Nat) := ushrI_c u (8 : Int32) 8 (by decide) (by decide)
  have h1 := c_i2b (ushrI u (8 : Int32))
  have h2 := c_i2b ((ushrI u (8 : Int32)).toInt8.toInt32)
  show ((ushrI u (8 : Int32)).toInt8.toInt32.toInt8.toInt32).toInt % 256 = _
  rw [show ((2 ^ 8 : Nat) : Int) = 256 from rfl] at h0
  omega
theorem own_vk_eq2 (u : Int32) : (own_vk u (16 : Int32)).toInt % 256 = (u.toInt % 4294967296) / 65536 % 256 := by
  have h0 : (ushrI u (16 : Int32)).toInt = (u.toInt % 4294967296) / (2 ^ 16 : Nat) := ushrI_c u (16 : Int32) 16 (by decide) (by decide)
  have h1 := c_i2b (ushrI u (16 : Int32))
  have h2 := c_i2b ((ushrI u (16 : Int32)).toInt8.toInt32)
  show ((ushrI u (16 : Int32)).toInt8.toInt32.toInt8.toInt32).toInt % 256 = _
  rw [show ((2 ^ 16 : Nat) : Int) = 65536 from rfl] at h0
  omega
theorem own_vk_eq3 (u : Int32) : (own_vk u (24 : Int32)).toInt % 256 = (u.toInt % 4294967296) / 16777216 % 256 := by
  have h0 : (ushrI u (24 : Int32)).toInt = (u.toInt % 4294967296) / (2 ^ 24 : Nat) := ushrI_c u (24 : Int32) 24 (by decide) (by decide)
  have h1 := c_i2b (ushrI u (24 : Int32))
  have h2 := c_i2b ((ushrI u (24 : Int32)).toInt8.toInt32)
  show ((ushrI u (24 : Int32)).toInt8.toInt32.toInt8.toInt32).toInt % 256 = _
  rw [show ((2 ^ 24 : Nat) : Int) = 16777216 from rfl] at h0
  omega
theorem own_shl0 (x : Int64) : (shlL x (0 : Int32)).toBitVec.toNat = x.toBitVec.toNat * 1 % 18446744073709551616 := by
  have h1 := shlL_c x 0 0 (by decide)
  have h2 := own_nat x
  have h3 := own_nat (shlL x (0 : Int32))
  have h4 := (shlL x (0 : Int32)).toBitVec.isLt
  rw [show ((2 ^ 0 : Nat) : Int) = 1 from rfl] at h1
  omega
theorem own_u0 (z : Int32) (k : Nat) (hk : k < 8) : own_byte (own_u z 0) k = if k = 0 then (z.toInt % 256).toNat else 0 := by
  have e : own_u z 0 = shlL ((z &&& 255).toInt64) (0 : Int32) := by
    show shlL ((z &&& 255).toInt64) (8 * (0 : Int32)) = _
    rw [show (8 * (0 : Int32)) = (0 : Int32) from by decide]
  have h1 := own_shl0 ((z &&& 255).toInt64)
  have h2 := own_nat ((z &&& 255).toInt64)
  have h3 := c_i2l (z &&& 255)
  have h4 := c_mask z 255 8 (by decide) (by decide)
  rw [show ((2 ^ 8 : Nat) : Int) = 256 from rfl] at h4
  rw [e]
  unfold own_byte
  rw [h1]
  generalize ((z &&& 255).toInt64).toBitVec.toNat = n at *
  have h5 : (n : Int) = z.toInt % 256 := by omega
  have h6 : (z.toInt % 256).toNat = n := by omega
  have h7 : n < 256 := by omega
  rw [h6]
  clear h1 h2 h3 h4 h5 h6 e
  rcases k with _ | _ | _ | _ | _ | _ | _ | _ | k
  all_goals first | (exfalso; omega) | (simp only [Nat.mul_zero, Nat.pow_zero, Nat.div_one, show 2 ^ (8 * (0 + 1)) = 256 from rfl, show 2 ^ (8 * (0 + 1 + 1)) = 65536 from rfl, show 2 ^ (8 * (0 + 1 + 1 + 1)) = 16777216 from rfl, show 2 ^ (8 * (0 + 1 + 1 + 1 + 1)) = 4294967296 from rfl, show 2 ^ (8 * (0 + 1 + 1 + 1 + 1 + 1)) = 1099511627776 from rfl, show 2 ^ (8 * (0 + 1 + 1 + 1 + 1 + 1 + 1)) = 281474976710656 from rfl, show 2 ^ (8 * (0 + 1 + 1 + 1 + 1 + 1 + 1 + 1)) = 72057594037927936 from rfl]; first | (rw [if_pos trivial]; omega) | (rw [if_pos rfl]; omega) | (rw [if_neg (by decide)]; omega))
theorem own_shl1 (x : Int64) : (shlL x (8 : Int32)).toBitVec.toNat = x.toBitVec.toNat * 256 % 18446744073709551616 := by
  have h1 := shlL_c x 8 8 (by decide)
  have h2 := own_nat x
  have h3 := own_nat (shlL x (8 : Int32))
  have h4 := (shlL x (8 : Int32)).toBitVec.isLt
  rw [show ((2 ^ 8 : Nat) : Int) = 256 from rfl] at h1
  omega
theorem own_u1 (z : Int32) (k : Nat) (hk : k < 8) : own_byte (own_u z 1) k = if k = 1 then (z.toInt % 256).toNat else 0 := by
  have e : own_u z 1 = shlL ((z &&& 255).toInt64) (8 : Int32) := by
    show shlL ((z &&& 255).toInt64) (8 * (1 : Int32)) = _
    rw [show (8 * (1 : Int32)) = (8 : Int32) from by decide]
  have h1 := own_shl1 ((z &&& 255).toInt64)
  have h2 := own_nat ((z &&& 255).toInt64)
  have h3 := c_i2l (z &&& 255)
  have h4 := c_mask z 255 8 (by decide) (by decide)
  rw [show ((2 ^ 8 : Nat) : Int) = 256 from rfl] at h4
  rw [e]
  unfold own_byte
  rw [h1]
  generalize ((z &&& 255).toInt64).toBitVec.toNat = n at *
  have h5 : (n : Int) = z.toInt % 256 := by omega
  have h6 : (z.toInt % 256).toNat = n := by omega
  have h7 : n < 256 := by omega
  rw [h6]
  clear h1 h2 h3 h4 h5 h6 e
  rcases k with _ | _ | _ | _ | _ | _ | _ | _ | k
  all_goals first | (exfalso; omega) | (simp only [Nat.mul_zero, Nat.pow_zero, Nat.div_one, show 2 ^ (8 * (0 + 1)) = 256 from rfl, show 2 ^ (8 * (0 + 1 + 1)) = 65536 from rfl, show 2 ^ (8 * (0 + 1 + 1 + 1)) = 16777216 from rfl, show 2 ^ (8 * (0 + 1 + 1 + 1 + 1)) = 4294967296 from rfl, show 2 ^ (8 * (0 + 1 + 1 + 1 + 1 + 1)) = 1099511627776 from rfl, show 2 ^ (8 * (0 + 1 + 1 + 1 + 1 + 1 + 1)) = 281474976710656 from rfl, show 2 ^ (8 * (0 + 1 + 1 + 1 + 1 + 1 + 1 + 1)) = 72057594037927936 from rfl]; first | (rw [if_pos trivial]; omega) | (rw [if_pos rfl]; omega) | (rw [if_neg (by decide)]; omega))
theorem own_shl2 (x : Int64) : (shlL x (16 : Int32)).toBitVec.toNat = x.toBitVec.toNat * 65536 % 18446744073709551616 := by
  have h1 := shlL_c x 16 16 (by decide)
  have h2 := own_nat x
  have h3 := own_nat (shlL x (16 : Int32))
  have h4 := (shlL x (16 : Int32)).toBitVec.isLt
  rw [show ((2 ^ 16 : Nat) : Int) = 65536 from rfl] at h1
  omega
theorem own_u2 (z : Int32) (k : Nat) (hk : k < 8) : own_byte (own_u z 2) k = if k = 2 then (z.toInt % 256).toNat else 0 := by
  have e : own_u z 2 = shlL ((z &&& 255).toInt64) (16 : Int32) := by
    show shlL ((z &&& 255).toInt64) (8 * (2 : Int32)) = _
    rw [show (8 * (2 : Int32)) = (16 : Int32) from by decide]
  have h1 := own_shl2 ((z &&& 255).toInt64)
  have h2 := own_nat ((z &&& 255).toInt64)
  have h3 := c_i2l (z &&& 255)
  have h4 := c_mask z 255 8 (by decide) (by decide)
  rw [show ((2 ^ 8 : Nat) : Int) = 256 from rfl] at h4
  rw [e]
  unfold own_byte
  rw [h1]
  generalize ((z &&& 255).toInt64).toBitVec.toNat = n at *
  have h5 : (n : Int) = z.toInt % 256 := by omega
  have h6 : (z.toInt % 256).toNat = n := by omega
  have h7 : n < 256 := by omega
  rw [h6]
  clear h1 h2 h3 h4 h5 h6 e
  rcases k with _ | _ | _ | _ | _ | _ | _ | _ | k
  all_goals first | (exfalso; omega) | (simp only [Nat.mul_zero, Nat.pow_zero, Nat.div_one, show 2 ^ (8 * (0 + 1)) = 256 from rfl, show 2 ^ (8 * (0 + 1 + 1)) = 65536 from rfl, show 2 ^ (8 * (0 + 1 + 1 + 1)) = 16777216 from rfl, show 2 ^ (8 * (0 + 1 + 1 + 1 + 1)) = 4294967296 from rfl, show 2 ^ (8 * (0 + 1 + 1 + 1 + 1 + 1)) = 1099511627776 from rfl, show 2 ^ (8 * (0 + 1 + 1 + 1 + 1 + 1 + 1)) = 281474976710656 from rfl, show 2 ^ (8 * (0 + 1 + 1 + 1 + 1 + 1 + 1 + 1)) = 72057594037927936 from rfl]; first | (rw [if_pos trivial]; omega) | (rw [if_pos rfl]; omega) | (rw [if_neg (by decide)]; omega))
theorem own_shl3 (x : Int64) : (shlL x (24 : Int32)).toBitVec.toNat = x.toBitVec.toNat * 16777216 % 18446744073709551616 := by
  have h1 := shlL_c x 24 24 (by decide)
  have h2 := own_nat x
  have h3 := own_nat (shlL x (24 : Int32))
  have h4 := (shlL x (24 : Int32)).toBitVec.isLt
  rw [show ((2 ^ 24 : Nat) : Int) = 16777216 from rfl] at h1
  omega
theorem own_u3 (z : Int32) (k : Nat) (hk : k < 8) : own_byte (own_u z 3) k = if k = 3 then (z.toInt % 256).toNat else 0 := by
  have e : own_u z 3 = shlL ((z &&& 255).toInt64) (24 : Int32) := by
    show shlL ((z &&& 255).toInt64) (8 * (3 : Int32)) = _
    rw [show (8 * (3 : Int32)) = (24 : Int32) from by decide]
  have h1 := own_shl3 ((z &&& 255).toInt64)
  have h2 := own_nat ((z &&& 255).toInt64)
  have h3 := c_i2l (z &&& 255)
  have h4 := c_mask z 255 8 (by decide) (by decide)
  rw [show ((2 ^ 8 : Nat) : Int) = 256 from rfl] at h4
  rw [e]
  unfold own_byte
  rw [h1]
  generalize ((z &&& 255).toInt64).toBitVec.toNat = n at *
  have h5 : (n : Int) = z.toInt % 256 := by omega
  have h6 : (z.toInt % 256).toNat = n := by omega
  have h7 : n < 256 := by omega
  rw [h6]
  clear h1 h2 h3 h4 h5 h6 e
  rcases k with _ | _ | _ | _ | _ | _ | _ | _ | k
  all_goals first | (exfalso; omega) | (simp only [Nat.mul_zero, Nat.pow_zero, Nat.div_one, show 2 ^ (8 * (0 + 1)) = 256 from rfl, show 2 ^ (8 * (0 + 1 + 1)) = 65536 from rfl, show 2 ^ (8 * (0 + 1 + 1 + 1)) = 16777216 from rfl, show 2 ^ (8 * (0 + 1 + 1 + 1 + 1)) = 4294967296 from rfl, show 2 ^ (8 * (0 + 1 + 1 + 1 + 1 + 1)) = 1099511627776 from rfl, show 2 ^ (8 * (0 + 1 + 1 + 1 + 1 + 1 + 1)) = 281474976710656 from rfl, show 2 ^ (8 * (0 + 1 + 1 + 1 + 1 + 1 + 1 + 1)) = 72057594037927936 from rfl]; first | (rw [if_pos trivial]; omega) | (rw [if_pos rfl]; omega) | (rw [if_neg (by decide)]; omega))
theorem own_shl4 (x : Int64) : (shlL x (32 : Int32)).toBitVec.toNat = x.toBitVec.toNat * 4294967296 % 18446744073709551616 := by
  have h1 := shlL_c x 32 32 (by decide)
  have h2 := own_nat x
  have h3 := own_nat (shlL x (32 : Int32))
  have h4 := (shlL x (32 : Int32)).toBitVec.isLt
  rw [show ((2 ^ 32 : Nat) : Int) = 4294967296 from rfl] at h1
  omega
theorem own_u4 (z : Int32) (k : Nat) (hk : k < 8) : own_byte (own_u z 4) k = if k = 4 then (z.toInt % 256).toNat else 0 := by
  have e : own_u z 4 = shlL ((z &&& 255).toInt64) (32 : Int32) := by
    show shlL ((z &&& 255).toInt64) (8 * (4 : Int32)) = _
    rw [show (8 * (4 : Int32)) = (32 : Int32) from by decide]
  have h1 := own_shl4 ((z &&& 255).toInt64)
  have h2 := own_nat ((z &&& 255).toInt64)
  have h3 := c_i2l (z &&& 255)
  have h4 := c_mask z 255 8 (by decide) (by decide)
  rw [show ((2 ^ 8 : Nat) : Int) = 256 from rfl] at h4
  rw [e]
  unfold own_byte
  rw [h1]
  generalize ((z &&& 255).toInt64).toBitVec.toNat = n at *
  have h5 : (n : Int) = z.toInt % 256 := by omega
  have h6 : (z.toInt % 256).toNat = n := by omega
  have h7 : n < 256 := by omega
  rw [h6]
  clear h1 h2 h3 h4 h5 h6 e
  rcases k with _ | _ | _ | _ | _ | _ | _ | _ | k
  all_goals first | (exfalso; omega) | (simp only [Nat.mul_zero, Nat.pow_zero, Nat.div_one, show 2 ^ (8 * (0 + 1)) = 256 from rfl, show 2 ^ (8 * (0 + 1 + 1)) = 65536 from rfl, show 2 ^ (8 * (0 + 1 + 1 + 1)) = 16777216 from rfl, show 2 ^ (8 * (0 + 1 + 1 + 1 + 1)) = 4294967296 from rfl, show 2 ^ (8 * (0 + 1 + 1 + 1 + 1 + 1)) = 1099511627776 from rfl, show 2 ^ (8 * (0 + 1 + 1 + 1 + 1 + 1 + 1)) = 281474976710656 from rfl, show 2 ^ (8 * (0 + 1 + 1 + 1 + 1 + 1 + 1 + 1)) = 72057594037927936 from rfl]; first | (rw [if_pos trivial]; omega) | (rw [if_pos rfl]; omega) | (rw [if_neg (by decide)]; omega))
theorem own_shl5 (x : Int64) : (shlL x (40 : Int32)).toBitVec.toNat = x.toBitVec.toNat * 1099511627776 % 18446744073709551616 := by
  have h1 := shlL_c x 40 40 (by decide)
  have h2 := own_nat x
  have h3 := own_nat (shlL x (40 : Int32))
  have h4 := (shlL x (40 : Int32)).toBitVec.isLt
  rw [show ((2 ^ 40 : Nat) : Int) = 1099511627776 from rfl] at h1
  omega
theorem own_u5 (z : Int32) (k : Nat) (hk : k < 8) : own_byte (own_u z 5) k = if k = 5 then (z.toInt % 256).toNat else 0 := by
  have e : own_u z 5 = shlL ((z &&& 255).toInt64) (40 : Int32) := by
    show shlL ((z &&& 255).toInt64) (8 * (5 : Int32)) = _
    rw [show (8 * (5 : Int32)) = (40 : Int32) from by decide]
  have h1 := own_shl5 ((z &&& 255).toInt64)
  have h2 := own_nat ((z &&& 255).toInt64)
  have h3 := c_i2l (z &&& 255)
  have h4 := c_mask z 255 8 (by decide) (by decide)
  rw [show ((2 ^ 8 : Nat) : Int) = 256 from rfl] at h4
  rw [e]
  unfold own_byte
  rw [h1]
  generalize ((z &&& 255).toInt64).toBitVec.toNat = n at *
  have h5 : (n : Int) = z.toInt % 256 := by omega
  have h6 : (z.toInt % 256).toNat = n := by omega
  have h7 : n < 256 := by omega
  rw [h6]
  clear h1 h2 h3 h4 h5 h6 e
  rcases k with _ | _ | _ | _ | _ | _ | _ | _ | k
  all_goals first | (exfalso; omega) | (simp only [Nat.mul_zero, Nat.pow_zero, Nat.div_one, show 2 ^ (8 * (0 + 1)) = 256 from rfl, show 2 ^ (8 * (0 + 1 + 1)) = 65536 from rfl, show 2 ^ (8 * (0 + 1 + 1 + 1)) = 16777216 from rfl, show 2 ^ (8 * (0 + 1 + 1 + 1 + 1)) = 4294967296 from rfl, show 2 ^ (8 * (0 + 1 + 1 + 1 + 1 + 1)) = 1099511627776 from rfl, show 2 ^ (8 * (0 + 1 + 1 + 1 + 1 + 1 + 1)) = 281474976710656 from rfl, show 2 ^ (8 * (0 + 1 + 1 + 1 + 1 + 1 + 1 + 1)) = 72057594037927936 from rfl]; first | (rw [if_pos trivial]; omega) | (rw [if_pos rfl]; omega) | (rw [if_neg (by decide)]; omega))
theorem own_shl6 (x : Int64) : (shlL x (48 : Int32)).toBitVec.toNat = x.toBitVec.toNat * 281474976710656 % 18446744073709551616 := by
  have h1 := shlL_c x 48 48 (by decide)
  have h2 := own_nat x
  have h3 := own_nat (shlL x (48 : Int32))
  have h4 := (shlL x (48 : Int32)).toBitVec.isLt
  rw [show ((2 ^ 48 : Nat) : Int) = 281474976710656 from rfl] at h1
  omega
theorem own_u6 (z : Int32) (k : Nat) (hk : k < 8) : own_byte (own_u z 6) k = if k = 6 then (z.toInt % 256).toNat else 0 := by
  have e : own_u z 6 = shlL ((z &&& 255).toInt64) (48 : Int32) := by
    show shlL ((z &&& 255).toInt64) (8 * (6 : Int32)) = _
    rw [show (8 * (6 : Int32)) = (48 : Int32) from by decide]
  have h1 := own_shl6 ((z &&& 255).toInt64)
  have h2 := own_nat ((z &&& 255).toInt64)
  have h3 := c_i2l (z &&& 255)
  have h4 := c_mask z 255 8 (by decide) (by decide)
  rw [show ((2 ^ 8 : Nat) : Int) = 256 from rfl] at h4
  rw [e]
  unfold own_byte
  rw [h1]
  generalize ((z &&& 255).toInt64).toBitVec.toNat = n at *
  have h5 : (n : Int) = z.toInt % 256 := by omega
  have h6 : (z.toInt % 256).toNat = n := by omega
  have h7 : n < 256 := by omega
  rw [h6]
  clear h1 h2 h3 h4 h5 h6 e
  rcases k with _ | _ | _ | _ | _ | _ | _ | _ | k
  all_goals first | (exfalso; omega) | (simp only [Nat.mul_zero, Nat.pow_zero, Nat.div_one, show 2 ^ (8 * (0 + 1)) = 256 from rfl, show 2 ^ (8 * (0 + 1 + 1)) = 65536 from rfl, show 2 ^ (8 * (0 + 1 + 1 + 1)) = 16777216 from rfl, show 2 ^ (8 * (0 + 1 + 1 + 1 + 1)) = 4294967296 from rfl, show 2 ^ (8 * (0 + 1 + 1 + 1 + 1 + 1)) = 1099511627776 from rfl, show 2 ^ (8 * (0 + 1 + 1 + 1 + 1 + 1 + 1)) = 281474976710656 from rfl, show 2 ^ (8 * (0 + 1 + 1 + 1 + 1 + 1 + 1 + 1)) = 72057594037927936 from rfl]; first | (rw [if_pos trivial]; omega) | (rw [if_pos rfl]; omega) | (rw [if_neg (by decide)]; omega))
theorem own_shl7 (x : Int64) : (shlL x (56 : Int32)).toBitVec.toNat = x.toBitVec.toNat * 72057594037927936 % 18446744073709551616 := by
  have h1 := shlL_c x 56 56 (by decide)
  have h2 := own_nat x
  have h3 := own_nat (shlL x (56 : Int32))
  have h4 := (shlL x (56 : Int32)).toBitVec.isLt
  rw [show ((2 ^ 56 : Nat) : Int) = 72057594037927936 from rfl] at h1
  omega
theorem own_u7 (z : Int32) (k : Nat) (hk : k < 8) : own_byte (own_u z 7) k = if k = 7 then (z.toInt % 256).toNat else 0 := by
  have e : own_u z 7 = shlL ((z &&& 255).toInt64) (56 : Int32) := by
    show shlL ((z &&& 255).toInt64) (8 * (7 : Int32)) = _
    rw [show (8 * (7 : Int32)) = (56 : Int32) from by decide]
  have h1 := own_shl7 ((z &&& 255).toInt64)
  have h2 := own_nat ((z &&& 255).toInt64)
  have h3 := c_i2l (z &&& 255)
  have h4 := c_mask z 255 8 (by decide) (by decide)
  rw [show ((2 ^ 8 : Nat) : Int) = 256 from rfl] at h4
  rw [e]
  unfold own_byte
  rw [h1]
  generalize ((z &&& 255).toInt64).toBitVec.toNat = n at *
  have h5 : (n : Int) = z.toInt % 256 := by omega
  have h6 : (z.toInt % 256).toNat = n := by omega
  have h7 : n < 256 := by omega
  rw [h6]
  clear h1 h2 h3 h4 h5 h6 e
  rcases k with _ | _ | _ | _ | _ | _ | _ | _ | k
  all_goals first | (exfalso; omega) | (simp only [Nat.mul_zero, Nat.pow_zero, Nat.div_one, show 2 ^ (8 * (0 + 1)) = 256 from rfl, show 2 ^ (8 * (0 + 1 + 1)) = 65536 from rfl, show 2 ^ (8 * (0 + 1 + 1 + 1)) = 16777216 from rfl, show 2 ^ (8 * (0 + 1 + 1 + 1 + 1)) = 4294967296 from rfl, show 2 ^ (8 * (0 + 1 + 1 + 1 + 1 + 1)) = 1099511627776 from rfl, show 2 ^ (8 * (0 + 1 + 1 + 1 + 1 + 1 + 1)) = 281474976710656 from rfl, show 2 ^ (8 * (0 + 1 + 1 + 1 + 1 + 1 + 1 + 1)) = 72057594037927936 from rfl]; first | (rw [if_pos trivial]; omega) | (rw [if_pos rfl]; omega) | (rw [if_neg (by decide)]; omega))
theorem own_law0 (q : Int64) (u : Int32) : (((((((own_u (own_v0 u) 0 ||| own_u (own_vk u (8 : Int32)) 1) ||| own_u (own_vk u (16 : Int32)) 2) ||| own_u (own_vk u (24 : Int32)) 3) ||| own_u (own_bk q (32 : Int32)) 4) ||| own_u (own_bk q (40 : Int32)) 5) ||| own_u (own_bk q (48 : Int32)) 6) ||| own_u (own_bk q (56 : Int32)) 7) = ((q &&& (-4294967296 : Int64)) ||| (shlL (u.toInt64 &&& (4294967295 : Int64)) (0 : Int32))) := by
  have hV : (((u.toInt64 &&& (4294967295 : Int64)).toBitVec.toNat : Nat) : Int) = u.toInt % 4294967296 := by
    have h1 := own_nat (u.toInt64 &&& (4294967295 : Int64))
    have h2 := c_maskL u.toInt64 4294967295 32 (by decide) (by decide)
    have h3 := c_i2l u
    rw [show ((2 ^ 32 : Nat) : Int) = 4294967296 from rfl] at h2
    omega
  have hS := own_shl0 (u.toInt64 &&& (4294967295 : Int64))
  refine own_ext fun k hk => ?_
  simp only [own_by_or, own_by_and, own_u0 _ k hk, own_u1 _ k hk, own_u2 _ k hk, own_u3 _ k hk, own_u4 _ k hk, own_u5 _ k hk, own_u6 _ k hk, own_u7 _ k hk]
  have a0 := own_v0_eq u
  have a1 := own_vk_eq1 u
  have a2 := own_vk_eq2 u
  have a3 := own_vk_eq3 u
  have hb : ∀ n, n < 256 → n &&& 255 = n := fun n hn => Nat.and_two_pow_sub_one_of_lt_two_pow (n := 8) hn
  rcases k with _ | _ | _ | _ | _ | _ | _ | _ | k
  · have hm : own_byte (-4294967296 : Int64) 0 = 0 := by decide
    have hq := own_by_lt q 0
    have hs : own_byte (shlL (u.toInt64 &&& (4294967295 : Int64)) (0 : Int32)) 0 = ((u.toInt % 4294967296) / 1 % 256).toNat := by
      unfold own_byte; rw [hS]; simp only [show 2 ^ (8 * 0) = 1 from rfl]; omega
    have hB := own_b0_eq q
    show (if 0 = 0 then ((own_v0 u).toInt % 256).toNat else 0) ||| (if 0 = 1 then ((own_vk u (8 : Int32)).toInt % 256).toNat else 0) ||| (if 0 = 2 then ((own_vk u (16 : Int32)).toInt % 256).toNat else 0) ||| (if 0 = 3 then ((own_vk u (24 : Int32)).toInt % 256).toNat else 0) ||| (if 0 = 4 then ((own_bk q (32 : Int32)).toInt % 256).toNat else 0) ||| (if 0 = 5 then ((own_bk q (40 : Int32)).toInt % 256).toNat else 0) ||| (if 0 = 6 then ((own_bk q (48 : Int32)).toInt % 256).toNat else 0) ||| (if 0 = 7 then ((own_bk q (56 : Int32)).toInt % 256).toNat else 0) = own_byte q 0 &&& own_byte (-4294967296 : Int64) 0 ||| own_byte (shlL (u.toInt64 &&& (4294967295 : Int64)) (0 : Int32)) 0
    rw [hm, hs]
    simp only [show (0 = 0) = True from by simp, if_true, if_false, Nat.or_zero, Nat.zero_or, Nat.and_zero, hb _ hq, reduceIte, Nat.reduceEqDiff]
    omega
  · have hm : own_byte (-4294967296 : Int64) 1 = 0 := by decide
    have hq := own_by_lt q 1
    have hs : own_byte (shlL (u.toInt64 &&& (4294967295 : Int64)) (0 : Int32)) 1 = ((u.toInt % 4294967296) / 256 % 256).toNat := by
      unfold own_byte; rw [hS]; simp only [show 2 ^ (8 * 1) = 256 from rfl]; omega
    have hB := own_bk_eq1 q
    show (if 1 = 0 then ((own_v0 u).toInt % 256).toNat else 0) ||| (if 1 = 1 then ((own_vk u (8 : Int32)).toInt % 256).toNat else 0) ||| (if 1 = 2 then ((own_vk u (16 : Int32)).toInt % 256).toNat else 0) ||| (if 1 = 3 then ((own_vk u (24 : Int32)).toInt % 256).toNat else 0) ||| (if 1 = 4 then ((own_bk q (32 : Int32)).toInt % 256).toNat else 0) ||| (if 1 = 5 then ((own_bk q (40 : Int32)).toInt % 256).toNat else 0) ||| (if 1 = 6 then ((own_bk q (48 : Int32)).toInt % 256).toNat else 0) ||| (if 1 = 7 then ((own_bk q (56 : Int32)).toInt % 256).toNat else 0) = own_byte q 1 &&& own_byte (-4294967296 : Int64) 1 ||| own_byte (shlL (u.toInt64 &&& (4294967295 : Int64)) (0 : Int32)) 1
    rw [hm, hs]
    simp only [show (1 = 1) = True from by simp, if_true, if_false, Nat.or_zero, Nat.zero_or, Nat.and_zero, hb _ hq, reduceIte, Nat.reduceEqDiff]
    omega
  · have hm : own_byte (-4294967296 : Int64) 2 = 0 := by decide
    have hq := own_by_lt q 2
    have hs : own_byte (shlL (u.toInt64 &&& (4294967295 : Int64)) (0 : Int32)) 2 = ((u.toInt % 4294967296) / 65536 % 256).toNat := by
      unfold own_byte; rw [hS]; simp only [show 2 ^ (8 * 2) = 65536 from rfl]; omega
    have hB := own_bk_eq2 q
    show (if 2 = 0 then ((own_v0 u).toInt % 256).toNat else 0) ||| (if 2 = 1 then ((own_vk u (8 : Int32)).toInt % 256).toNat else 0) ||| (if 2 = 2 then ((own_vk u (16 : Int32)).toInt % 256).toNat else 0) ||| (if 2 = 3 then ((own_vk u (24 : Int32)).toInt % 256).toNat else 0) ||| (if 2 = 4 then ((own_bk q (32 : Int32)).toInt % 256).toNat else 0) ||| (if 2 = 5 then ((own_bk q (40 : Int32)).toInt % 256).toNat else 0) ||| (if 2 = 6 then ((own_bk q (48 : Int32)).toInt % 256).toNat else 0) ||| (if 2 = 7 then ((own_bk q (56 : Int32)).toInt % 256).toNat else 0) = own_byte q 2 &&& own_byte (-4294967296 : Int64) 2 ||| own_byte (shlL (u.toInt64 &&& (4294967295 : Int64)) (0 : Int32)) 2
    rw [hm, hs]
    simp only [show (2 = 2) = True from by simp, if_true, if_false, Nat.or_zero, Nat.zero_or, Nat.and_zero, hb _ hq, reduceIte, Nat.reduceEqDiff]
    omega
  · have hm : own_byte (-4294967296 : Int64) 3 = 0 := by decide
    have hq := own_by_lt q 3
    have hs : own_byte (shlL (u.toInt64 &&& (4294967295 : Int64)) (0 : Int32)) 3 = ((u.toInt % 4294967296) / 16777216 % 256).toNat := by
      unfold own_byte; rw [hS]; simp only [show 2 ^ (8 * 3) = 16777216 from rfl]; omega
    have hB := own_bk_eq3 q
    show (if 3 = 0 then ((own_v0 u).toInt % 256).toNat else 0) ||| (if 3 = 1 then ((own_vk u (8 : Int32)).toInt % 256).toNat else 0) ||| (if 3 = 2 then ((own_vk u (16 : Int32)).toInt % 256).toNat else 0) ||| (if 3 = 3 then ((own_vk u (24 : Int32)).toInt % 256).toNat else 0) ||| (if 3 = 4 then ((own_bk q (32 : Int32)).toInt % 256).toNat else 0) ||| (if 3 = 5 then ((own_bk q (40 : Int32)).toInt % 256).toNat else 0) ||| (if 3 = 6 then ((own_bk q (48 : Int32)).toInt % 256).toNat else 0) ||| (if 3 = 7 then ((own_bk q (56 : Int32)).toInt % 256).toNat else 0) = own_byte q 3 &&& own_byte (-4294967296 : Int64) 3 ||| own_byte (shlL (u.toInt64 &&& (4294967295 : Int64)) (0 : Int32)) 3
    rw [hm, hs]
    simp only [show (3 = 3) = True from by simp, if_true, if_false, Nat.or_zero, Nat.zero_or, Nat.and_zero, hb _ hq, reduceIte, Nat.reduceEqDiff]
    omega
  · have hm : own_byte (-4294967296 : Int64) 4 = 255 := by decide
    have hq := own_by_lt q 4
    have hs : own_byte (shlL (u.toInt64 &&& (4294967295 : Int64)) (0 : Int32)) 4 = 0 := by
      unfold own_byte; rw [hS]; simp only [show 2 ^ (8 * 4) = 4294967296 from rfl]; omega
    have hB := own_bk_eq4 q
    show (if 4 = 0 then ((own_v0 u).toInt % 256).toNat else 0) ||| (if 4 = 1 then ((own_vk u (8 : Int32)).toInt % 256).toNat else 0) ||| (if 4 = 2 then ((own_vk u (16 : Int32)).toInt % 256).toNat else 0) ||| (if 4 = 3 then ((own_vk u (24 : Int32)).toInt % 256).toNat else 0) ||| (if 4 = 4 then ((own_bk q (32 : Int32)).toInt % 256).toNat else 0) ||| (if 4 = 5 then ((own_bk q (40 : Int32)).toInt % 256).toNat else 0) ||| (if 4 = 6 then ((own_bk q (48 : Int32)).toInt % 256).toNat else 0) ||| (if 4 = 7 then ((own_bk q (56 : Int32)).toInt % 256).toNat else 0) = own_byte q 4 &&& own_byte (-4294967296 : Int64) 4 ||| own_byte (shlL (u.toInt64 &&& (4294967295 : Int64)) (0 : Int32)) 4
    rw [hm, hs]
    simp only [show (4 = 4) = True from by simp, if_true, if_false, Nat.or_zero, Nat.zero_or, Nat.and_zero, hb _ hq, reduceIte, Nat.reduceEqDiff]
    omega
  · have hm : own_byte (-4294967296 : Int64) 5 = 255 := by decide
    have hq := own_by_lt q 5
    have hs : own_byte (shlL (u.toInt64 &&& (4294967295 : Int64)) (0 : Int32)) 5 = 0 := by
      unfold own_byte; rw [hS]; simp only [show 2 ^ (8 * 5) = 1099511627776 from rfl]; omega
    have hB := own_bk_eq5 q
    show (if 5 = 0 then ((own_v0 u).toInt % 256).toNat else 0) ||| (if 5 = 1 then ((own_vk u (8 : Int32)).toInt % 256).toNat else 0) ||| (if 5 = 2 then ((own_vk u (16 : Int32)).toInt % 256).toNat else 0) ||| (if 5 = 3 then ((own_vk u (24 : Int32)).toInt % 256).toNat else 0) ||| (if 5 = 4 then ((own_bk q (32 : Int32)).toInt % 256).toNat else 0) ||| (if 5 = 5 then ((own_bk q (40 : Int32)).toInt % 256).toNat else 0) ||| (if 5 = 6 then ((own_bk q (48 : Int32)).toInt % 256).toNat else 0) ||| (if 5 = 7 then ((own_bk q (56 : Int32)).toInt % 256).toNat else 0) = own_byte q 5 &&& own_byte (-4294967296 : Int64) 5 ||| own_byte (shlL (u.toInt64 &&& (4294967295 : Int64)) (0 : Int32)) 5
    rw [hm, hs]
    simp only [show (5 = 5) = True from by simp, if_true, if_false, Nat.or_zero, Nat.zero_or, Nat.and_zero, hb _ hq, reduceIte, Nat.reduceEqDiff]
    omega
  · have hm : own_byte (-4294967296 : Int64) 6 = 255 := by decide
    have hq := own_by_lt q 6
    have hs : own_byte (shlL (u.toInt64 &&& (4294967295 : Int64)) (0 : Int32)) 6 = 0 := by
      unfold own_byte; rw [hS]; simp only [show 2 ^ (8 * 6) = 281474976710656 from rfl]; omega
    have hB := own_bk_eq6 q
    show (if 6 = 0 then ((own_v0 u).toInt % 256).toNat else 0) ||| (if 6 = 1 then ((own_vk u (8 : Int32)).toInt % 256).toNat else 0) ||| (if 6 = 2 then ((own_vk u (16 : Int32)).toInt % 256).toNat else 0) ||| (if 6 = 3 then ((own_vk u (24 : Int32)).toInt % 256).toNat else 0) ||| (if 6 = 4 then ((own_bk q (32 : Int32)).toInt % 256).toNat else 0) ||| (if 6 = 5 then ((own_bk q (40 : Int32)).toInt % 256).toNat else 0) ||| (if 6 = 6 then ((own_bk q (48 : Int32)).toInt % 256).toNat else 0) ||| (if 6 = 7 then ((own_bk q (56 : Int32)).toInt % 256).toNat else 0) = own_byte q 6 &&& own_byte (-4294967296 : Int64) 6 ||| own_byte (shlL (u.toInt64 &&& (4294967295 : Int64)) (0 : Int32)) 6
    rw [hm, hs]
    simp only [show (6 = 6) = True from by simp, if_true, if_false, Nat.or_zero, Nat.zero_or, Nat.and_zero, hb _ hq, reduceIte, Nat.reduceEqDiff]
    omega
  · have hm : own_byte (-4294967296 : Int64) 7 = 255 := by decide
    have hq := own_by_lt q 7
    have hs : own_byte (shlL (u.toInt64 &&& (4294967295 : Int64)) (0 : Int32)) 7 = 0 := by
      unfold own_byte; rw [hS]; simp only [show 2 ^ (8 * 7) = 72057594037927936 from rfl]; omega
    have hB := own_bk_eq7 q
    show (if 7 = 0 then ((own_v0 u).toInt % 256).toNat else 0) ||| (if 7 = 1 then ((own_vk u (8 : Int32)).toInt % 256).toNat else 0) ||| (if 7 = 2 then ((own_vk u (16 : Int32)).toInt % 256).toNat else 0) ||| (if 7 = 3 then ((own_vk u (24 : Int32)).toInt % 256).toNat else 0) ||| (if 7 = 4 then ((own_bk q (32 : Int32)).toInt % 256).toNat else 0) ||| (if 7 = 5 then ((own_bk q (40 : Int32)).toInt % 256).toNat else 0) ||| (if 7 = 6 then ((own_bk q (48 : Int32)).toInt % 256).toNat else 0) ||| (if 7 = 7 then ((own_bk q (56 : Int32)).toInt % 256).toNat else 0) = own_byte q 7 &&& own_byte (-4294967296 : Int64) 7 ||| own_byte (shlL (u.toInt64 &&& (4294967295 : Int64)) (0 : Int32)) 7
    rw [hm, hs]
    simp only [show (7 = 7) = True from by simp, if_true, if_false, Nat.or_zero, Nat.zero_or, Nat.and_zero, hb _ hq, reduceIte, Nat.reduceEqDiff]
    omega
  · exfalso; omega
theorem own_law1 (q : Int64) (u : Int32) : (((((((own_u (own_b0 q) 0 ||| own_u (own_v0 u) 1) ||| own_u (own_vk u (8 : Int32)) 2) ||| own_u (own_vk u (16 : Int32)) 3) ||| own_u (own_vk u (24 : Int32)) 4) ||| own_u (own_bk q (40 : Int32)) 5) ||| own_u (own_bk q (48 : Int32)) 6) ||| own_u (own_bk q (56 : Int32)) 7) = ((q &&& (-1099511627521 : Int64)) ||| (shlL (u.toInt64 &&& (4294967295 : Int64)) (8 : Int32))) := by
  have hV : (((u.toInt64 &&& (4294967295 : Int64)).toBitVec.toNat : Nat) : Int) = u.toInt % 4294967296 := by
    have h1 := own_nat (u.toInt64 &&& (4294967295 : Int64))
    have h2 := c_maskL u.toInt64 4294967295 32 (by decide) (by decide)
    have h3 := c_i2l u
    rw [show ((2 ^ 32 : Nat) : Int) = 4294967296 from rfl] at h2
    omega
  have hS := own_shl1 (u.toInt64 &&& (4294967295 : Int64))
  refine own_ext fun k hk => ?_
  simp only [own_by_or, own_by_and, own_u0 _ k hk, own_u1 _ k hk, own_u2 _ k hk, own_u3 _ k hk, own_u4 _ k hk, own_u5 _ k hk, own_u6 _ k hk, own_u7 _ k hk]
  have a0 := own_v0_eq u
  have a1 := own_vk_eq1 u
  have a2 := own_vk_eq2 u
  have a3 := own_vk_eq3 u
  have hb : ∀ n, n < 256 → n &&& 255 = n := fun n hn => Nat.and_two_pow_sub_one_of_lt_two_pow (n := 8) hn
  rcases k with _ | _ | _ | _ | _ | _ | _ | _ | k
  · have hm : own_byte (-1099511627521 : Int64) 0 = 255 := by decide
    have hq := own_by_lt q 0
    have hs : own_byte (shlL (u.toInt64 &&& (4294967295 : Int64)) (8 : Int32)) 0 = 0 := by
      unfold own_byte; rw [hS]; simp only [show 2 ^ (8 * 0) = 1 from rfl]; omega
    have hB := own_b0_eq q
    show (if 0 = 0 then ((own_b0 q).toInt % 256).toNat else 0) ||| (if 0 = 1 then ((own_v0 u).toInt % 256).toNat else 0) ||| (if 0 = 2 then ((own_vk u (8 : Int32)).toInt % 256).toNat else 0) ||| (if 0 = 3 then ((own_vk u (16 : Int32)).toInt % 256).toNat else 0) ||| (if 0 = 4 then ((own_vk u (24 : Int32)).toInt % 256).toNat else 0) ||| (if 0 = 5 then ((own_bk q (40 : Int32)).toInt % 256).toNat else 0) ||| (if 0 = 6 then ((own_bk q (48 : Int32)).toInt % 256).toNat else 0) ||| (if 0 = 7 then ((own_bk q (56 : Int32)).toInt % 256).toNat else 0) = own_byte q 0 &&& own_byte (-1099511627521 : Int64) 0 ||| own_byte (shlL (u.toInt64 &&& (4294967295 : Int64)) (8 : Int32)) 0
    rw [hm, hs]
    simp only [show (0 = 0) = True from by simp, if_true, if_false, Nat.or_zero, Nat.zero_or, Nat.and_zero, hb _ hq, reduceIte, Nat.reduceEqDiff]
    omega
  · have hm : own_byte (-1099511627521 : Int64) 1 = 0 := by decide
    have hq := own_by_lt q 1
    have hs : own_byte (shlL (u.toInt64 &&& (4294967295 : Int64)) (8 : Int32)) 1 = ((u.toInt % 4294967296) / 1 % 256).toNat := by
      unfold own_byte; rw [hS]; simp only [show 2 ^ (8 * 1) = 256 from rfl]; omega
    have hB := own_bk_eq1 q
    show (if 1 = 0 then ((own_b0 q).toInt % 256).toNat else 0) ||| (if 1 = 1 then ((own_v0 u).toInt % 256).toNat else 0) ||| (if 1 = 2 then ((own_vk u (8 : Int32)).toInt % 256).toNat else 0) ||| (if 1 = 3 then ((own_vk u (16 : Int32)).toInt % 256).toNat else 0) ||| (if 1 = 4 then ((own_vk u (24 : Int32)).toInt % 256).toNat else 0) ||| (if 1 = 5 then ((own_bk q (40 : Int32)).toInt % 256).toNat else 0) ||| (if 1 = 6 then ((own_bk q (48 : Int32)).toInt % 256).toNat else 0) ||| (if 1 = 7 then ((own_bk q (56 : Int32)).toInt % 256).toNat else 0) = own_byte q 1 &&& own_byte (-1099511627521 : Int64) 1 ||| own_byte (shlL (u.toInt64 &&& (4294967295 : Int64)) (8 : Int32)) 1
    rw [hm, hs]
    simp only [show (1 = 1) = True from by simp, if_true, if_false, Nat.or_zero, Nat.zero_or, Nat.and_zero, hb _ hq, reduceIte, Nat.reduceEqDiff]
    omega
  · have hm : own_byte (-1099511627521 : Int64) 2 = 0 := by decide
    have hq := own_by_lt q 2
    have hs : own_byte (shlL (u.toInt64 &&& (4294967295 : Int64)) (8 : Int32)) 2 = ((u.toInt % 4294967296) / 256 % 256).toNat := by
      unfold own_byte; rw [hS]; simp only [show 2 ^ (8 * 2) = 65536 from rfl]; omega
    have hB := own_bk_eq2 q
    show (if 2 = 0 then ((own_b0 q).toInt % 256).toNat else 0) ||| (if 2 = 1 then ((own_v0 u).toInt % 256).toNat else 0) ||| (if 2 = 2 then ((own_vk u (8 : Int32)).toInt % 256).toNat else 0) ||| (if 2 = 3 then ((own_vk u (16 : Int32)).toInt % 256).toNat else 0) ||| (if 2 = 4 then ((own_vk u (24 : Int32)).toInt % 256).toNat else 0) ||| (if 2 = 5 then ((own_bk q (40 : Int32)).toInt % 256).toNat else 0) ||| (if 2 = 6 then ((own_bk q (48 : Int32)).toInt % 256).toNat else 0) ||| (if 2 = 7 then ((own_bk q (56 : Int32)).toInt % 256).toNat else 0) = own_byte q 2 &&& own_byte (-1099511627521 : Int64) 2 ||| own_byte (shlL (u.toInt64 &&& (4294967295 : Int64)) (8 : Int32)) 2
    rw [hm, hs]
    simp only [show (2 = 2) = True from by simp, if_true, if_false, Nat.or_zero, Nat.zero_or, Nat.and_zero, hb _ hq, reduceIte, Nat.reduceEqDiff]
    omega
  · have hm : own_byte (-1099511627521 : Int64) 3 = 0 := by decide
    have hq := own_by_lt q 3
    have hs : own_byte (shlL (u.toInt64 &&& (4294967295 : Int64)) (8 : Int32)) 3 = ((u.toInt % 4294967296) / 65536 % 256).toNat := by
      unfold own_byte; rw [hS]; simp only [show 2 ^ (8 * 3) = 16777216 from rfl]; omega
    have hB := own_bk_eq3 q
    show (if 3 = 0 then ((own_b0 q).toInt % 256).toNat else 0) ||| (if 3 = 1 then ((own_v0 u).toInt % 256).toNat else 0) ||| (if 3 = 2 then ((own_vk u (8 : Int32)).toInt % 256).toNat else 0) ||| (if 3 = 3 then ((own_vk u (16 : Int32)).toInt % 256).toNat else 0) ||| (if 3 = 4 then ((own_vk u (24 : Int32)).toInt % 256).toNat else 0) ||| (if 3 = 5 then ((own_bk q (40 : Int32)).toInt % 256).toNat else 0) ||| (if 3 = 6 then ((own_bk q (48 : Int32)).toInt % 256).toNat else 0) ||| (if 3 = 7 then ((own_bk q (56 : Int32)).toInt % 256).toNat else 0) = own_byte q 3 &&& own_byte (-1099511627521 : Int64) 3 ||| own_byte (shlL (u.toInt64 &&& (4294967295 : Int64)) (8 : Int32)) 3
    rw [hm, hs]
    simp only [show (3 = 3) = True from by simp, if_true, if_false, Nat.or_zero, Nat.zero_or, Nat.and_zero, hb _ hq, reduceIte, Nat.reduceEqDiff]
    omega
  · have hm : own_byte (-1099511627521 : Int64) 4 = 0 := by decide
    have hq := own_by_lt q 4
    have hs : own_byte (shlL (u.toInt64 &&& (4294967295 : Int64)) (8 : Int32)) 4 = ((u.toInt % 4294967296) / 16777216 % 256).toNat := by
      unfold own_byte; rw [hS]; simp only [show 2 ^ (8 * 4) = 4294967296 from rfl]; omega
    have hB := own_bk_eq4 q
    show (if 4 = 0 then ((own_b0 q).toInt % 256).toNat else 0) ||| (if 4 = 1 then ((own_v0 u).toInt % 256).toNat else 0) ||| (if 4 = 2 then ((own_vk u (8 : Int32)).toInt % 256).toNat else 0) ||| (if 4 = 3 then ((own_vk u (16 : Int32)).toInt % 256).toNat else 0) ||| (if 4 = 4 then ((own_vk u (24 : Int32)).toInt % 256).toNat else 0) ||| (if 4 = 5 then ((own_bk q (40 : Int32)).toInt % 256).toNat else 0) ||| (if 4 = 6 then ((own_bk q (48 : Int32)).toInt % 256).toNat else 0) ||| (if 4 = 7 then ((own_bk q (56 : Int32)).toInt % 256).toNat else 0) = own_byte q 4 &&& own_byte (-1099511627521 : Int64) 4 ||| own_byte (shlL (u.toInt64 &&& (4294967295 : Int64)) (8 : Int32)) 4
    rw [hm, hs]
    simp only [show (4 = 4) = True from by simp, if_true, if_false, Nat.or_zero, Nat.zero_or, Nat.and_zero, hb _ hq, reduceIte, Nat.reduceEqDiff]
    omega
  · have hm : own_byte (-1099511627521 : Int64) 5 = 255 := by decide
    have hq := own_by_lt q 5
    have hs : own_byte (shlL (u.toInt64 &&& (4294967295 : Int64)) (8 : Int32)) 5 = 0 := by
      unfold own_byte; rw [hS]; simp only [show 2 ^ (8 * 5) = 1099511627776 from rfl]; omega
    have hB := own_bk_eq5 q
    show (if 5 = 0 then ((own_b0 q).toInt % 256).toNat else 0) ||| (if 5 = 1 then ((own_v0 u).toInt % 256).toNat else 0) ||| (if 5 = 2 then ((own_vk u (8 : Int32)).toInt % 256).toNat else 0) ||| (if 5 = 3 then ((own_vk u (16 : Int32)).toInt % 256).toNat else 0) ||| (if 5 = 4 then ((own_vk u (24 : Int32)).toInt % 256).toNat else 0) ||| (if 5 = 5 then ((own_bk q (40 : Int32)).toInt % 256).toNat else 0) ||| (if 5 = 6 then ((own_bk q (48 : Int32)).toInt % 256).toNat else 0) ||| (if 5 = 7 then ((own_bk q (56 : Int32)).toInt % 256).toNat else 0) = own_byte q 5 &&& own_byte (-1099511627521 : Int64) 5 ||| own_byte (shlL (u.toInt64 &&& (4294967295 : Int64)) (8 : Int32)) 5
    rw [hm, hs]
    simp only [show (5 = 5) = True from by simp, if_true, if_false, Nat.or_zero, Nat.zero_or, Nat.and_zero, hb _ hq, reduceIte, Nat.reduceEqDiff]
    omega
  · have hm : own_byte (-1099511627521 : Int64) 6 = 255 := by decide
    have hq := own_by_lt q 6
    have hs : own_byte (shlL (u.toInt64 &&& (4294967295 : Int64)) (8 : Int32)) 6 = 0 := by
      unfold own_byte; rw [hS]; simp only [show 2 ^ (8 * 6) = 281474976710656 from rfl]; omega
    have hB := own_bk_eq6 q
    show (if 6 = 0 then ((own_b0 q).toInt % 256).toNat else 0) ||| (if 6 = 1 then ((own_v0 u).toInt % 256).toNat else 0) ||| (if 6 = 2 then ((own_vk u (8 : Int32)).toInt % 256).toNat else 0) ||| (if 6 = 3 then ((own_vk u (16 : Int32)).toInt % 256).toNat else 0) ||| (if 6 = 4 then ((own_vk u (24 : Int32)).toInt % 256).toNat else 0) ||| (if 6 = 5 then ((own_bk q (40 : Int32)).toInt % 256).toNat else 0) ||| (if 6 = 6 then ((own_bk q (48 : Int32)).toInt % 256).toNat else 0) ||| (if 6 = 7 then ((own_bk q (56 : Int32)).toInt % 256).toNat else 0) = own_byte q 6 &&& own_byte (-1099511627521 : Int64) 6 ||| own_byte (shlL (u.toInt64 &&& (4294967295 : Int64)) (8 : Int32)) 6
    rw [hm, hs]
    simp only [show (6 = 6) = True from by simp, if_true, if_false, Nat.or_zero, Nat.zero_or, Nat.and_zero, hb _ hq, reduceIte, Nat.reduceEqDiff]
    omega
  · have hm : own_byte (-1099511627521 : Int64) 7 = 255 := by decide
    have hq := own_by_lt q 7
    have hs : own_byte (shlL (u.toInt64 &&& (4294967295 : Int64)) (8 : Int32)) 7 = 0 := by
      unfold own_byte; rw [hS]; simp only [show 2 ^ (8 * 7) = 72057594037927936 from rfl]; omega
    have hB := own_bk_eq7 q
    show (if 7 = 0 then ((own_b0 q).toInt % 256).toNat else 0) ||| (if 7 = 1 then ((own_v0 u).toInt % 256).toNat else 0) ||| (if 7 = 2 then ((own_vk u (8 : Int32)).toInt % 256).toNat else 0) ||| (if 7 = 3 then ((own_vk u (16 : Int32)).toInt % 256).toNat else 0) ||| (if 7 = 4 then ((own_vk u (24 : Int32)).toInt % 256).toNat else 0) ||| (if 7 = 5 then ((own_bk q (40 : Int32)).toInt % 256).toNat else 0) ||| (if 7 = 6 then ((own_bk q (48 : Int32)).toInt % 256).toNat else 0) ||| (if 7 = 7 then ((own_bk q (56 : Int32)).toInt % 256).toNat else 0) = own_byte q 7 &&& own_byte (-1099511627521 : Int64) 7 ||| own_byte (shlL (u.toInt64 &&& (4294967295 : Int64)) (8 : Int32)) 7
    rw [hm, hs]
    simp only [show (7 = 7) = True from by simp, if_true, if_false, Nat.or_zero, Nat.zero_or, Nat.and_zero, hb _ hq, reduceIte, Nat.reduceEqDiff]
    omega
  · exfalso; omega
theorem own_law2 (q : Int64) (u : Int32) : (((((((own_u (own_b0 q) 0 ||| own_u (own_bk q (8 : Int32)) 1) ||| own_u (own_v0 u) 2) ||| own_u (own_vk u (8 : Int32)) 3) ||| own_u (own_vk u (16 : Int32)) 4) ||| own_u (own_vk u (24 : Int32)) 5) ||| own_u (own_bk q (48 : Int32)) 6) ||| own_u (own_bk q (56 : Int32)) 7) = ((q &&& (-281474976645121 : Int64)) ||| (shlL (u.toInt64 &&& (4294967295 : Int64)) (16 : Int32))) := by
  have hV : (((u.toInt64 &&& (4294967295 : Int64)).toBitVec.toNat : Nat) : Int) = u.toInt % 4294967296 := by
    have h1 := own_nat (u.toInt64 &&& (4294967295 : Int64))
    have h2 := c_maskL u.toInt64 4294967295 32 (by decide) (by decide)
    have h3 := c_i2l u
    rw [show ((2 ^ 32 : Nat) : Int) = 4294967296 from rfl] at h2
    omega
  have hS := own_shl2 (u.toInt64 &&& (4294967295 : Int64))
  refine own_ext fun k hk => ?_
  simp only [own_by_or, own_by_and, own_u0 _ k hk, own_u1 _ k hk, own_u2 _ k hk, own_u3 _ k hk, own_u4 _ k hk, own_u5 _ k hk, own_u6 _ k hk, own_u7 _ k hk]
  have a0 := own_v0_eq u
  have a1 := own_vk_eq1 u
  have a2 := own_vk_eq2 u
  have a3 := own_vk_eq3 u
  have hb : ∀ n, n < 256 → n &&& 255 = n := fun n hn => Nat.and_two_pow_sub_one_of_lt_two_pow (n := 8) hn
  rcases k with _ | _ | _ | _ | _ | _ | _ | _ | k
  · have hm : own_byte (-281474976645121 : Int64) 0 = 255 := by decide
    have hq := own_by_lt q 0
    have hs : own_byte (shlL (u.toInt64 &&& (4294967295 : Int64)) (16 : Int32)) 0 = 0 := by
      unfold own_byte; rw [hS]; simp only [show 2 ^ (8 * 0) = 1 from rfl]; omega
    have hB := own_b0_eq q
    show (if 0 = 0 then ((own_b0 q).toInt % 256).toNat else 0) ||| (if 0 = 1 then ((own_bk q (8 : Int32)).toInt % 256).toNat else 0) ||| (if 0 = 2 then ((own_v0 u).toInt % 256).toNat else 0) ||| (if 0 = 3 then ((own_vk u (8 : Int32)).toInt % 256).toNat else 0) ||| (if 0 = 4 then ((own_vk u (16 : Int32)).toInt % 256).toNat else 0) ||| (if 0 = 5 then ((own_vk u (24 : Int32)).toInt % 256).toNat else 0) ||| (if 0 = 6 then ((own_bk q (48 : Int32)).toInt % 256).toNat else 0) ||| (if 0 = 7 then ((own_bk q (56 : Int32)).toInt % 256).toNat else 0) = own_byte q 0 &&& own_byte (-281474976645121 : Int64) 0 ||| own_byte (shlL (u.toInt64 &&& (4294967295 : Int64)) (16 : Int32)) 0
    rw [hm, hs]
    simp only [show (0 = 0) = True from by simp, if_true, if_false, Nat.or_zero, Nat.zero_or, Nat.and_zero, hb _ hq, reduceIte, Nat.reduceEqDiff]
    omega
  · have hm : own_byte (-281474976645121 : Int64) 1 = 255 := by decide
    have hq := own_by_lt q 1
    have hs : own_byte (shlL (u.toInt64 &&& (4294967295 : Int64)) (16 : Int32)) 1 = 0 := by
      unfold own_byte; rw [hS]; simp only [show 2 ^ (8 * 1) = 256 from rfl]; omega
    have hB := own_bk_eq1 q
    show (if 1 = 0 then ((own_b0 q).toInt % 256).toNat else 0) ||| (if 1 = 1 then ((own_bk q (8 : Int32)).toInt % 256).toNat else 0) ||| (if 1 = 2 then ((own_v0 u).toInt % 256).toNat else 0) ||| (if 1 = 3 then ((own_vk u (8 : Int32)).toInt % 256).toNat else 0) ||| (if 1 = 4 then ((own_vk u (16 : Int32)).toInt % 256).toNat else 0) ||| (if 1 = 5 then ((own_vk u (24 : Int32)).toInt % 256).toNat else 0) ||| (if 1 = 6 then ((own_bk q (48 : Int32)).toInt % 256).toNat else 0) ||| (if 1 = 7 then ((own_bk q (56 : Int32)).toInt % 256).toNat else 0) = own_byte q 1 &&& own_byte (-281474976645121 : Int64) 1 ||| own_byte (shlL (u.toInt64 &&& (4294967295 : Int64)) (16 : Int32)) 1
    rw [hm, hs]
    simp only [show (1 = 1) = True from by simp, if_true, if_false, Nat.or_zero, Nat.zero_or, Nat.and_zero, hb _ hq, reduceIte, Nat.reduceEqDiff]
    omega
  · have hm : own_byte (-281474976645121 : Int64) 2 = 0 := by decide
    have hq := own_by_lt q 2
    have hs : own_byte (shlL (u.toInt64 &&& (4294967295 : Int64)) (16 : Int32)) 2 = ((u.toInt % 4294967296) / 1 % 256).toNat := by
      unfold own_byte; rw [hS]; simp only [show 2 ^ (8 * 2) = 65536 from rfl]; omega
    have hB := own_bk_eq2 q
    show (if 2 = 0 then ((own_b0 q).toInt % 256).toNat else 0) ||| (if 2 = 1 then ((own_bk q (8 : Int32)).toInt % 256).toNat else 0) ||| (if 2 = 2 then ((own_v0 u).toInt % 256).toNat else 0) ||| (if 2 = 3 then ((own_vk u (8 : Int32)).toInt % 256).toNat else 0) ||| (if 2 = 4 then ((own_vk u (16 : Int32)).toInt % 256).toNat else 0) ||| (if 2 = 5 then ((own_vk u (24 : Int32)).toInt % 256).toNat else 0) ||| (if 2 = 6 then ((own_bk q (48 : Int32)).toInt % 256).toNat else 0) ||| (if 2 = 7 then ((own_bk q (56 : Int32)).toInt % 256).toNat else 0) = own_byte q 2 &&& own_byte (-281474976645121 : Int64) 2 ||| own_byte (shlL (u.toInt64 &&& (4294967295 : Int64)) (16 : Int32)) 2
    rw [hm, hs]
    simp only [show (2 = 2) = True from by simp, if_true, if_false, Nat.or_zero, Nat.zero_or, Nat.and_zero, hb _ hq, reduceIte, Nat.reduceEqDiff]
    omega
  · have hm : own_byte (-281474976645121 : Int64) 3 = 0 := by decide
    have hq := own_by_lt q 3
    have hs : own_byte (shlL (u.toInt64 &&& (4294967295 : Int64)) (16 : Int32)) 3 = ((u.toInt % 4294967296) / 256 % 256).toNat := by
      unfold own_byte; rw [hS]; simp only [show 2 ^ (8 * 3) = 16777216 from rfl]; omega
    have hB := own_bk_eq3 q
    show (if 3 = 0 then ((own_b0 q).toInt % 256).toNat else 0) ||| (if 3 = 1 then ((own_bk q (8 : Int32)).toInt % 256).toNat else 0) ||| (if 3 = 2 then ((own_v0 u).toInt % 256).toNat else 0) ||| (if 3 = 3 then ((own_vk u (8 : Int32)).toInt % 256).toNat else 0) ||| (if 3 = 4 then ((own_vk u (16 : Int32)).toInt % 256).toNat else 0) ||| (if 3 = 5 then ((own_vk u (24 : Int32)).toInt % 256).toNat else 0) ||| (if 3 = 6 then ((own_bk q (48 : Int32)).toInt % 256).toNat else 0) ||| (if 3 = 7 then ((own_bk q (56 : Int32)).toInt % 256).toNat else 0) = own_byte q 3 &&& own_byte (-281474976645121 : Int64) 3 ||| own_byte (shlL (u.toInt64 &&& (4294967295 : Int64)) (16 : Int32)) 3
    rw [hm, hs]
    simp only [show (3 = 3) = True from by simp, if_true, if_false, Nat.or_zero, Nat.zero_or, Nat.and_zero, hb _ hq, reduceIte, Nat.reduceEqDiff]
    omega
  · have hm : own_byte (-281474976645121 : Int64) 4 = 0 := by decide
    have hq := own_by_lt q 4
    have hs : own_byte (shlL (u.toInt64 &&& (4294967295 : Int64)) (16 : Int32)) 4 = ((u.toInt % 4294967296) / 65536 % 256).toNat := by
      unfold own_byte; rw [hS]; simp only [show 2 ^ (8 * 4) = 4294967296 from rfl]; omega
    have hB := own_bk_eq4 q
    show (if 4 = 0 then ((own_b0 q).toInt % 256).toNat else 0) ||| (if 4 = 1 then ((own_bk q (8 : Int32)).toInt % 256).toNat else 0) ||| (if 4 = 2 then ((own_v0 u).toInt % 256).toNat else 0) ||| (if 4 = 3 then ((own_vk u (8 : Int32)).toInt % 256).toNat else 0) ||| (if 4 = 4 then ((own_vk u (16 : Int32)).toInt % 256).toNat else 0) ||| (if 4 = 5 then ((own_vk u (24 : Int32)).toInt % 256).toNat else 0) ||| (if 4 = 6 then ((own_bk q (48 : Int32)).toInt % 256).toNat else 0) ||| (if 4 = 7 then ((own_bk q (56 : Int32)).toInt % 256).toNat else 0) = own_byte q 4 &&& own_byte (-281474976645121 : Int64) 4 ||| own_byte (shlL (u.toInt64 &&& (4294967295 : Int64)) (16 : Int32)) 4
    rw [hm, hs]
    simp only [show (4 = 4) = True from by simp, if_true, if_false, Nat.or_zero, Nat.zero_or, Nat.and_zero, hb _ hq, reduceIte, Nat.reduceEqDiff]
    omega
  · have hm : own_byte (-281474976645121 : Int64) 5 = 0 := by decide
    have hq := own_by_lt q 5
    have hs : own_byte (shlL (u.toInt64 &&& (4294967295 : Int64)) (16 : Int32)) 5 = ((u.toInt % 4294967296) / 16777216 % 256).toNat := by
      unfold own_byte; rw [hS]; simp only [show 2 ^ (8 * 5) = 1099511627776 from rfl]; omega
    have hB := own_bk_eq5 q
    show (if 5 = 0 then ((own_b0 q).toInt % 256).toNat else 0) ||| (if 5 = 1 then ((own_bk q (8 : Int32)).toInt % 256).toNat else 0) ||| (if 5 = 2 then ((own_v0 u).toInt % 256).toNat else 0) ||| (if 5 = 3 then ((own_vk u (8 : Int32)).toInt % 256).toNat else 0) ||| (if 5 = 4 then ((own_vk u (16 : Int32)).toInt % 256).toNat else 0) ||| (if 5 = 5 then ((own_vk u (24 : Int32)).toInt % 256).toNat else 0) ||| (if 5 = 6 then ((own_bk q (48 : Int32)).toInt % 256).toNat else 0) ||| (if 5 = 7 then ((own_bk q (56 : Int32)).toInt % 256).toNat else 0) = own_byte q 5 &&& own_byte (-281474976645121 : Int64) 5 ||| own_byte (shlL (u.toInt64 &&& (4294967295 : Int64)) (16 : Int32)) 5
    rw [hm, hs]
    simp only [show (5 = 5) = True from by simp, if_true, if_false, Nat.or_zero, Nat.zero_or, Nat.and_zero, hb _ hq, reduceIte, Nat.reduceEqDiff]
    omega
  · have hm : own_byte (-281474976645121 : Int64) 6 = 255 := by decide
    have hq := own_by_lt q 6
    have hs : own_byte (shlL (u.toInt64 &&& (4294967295 : Int64)) (16 : Int32)) 6 = 0 := by
      unfold own_byte; rw [hS]; simp only [show 2 ^ (8 * 6) = 281474976710656 from rfl]; omega
    have hB := own_bk_eq6 q
    show (if 6 = 0 then ((own_b0 q).toInt % 256).toNat else 0) ||| (if 6 = 1 then ((own_bk q (8 : Int32)).toInt % 256).toNat else 0) ||| (if 6 = 2 then ((own_v0 u).toInt % 256).toNat else 0) ||| (if 6 = 3 then ((own_vk u (8 : Int32)).toInt % 256).toNat else 0) ||| (if 6 = 4 then ((own_vk u (16 : Int32)).toInt % 256).toNat else 0) ||| (if 6 = 5 then ((own_vk u (24 : Int32)).toInt % 256).toNat else 0) ||| (if 6 = 6 then ((own_bk q (48 : Int32)).toInt % 256).toNat else 0) ||| (if 6 = 7 then ((own_bk q (56 : Int32)).toInt % 256).toNat else 0) = own_byte q 6 &&& own_byte (-281474976645121 : Int64) 6 ||| own_byte (shlL (u.toInt64 &&& (4294967295 : Int64)) (16 : Int32)) 6
    rw [hm, hs]
    simp only [show (6 = 6) = True from by simp, if_true, if_false, Nat.or_zero, Nat.zero_or, Nat.and_zero, hb _ hq, reduceIte, Nat.reduceEqDiff]
    omega
  · have hm : own_byte (-281474976645121 : Int64) 7 = 255 := by decide
    have hq := own_by_lt q 7
    have hs : own_byte (shlL (u.toInt64 &&& (4294967295 : Int64)) (16 : Int32)) 7 = 0 := by
      unfold own_byte; rw [hS]; simp only [show 2 ^ (8 * 7) = 72057594037927936 from rfl]; omega
    have hB := own_bk_eq7 q
    show (if 7 = 0 then ((own_b0 q).toInt % 256).toNat else 0) ||| (if 7 = 1 then ((own_bk q (8 : Int32)).toInt % 256).toNat else 0) ||| (if 7 = 2 then ((own_v0 u).toInt % 256).toNat else 0) ||| (if 7 = 3 then ((own_vk u (8 : Int32)).toInt % 256).toNat else 0) ||| (if 7 = 4 then ((own_vk u (16 : Int32)).toInt % 256).toNat else 0) ||| (if 7 = 5 then ((own_vk u (24 : Int32)).toInt % 256).toNat else 0) ||| (if 7 = 6 then ((own_bk q (48 : Int32)).toInt % 256).toNat else 0) ||| (if 7 = 7 then ((own_bk q (56 : Int32)).toInt % 256).toNat else 0) = own_byte q 7 &&& own_byte (-281474976645121 : Int64) 7 ||| own_byte (shlL (u.toInt64 &&& (4294967295 : Int64)) (16 : Int32)) 7
    rw [hm, hs]
    simp only [show (7 = 7) = True from by simp, if_true, if_false, Nat.or_zero, Nat.zero_or, Nat.and_zero, hb _ hq, reduceIte, Nat.reduceEqDiff]
    omega
  · exfalso; omega
theorem own_law3 (q : Int64) (u : Int32) : (((((((own_u (own_b0 q) 0 ||| own_u (own_bk q (8 : Int32)) 1) ||| own_u (own_bk q (16 : Int32)) 2) ||| own_u (own_v0 u) 3) ||| own_u (own_vk u (8 : Int32)) 4) ||| own_u (own_vk u (16 : Int32)) 5) ||| own_u (own_vk u (24 : Int32)) 6) ||| own_u (own_bk q (56 : Int32)) 7) = ((q &&& (-72057594021150721 : Int64)) ||| (shlL (u.toInt64 &&& (4294967295 : Int64)) (24 : Int32))) := by
  have hV : (((u.toInt64 &&& (4294967295 : Int64)).toBitVec.toNat : Nat) : Int) = u.toInt % 4294967296 := by
    have h1 := own_nat (u.toInt64 &&& (4294967295 : Int64))
    have h2 := c_maskL u.toInt64 4294967295 32 (by decide) (by decide)
    have h3 := c_i2l u
    rw [show ((2 ^ 32 : Nat) : Int) = 4294967296 from rfl] at h2
    omega
  have hS := own_shl3 (u.toInt64 &&& (4294967295 : Int64))
  refine own_ext fun k hk => ?_
  simp only [own_by_or, own_by_and, own_u0 _ k hk, own_u1 _ k hk, own_u2 _ k hk, own_u3 _ k hk, own_u4 _ k hk, own_u5 _ k hk, own_u6 _ k hk, own_u7 _ k hk]
  have a0 := own_v0_eq u
  have a1 := own_vk_eq1 u
  have a2 := own_vk_eq2 u
  have a3 := own_vk_eq3 u
  have hb : ∀ n, n < 256 → n &&& 255 = n := fun n hn => Nat.and_two_pow_sub_one_of_lt_two_pow (n := 8) hn
  rcases k with _ | _ | _ | _ | _ | _ | _ | _ | k
  · have hm : own_byte (-72057594021150721 : Int64) 0 = 255 := by decide
    have hq := own_by_lt q 0
    have hs : own_byte (shlL (u.toInt64 &&& (4294967295 : Int64)) (24 : Int32)) 0 = 0 := by
      unfold own_byte; rw [hS]; simp only [show 2 ^ (8 * 0) = 1 from rfl]; omega
    have hB := own_b0_eq q
    show (if 0 = 0 then ((own_b0 q).toInt % 256).toNat else 0) ||| (if 0 = 1 then ((own_bk q (8 : Int32)).toInt % 256).toNat else 0) ||| (if 0 = 2 then ((own_bk q (16 : Int32)).toInt % 256).toNat else 0) ||| (if 0 = 3 then ((own_v0 u).toInt % 256).toNat else 0) ||| (if 0 = 4 then ((own_vk u (8 : Int32)).toInt % 256).toNat else 0) ||| (if 0 = 5 then ((own_vk u (16 : Int32)).toInt % 256).toNat else 0) ||| (if 0 = 6 then ((own_vk u (24 : Int32)).toInt % 256).toNat else 0) ||| (if 0 = 7 then ((own_bk q (56 : Int32)).toInt % 256).toNat else 0) = own_byte q 0 &&& own_byte (-72057594021150721 : Int64) 0 ||| own_byte (shlL (u.toInt64 &&& (4294967295 : Int64)) (24 : Int32)) 0
    rw [hm, hs]
    simp only [show (0 = 0) = True from by simp, if_true, if_false, Nat.or_zero, Nat.zero_or, Nat.and_zero, hb _ hq, reduceIte, Nat.reduceEqDiff]
    omega
  · have hm : own_byte (-72057594021150721 : Int64) 1 = 255 := by decide
    have hq := own_by_lt q 1
    have hs : own_byte (shlL (u.toInt64 &&& (4294967295 : Int64)) (24 : Int32)) 1 = 0 := by
      unfold own_byte; rw [hS]; simp only [show 2 ^ (8 * 1) = 256 from rfl]; omega
    have hB := own_bk_eq1 q
    show (if 1 = 0 then ((own_b0 q).toInt % 256).toNat else 0) ||| (if 1 = 1 then ((own_bk q (8 : Int32)).toInt % 256).toNat else 0) ||| (if 1 = 2 then ((own_bk q (16 : Int32)).toInt % 256).toNat else 0) ||| (if 1 = 3 then ((own_v0 u).toInt % 256).toNat else 0) ||| (if 1 = 4 then ((own_vk u (8 : Int32)).toInt % 256).toNat else 0) ||| (if 1 = 5 then ((own_vk u (16 : Int32)).toInt % 256).toNat else 0) ||| (if 1 = 6 then ((own_vk u (24 : Int32)).toInt % 256).toNat else 0) ||| (if 1 = 7 then ((own_bk q (56 : Int32)).toInt % 256).toNat else 0) = own_byte q 1 &&& own_byte (-72057594021150721 : Int64) 1 ||| own_byte (shlL (u.toInt64 &&& (4294967295 : Int64)) (24 : Int32)) 1
    rw [hm, hs]
    simp only [show (1 = 1) = True from by simp, if_true, if_false, Nat.or_zero, Nat.zero_or, Nat.and_zero, hb _ hq, reduceIte, Nat.reduceEqDiff]
    omega
  · have hm : own_byte (-72057594021150721 : Int64) 2 = 255 := by decide
    have hq := own_by_lt q 2
    have hs : own_byte (shlL (u.toInt64 &&& (4294967295 : Int64)) (24 : Int32)) 2 = 0 := by
      unfold own_byte; rw [hS]; simp only [show 2 ^ (8 * 2) = 65536 from rfl]; omega
    have hB := own_bk_eq2 q
    show (if 2 = 0 then ((own_b0 q).toInt % 256).toNat else 0) ||| (if 2 = 1 then ((own_bk q (8 : Int32)).toInt % 256).toNat else 0) ||| (if 2 = 2 then ((own_bk q (16 : Int32)).toInt % 256).toNat else 0) ||| (if 2 = 3 then ((own_v0 u).toInt % 256).toNat else 0) ||| (if 2 = 4 then ((own_vk u (8 : Int32)).toInt % 256).toNat else 0) ||| (if 2 = 5 then ((own_vk u (16 : Int32)).toInt % 256).toNat else 0) ||| (if 2 = 6 then ((own_vk u (24 : Int32)).toInt % 256).toNat else 0) ||| (if 2 = 7 then ((own_bk q (56 : Int32)).toInt % 256).toNat else 0) = own_byte q 2 &&& own_byte (-72057594021150721 : Int64) 2 ||| own_byte (shlL (u.toInt64 &&& (4294967295 : Int64)) (24 : Int32)) 2
    rw [hm, hs]
    simp only [show (2 = 2) = True from by simp, if_true, if_false, Nat.or_zero, Nat.zero_or, Nat.and_zero, hb _ hq, reduceIte, Nat.reduceEqDiff]
    omega
  · have hm : own_byte (-72057594021150721 : Int64) 3 = 0 := by decide
    have hq := own_by_lt q 3
    have hs : own_byte (shlL (u.toInt64 &&& (4294967295 : Int64)) (24 : Int32)) 3 = ((u.toInt % 4294967296) / 1 % 256).toNat := by
      unfold own_byte; rw [hS]; simp only [show 2 ^ (8 * 3) = 16777216 from rfl]; omega
    have hB := own_bk_eq3 q
    show (if 3 = 0 then ((own_b0 q).toInt % 256).toNat else 0) ||| (if 3 = 1 then ((own_bk q (8 : Int32)).toInt % 256).toNat else 0) ||| (if 3 = 2 then ((own_bk q (16 : Int32)).toInt % 256).toNat else 0) ||| (if 3 = 3 then ((own_v0 u).toInt % 256).toNat else 0) ||| (if 3 = 4 then ((own_vk u (8 : Int32)).toInt % 256).toNat else 0) ||| (if 3 = 5 then ((own_vk u (16 : Int32)).toInt % 256).toNat else 0) ||| (if 3 = 6 then ((own_vk u (24 : Int32)).toInt % 256).toNat else 0) ||| (if 3 = 7 then ((own_bk q (56 : Int32)).toInt % 256).toNat else 0) = own_byte q 3 &&& own_byte (-72057594021150721 : Int64) 3 ||| own_byte (shlL (u.toInt64 &&& (4294967295 : Int64)) (24 : Int32)) 3
    rw [hm, hs]
    simp only [show (3 = 3) = True from by simp, if_true, if_false, Nat.or_zero, Nat.zero_or, Nat.and_zero, hb _ hq, reduceIte, Nat.reduceEqDiff]
    omega
  · have hm : own_byte (-72057594021150721 : Int64) 4 = 0 := by decide
    have hq := own_by_lt q 4
    have hs : own_byte (shlL (u.toInt64 &&& (4294967295 : Int64)) (24 : Int32)) 4 = ((u.toInt % 4294967296) / 256 % 256).toNat := by
      unfold own_byte; rw [hS]; simp only [show 2 ^ (8 * 4) = 4294967296 from rfl]; omega
    have hB := own_bk_eq4 q
    show (if 4 = 0 then ((own_b0 q).toInt % 256).toNat else 0) ||| (if 4 = 1 then ((own_bk q (8 : Int32)).toInt % 256).toNat else 0) ||| (if 4 = 2 then ((own_bk q (16 : Int32)).toInt % 256).toNat else 0) ||| (if 4 = 3 then ((own_v0 u).toInt % 256).toNat else 0) ||| (if 4 = 4 then ((own_vk u (8 : Int32)).toInt % 256).toNat else 0) ||| (if 4 = 5 then ((own_vk u (16 : Int32)).toInt % 256).toNat else 0) ||| (if 4 = 6 then ((own_vk u (24 : Int32)).toInt % 256).toNat else 0) ||| (if 4 = 7 then ((own_bk q (56 : Int32)).toInt % 256).toNat else 0) = own_byte q 4 &&& own_byte (-72057594021150721 : Int64) 4 ||| own_byte (shlL (u.toInt64 &&& (4294967295 : Int64)) (24 : Int32)) 4
    rw [hm, hs]
    simp only [show (4 = 4) = True from by simp, if_true, if_false, Nat.or_zero, Nat.zero_or, Nat.and_zero, hb _ hq, reduceIte, Nat.reduceEqDiff]
    omega
  · have hm : own_byte (-72057594021150721 : Int64) 5 = 0 := by decide
    have hq := own_by_lt q 5
    have hs : own_byte (shlL (u.toInt64 &&& (4294967295 : Int64)) (24 : Int32)) 5 = ((u.toInt % 4294967296) / 65536 % 256).toNat := by
      unfold own_byte; rw [hS]; simp only [show 2 ^ (8 * 5) = 1099511627776 from rfl]; omega
    have hB := own_bk_eq5 q
    show (if 5 = 0 then ((own_b0 q).toInt % 256).toNat else 0) ||| (if 5 = 1 then ((own_bk q (8 : Int32)).toInt % 256).toNat else 0) ||| (if 5 = 2 then ((own_bk q (16 : Int32)).toInt % 256).toNat else 0) ||| (if 5 = 3 then ((own_v0 u).toInt % 256).toNat else 0) ||| (if 5 = 4 then ((own_vk u (8 : Int32)).toInt % 256).toNat else 0) ||| (if 5 = 5 then ((own_vk u (16 : Int32)).toInt % 256).toNat else 0) ||| (if 5 = 6 then ((own_vk u (24 : Int32)).toInt % 256).toNat else 0) ||| (if 5 = 7 then ((own_bk q (56 : Int32)).toInt % 256).toNat else 0) = own_byte q 5 &&& own_byte (-72057594021150721 : Int64) 5 ||| own_byte (shlL (u.toInt64 &&& (4294967295 : Int64)) (24 : Int32)) 5
    rw [hm, hs]
    simp only [show (5 = 5) = True from by simp, if_true, if_false, Nat.or_zero, Nat.zero_or, Nat.and_zero, hb _ hq, reduceIte, Nat.reduceEqDiff]
    omega
  · have hm : own_byte (-72057594021150721 : Int64) 6 = 0 := by decide
    have hq := own_by_lt q 6
    have hs : own_byte (shlL (u.toInt64 &&& (4294967295 : Int64)) (24 : Int32)) 6 = ((u.toInt % 4294967296) / 16777216 % 256).toNat := by
      unfold own_byte; rw [hS]; simp only [show 2 ^ (8 * 6) = 281474976710656 from rfl]; omega
    have hB := own_bk_eq6 q
    show (if 6 = 0 then ((own_b0 q).toInt % 256).toNat else 0) ||| (if 6 = 1 then ((own_bk q (8 : Int32)).toInt % 256).toNat else 0) ||| (if 6 = 2 then ((own_bk q (16 : Int32)).toInt % 256).toNat else 0) ||| (if 6 = 3 then ((own_v0 u).toInt % 256).toNat else 0) ||| (if 6 = 4 then ((own_vk u (8 : Int32)).toInt % 256).toNat else 0) ||| (if 6 = 5 then ((own_vk u (16 : Int32)).toInt % 256).toNat else 0) ||| (if 6 = 6 then ((own_vk u (24 : Int32)).toInt % 256).toNat else 0) ||| (if 6 = 7 then ((own_bk q (56 : Int32)).toInt % 256).toNat else 0) = own_byte q 6 &&& own_byte (-72057594021150721 : Int64) 6 ||| own_byte (shlL (u.toInt64 &&& (4294967295 : Int64)) (24 : Int32)) 6
    rw [hm, hs]
    simp only [show (6 = 6) = True from by simp, if_true, if_false, Nat.or_zero, Nat.zero_or, Nat.and_zero, hb _ hq, reduceIte, Nat.reduceEqDiff]
    omega
  · have hm : own_byte (-72057594021150721 : Int64) 7 = 255 := by decide
    have hq := own_by_lt q 7
    have hs : own_byte (shlL (u.toInt64 &&& (4294967295 : Int64)) (24 : Int32)) 7 = 0 := by
      unfold own_byte; rw [hS]; simp only [show 2 ^ (8 * 7) = 72057594037927936 from rfl]; omega
    have hB := own_bk_eq7 q
    show (if 7 = 0 then ((own_b0 q).toInt % 256).toNat else 0) ||| (if 7 = 1 then ((own_bk q (8 : Int32)).toInt % 256).toNat else 0) ||| (if 7 = 2 then ((own_bk q (16 : Int32)).toInt % 256).toNat else 0) ||| (if 7 = 3 then ((own_v0 u).toInt % 256).toNat else 0) ||| (if 7 = 4 then ((own_vk u (8 : Int32)).toInt % 256).toNat else 0) ||| (if 7 = 5 then ((own_vk u (16 : Int32)).toInt % 256).toNat else 0) ||| (if 7 = 6 then ((own_vk u (24 : Int32)).toInt % 256).toNat else 0) ||| (if 7 = 7 then ((own_bk q (56 : Int32)).toInt % 256).toNat else 0) = own_byte q 7 &&& own_byte (-72057594021150721 : Int64) 7 ||| own_byte (shlL (u.toInt64 &&& (4294967295 : Int64)) (24 : Int32)) 7
    rw [hm, hs]
    simp only [show (7 = 7) = True from by simp, if_true, if_false, Nat.or_zero, Nat.zero_or, Nat.and_zero, hb _ hq, reduceIte, Nat.reduceEqDiff]
    omega
  · exfalso; omega
theorem own_law4 (q : Int64) (u : Int32) : (((((((own_u (own_b0 q) 0 ||| own_u (own_bk q (8 : Int32)) 1) ||| own_u (own_bk q (16 : Int32)) 2) ||| own_u (own_bk q (24 : Int32)) 3) ||| own_u (own_v0 u) 4) ||| own_u (own_vk u (8 : Int32)) 5) ||| own_u (own_vk u (16 : Int32)) 6) ||| own_u (own_vk u (24 : Int32)) 7) = ((q &&& (4294967295 : Int64)) ||| (shlL (u.toInt64 &&& (4294967295 : Int64)) (32 : Int32))) := by
  have hV : (((u.toInt64 &&& (4294967295 : Int64)).toBitVec.toNat : Nat) : Int) = u.toInt % 4294967296 := by
    have h1 := own_nat (u.toInt64 &&& (4294967295 : Int64))
    have h2 := c_maskL u.toInt64 4294967295 32 (by decide) (by decide)
    have h3 := c_i2l u
    rw [show ((2 ^ 32 : Nat) : Int) = 4294967296 from rfl] at h2
    omega
  have hS := own_shl4 (u.toInt64 &&& (4294967295 : Int64))
  refine own_ext fun k hk => ?_
  simp only [own_by_or, own_by_and, own_u0 _ k hk, own_u1 _ k hk, own_u2 _ k hk, own_u3 _ k hk, own_u4 _ k hk, own_u5 _ k hk, own_u6 _ k hk, own_u7 _ k hk]
  have a0 := own_v0_eq u
  have a1 := own_vk_eq1 u
  have a2 := own_vk_eq2 u
  have a3 := own_vk_eq3 u
  have hb : ∀ n, n < 256 → n &&& 255 = n := fun n hn => Nat.and_two_pow_sub_one_of_lt_two_pow (n := 8) hn
  rcases k with _ | _ | _ | _ | _ | _ | _ | _ | k
  · have hm : own_byte (4294967295 : Int64) 0 = 255 := by decide
    have hq := own_by_lt q 0
    have hs : own_byte (shlL (u.toInt64 &&& (4294967295 : Int64)) (32 : Int32)) 0 = 0 := by
      unfold own_byte; rw [hS]; simp only [show 2 ^ (8 * 0) = 1 from rfl]; omega
    have hB := own_b0_eq q
    show (if 0 = 0 then ((own_b0 q).toInt % 256).toNat else 0) ||| (if 0 = 1 then ((own_bk q (8 : Int32)).toInt % 256).toNat else 0) ||| (if 0 = 2 then ((own_bk q (16 : Int32)).toInt % 256).toNat else 0) ||| (if 0 = 3 then ((own_bk q (24 : Int32)).toInt % 256).toNat else 0) ||| (if 0 = 4 then ((own_v0 u).toInt % 256).toNat else 0) ||| (if 0 = 5 then ((own_vk u (8 : Int32)).toInt % 256).toNat else 0) ||| (if 0 = 6 then ((own_vk u (16 : Int32)).toInt % 256).toNat else 0) ||| (if 0 = 7 then ((own_vk u (24 : Int32)).toInt % 256).toNat else 0) = own_byte q 0 &&& own_byte (4294967295 : Int64) 0 ||| own_byte (shlL (u.toInt64 &&& (4294967295 : Int64)) (32 : Int32)) 0
    rw [hm, hs]
    simp only [show (0 = 0) = True from by simp, if_true, if_false, Nat.or_zero, Nat.zero_or, Nat.and_zero, hb _ hq, reduceIte, Nat.reduceEqDiff]
    omega
  · have hm : own_byte (4294967295 : Int64) 1 = 255 := by decide
    have hq := own_by_lt q 1
    have hs : own_byte (shlL (u.toInt64 &&& (4294967295 : Int64)) (32 : Int32)) 1 = 0 := by
      unfold own_byte; rw [hS]; simp only [show 2 ^ (8 * 1) = 256 from rfl]; omega
    have hB := own_bk_eq1 q
    show (if 1 = 0 then ((own_b0 q).toInt % 256).toNat else 0) ||| (if 1 = 1 then ((own_bk q (8 : Int32)).toInt % 256).toNat else 0) ||| (if 1 = 2 then ((own_bk q (16 : Int32)).toInt % 256).toNat else 0) ||| (if 1 = 3 then ((own_bk q (24 : Int32)).toInt % 256).toNat else 0) ||| (if 1 = 4 then ((own_v0 u).toInt % 256).toNat else 0) ||| (if 1 = 5 then ((own_vk u (8 : Int32)).toInt % 256).toNat else 0) ||| (if 1 = 6 then ((own_vk u (16 : Int32)).toInt % 256).toNat else 0) ||| (if 1 = 7 then ((own_vk u (24 : Int32)).toInt % 256).toNat else 0) = own_byte q 1 &&& own_byte (4294967295 : Int64) 1 ||| own_byte (shlL (u.toInt64 &&& (4294967295 : Int64)) (32 : Int32)) 1
    rw [hm, hs]
    simp only [show (1 = 1) = True from by simp, if_true, if_false, Nat.or_zero, Nat.zero_or, Nat.and_zero, hb _ hq, reduceIte, Nat.reduceEqDiff]
    omega
  · have hm : own_byte (4294967295 : Int64) 2 = 255 := by decide
    have hq := own_by_lt q 2
    have hs : own_byte (shlL (u.toInt64 &&& (4294967295 : Int64)) (32 : Int32)) 2 = 0 := by
      unfold own_byte; rw [hS]; simp only [show 2 ^ (8 * 2) = 65536 from rfl]; omega
    have hB := own_bk_eq2 q
    show (if 2 = 0 then ((own_b0 q).toInt % 256).toNat else 0) ||| (if 2 = 1 then ((own_bk q (8 : Int32)).toInt % 256).toNat else 0) ||| (if 2 = 2 then ((own_bk q (16 : Int32)).toInt % 256).toNat else 0) ||| (if 2 = 3 then ((own_bk q (24 : Int32)).toInt % 256).toNat else 0) ||| (if 2 = 4 then ((own_v0 u).toInt % 256).toNat else 0) ||| (if 2 = 5 then ((own_vk u (8 : Int32)).toInt % 256).toNat else 0) ||| (if 2 = 6 then ((own_vk u (16 : Int32)).toInt % 256).toNat else 0) ||| (if 2 = 7 then ((own_vk u (24 : Int32)).toInt % 256).toNat else 0) = own_byte q 2 &&& own_byte (4294967295 : Int64) 2 ||| own_byte (shlL (u.toInt64 &&& (4294967295 : Int64)) (32 : Int32)) 2
    rw [hm, hs]
    simp only [show (2 = 2) = True from by simp, if_true, if_false, Nat.or_zero, Nat.zero_or, Nat.and_zero, hb _ hq, reduceIte, Nat.reduceEqDiff]
    omega
  · have hm : own_byte (4294967295 : Int64) 3 = 255 := by decide
    have hq := own_by_lt q 3
    have hs : own_byte (shlL (u.toInt64 &&& (4294967295 : Int64)) (32 : Int32)) 3 = 0 := by
      unfold own_byte; rw [hS]; simp only [show 2 ^ (8 * 3) = 16777216 from rfl]; omega
    have hB := own_bk_eq3 q
    show (if 3 = 0 then ((own_b0 q).toInt % 256).toNat else 0) ||| (if 3 = 1 then ((own_bk q (8 : Int32)).toInt % 256).toNat else 0) ||| (if 3 = 2 then ((own_bk q (16 : Int32)).toInt % 256).toNat else 0) ||| (if 3 = 3 then ((own_bk q (24 : Int32)).toInt % 256).toNat else 0) ||| (if 3 = 4 then ((own_v0 u).toInt % 256).toNat else 0) ||| (if 3 = 5 then ((own_vk u (8 : Int32)).toInt % 256).toNat else 0) ||| (if 3 = 6 then ((own_vk u (16 : Int32)).toInt % 256).toNat else 0) ||| (if 3 = 7 then ((own_vk u (24 : Int32)).toInt % 256).toNat else 0) = own_byte q 3 &&& own_byte (4294967295 : Int64) 3 ||| own_byte (shlL (u.toInt64 &&& (4294967295 : Int64)) (32 : Int32)) 3
    rw [hm, hs]
    simp only [show (3 = 3) = True from by simp, if_true, if_false, Nat.or_zero, Nat.zero_or, Nat.and_zero, hb _ hq, reduceIte, Nat.reduceEqDiff]
    omega
  · have hm : own_byte (4294967295 : Int64) 4 = 0 := by decide
    have hq := own_by_lt q 4
    have hs : own_byte (shlL (u.toInt64 &&& (4294967295 : Int64)) (32 : Int32)) 4 = ((u.toInt % 4294967296) / 1 % 256).toNat := by
      unfold own_byte; rw [hS]; simp only [show 2 ^ (8 * 4) = 4294967296 from rfl]; omega
    have hB := own_bk_eq4 q
    show (if 4 = 0 then ((own_b0 q).toInt % 256).toNat else 0) ||| (if 4 = 1 then ((own_bk q (8 : Int32)).toInt % 256).toNat else 0) ||| (if 4 = 2 then ((own_bk q (16 : Int32)).toInt % 256).toNat else 0) ||| (if 4 = 3 then ((own_bk q (24 : Int32)).toInt % 256).toNat else 0) ||| (if 4 = 4 then ((own_v0 u).toInt % 256).toNat else 0) ||| (if 4 = 5 then ((own_vk u (8 : Int32)).toInt % 256).toNat else 0) ||| (if 4 = 6 then ((own_vk u (16 : Int32)).toInt % 256).toNat else 0) ||| (if 4 = 7 then ((own_vk u (24 : Int32)).toInt % 256).toNat else 0) = own_byte q 4 &&& own_byte (4294967295 : Int64) 4 ||| own_byte (shlL (u.toInt64 &&& (4294967295 : Int64)) (32 : Int32)) 4
    rw [hm, hs]
    simp only [show (4 = 4) = True from by simp, if_true, if_false, Nat.or_zero, Nat.zero_or, Nat.and_zero, hb _ hq, reduceIte, Nat.reduceEqDiff]
    omega
  · have hm : own_byte (4294967295 : Int64) 5 = 0 := by decide
    have hq := own_by_lt q 5
    have hs : own_byte (shlL (u.toInt64 &&& (4294967295 : Int64)) (32 : Int32)) 5 = ((u.toInt % 4294967296) / 256 % 256).toNat := by
      unfold own_byte; rw [hS]; simp only [show 2 ^ (8 * 5) = 1099511627776 from rfl]; omega
    have hB := own_bk_eq5 q
    show (if 5 = 0 then ((own_b0 q).toInt % 256).toNat else 0) ||| (if 5 = 1 then ((own_bk q (8 : Int32)).toInt % 256).toNat else 0) ||| (if 5 = 2 then ((own_bk q (16 : Int32)).toInt % 256).toNat else 0) ||| (if 5 = 3 then ((own_bk q (24 : Int32)).toInt % 256).toNat else 0) ||| (if 5 = 4 then ((own_v0 u).toInt % 256).toNat else 0) ||| (if 5 = 5 then ((own_vk u (8 : Int32)).toInt % 256).toNat else 0) ||| (if 5 = 6 then ((own_vk u (16 : Int32)).toInt % 256).toNat else 0) ||| (if 5 = 7 then ((own_vk u (24 : Int32)).toInt % 256).toNat else 0) = own_byte q 5 &&& own_byte (4294967295 : Int64) 5 ||| own_byte (shlL (u.toInt64 &&& (4294967295 : Int64)) (32 : Int32)) 5
    rw [hm, hs]
    simp only [show (5 = 5) = True from by simp, if_true, if_false, Nat.or_zero, Nat.zero_or, Nat.and_zero, hb _ hq, reduceIte, Nat.reduceEqDiff]
    omega
  · have hm : own_byte (4294967295 : Int64) 6 = 0 := by decide
    have hq := own_by_lt q 6
    have hs : own_byte (shlL (u.toInt64 &&& (4294967295 : Int64)) (32 : Int32)) 6 = ((u.toInt % 4294967296) / 65536 % 256).toNat := by
      unfold own_byte; rw [hS]; simp only [show 2 ^ (8 * 6) = 281474976710656 from rfl]; omega
    have hB := own_bk_eq6 q
    show (if 6 = 0 then ((own_b0 q).toInt % 256).toNat else 0) ||| (if 6 = 1 then ((own_bk q (8 : Int32)).toInt % 256).toNat else 0) ||| (if 6 = 2 then ((own_bk q (16 : Int32)).toInt % 256).toNat else 0) ||| (if 6 = 3 then ((own_bk q (24 : Int32)).toInt % 256).toNat else 0) ||| (if 6 = 4 then ((own_v0 u).toInt % 256).toNat else 0) ||| (if 6 = 5 then ((own_vk u (8 : Int32)).toInt % 256).toNat else 0) ||| (if 6 = 6 then ((own_vk u (16 : Int32)).toInt % 256).toNat else 0) ||| (if 6 = 7 then ((own_vk u (24 : Int32)).toInt % 256).toNat else 0) = own_byte q 6 &&& own_byte (4294967295 : Int64) 6 ||| own_byte (shlL (u.toInt64 &&& (4294967295 : Int64)) (32 : Int32)) 6
    rw [hm, hs]
    simp only [show (6 = 6) = True from by simp, if_true, if_false, Nat.or_zero, Nat.zero_or, Nat.and_zero, hb _ hq, reduceIte, Nat.reduceEqDiff]
    omega
  · have hm : own_byte (4294967295 : Int64) 7 = 0 := by decide
    have hq := own_by_lt q 7
    have hs : own_byte (shlL (u.toInt64 &&& (4294967295 : Int64)) (32 : Int32)) 7 = ((u.toInt % 4294967296) / 16777216 % 256).toNat := by
      unfold own_byte; rw [hS]; simp only [show 2 ^ (8 * 7) = 72057594037927936 from rfl]; omega
    have hB := own_bk_eq7 q
    show (if 7 = 0 then ((own_b0 q).toInt % 256).toNat else 0) ||| (if 7 = 1 then ((own_bk q (8 : Int32)).toInt % 256).toNat else 0) ||| (if 7 = 2 then ((own_bk q (16 : Int32)).toInt % 256).toNat else 0) ||| (if 7 = 3 then ((own_bk q (24 : Int32)).toInt % 256).toNat else 0) ||| (if 7 = 4 then ((own_v0 u).toInt % 256).toNat else 0) ||| (if 7 = 5 then ((own_vk u (8 : Int32)).toInt % 256).toNat else 0) ||| (if 7 = 6 then ((own_vk u (16 : Int32)).toInt % 256).toNat else 0) ||| (if 7 = 7 then ((own_vk u (24 : Int32)).toInt % 256).toNat else 0) = own_byte q 7 &&& own_byte (4294967295 : Int64) 7 ||| own_byte (shlL (u.toInt64 &&& (4294967295 : Int64)) (32 : Int32)) 7
    rw [hm, hs]
    simp only [show (7 = 7) = True from by simp, if_true, if_false, Nat.or_zero, Nat.zero_or, Nat.and_zero, hb _ hq, reduceIte, Nat.reduceEqDiff]
    omega
  · exfalso; omega
theorem own_at (k : Int32) : (k &&& 2147483647) % 5 = 0 ∨ (k &&& 2147483647) % 5 = 1 ∨ (k &&& 2147483647) % 5 = 2 ∨ (k &&& 2147483647) % 5 = 3 ∨ (k &&& 2147483647) % 5 = 4 := by
  have h1 := c_mask k 2147483647 31 (by decide) (by decide)
  have h2 := (c_irem (k &&& 2147483647) 5 5 rfl).1 (by omega)
  have k0 : (0 : Int32).toInt = 0 := rfl
  have k1 : (1 : Int32).toInt = 1 := rfl
  have k2 : (2 : Int32).toInt = 2 := rfl
  have k3 : (3 : Int32).toInt = 3 := rfl
  have k4 : (4 : Int32).toInt = 4 := rfl
  simp only [← Int32.toInt_inj, k0, k1, k2, k3, k4]
  omega
abbrev O_Bytes (f0 : Value) (f1 : Value) (f2 : Value) : Obj := .inl ("tidestone/parquet/Bytes", [("tidestone/parquet/Bytes", "array", "[B", f0), ("tidestone/parquet/Bytes", "doubledUpTo", "I", f1), ("tidestone/parquet/Bytes", "size", "I", f2)])
theorem d1_0 : decode prog_73_method_2_code 0 = .ok (.aload_n 0, 1) := by decide +kernel
theorem d1_1 : decode prog_73_method_2_code 1 = .ok (.invokespecial 10, 3) := by decide +kernel
theorem d1_4 : decode prog_73_method_2_code 4 = .ok (.aload_n 0, 1) := by decide +kernel
theorem d1_5 : decode prog_73_method_2_code 5 = .ok (.iload_n 1, 1) := by decide +kernel
theorem d1_6 : decode prog_73_method_2_code 6 = .ok (.newarray .byte, 2) := by decide +kernel
theorem d1_8 : decode prog_73_method_2_code 8 = .ok (.putfield 15, 3) := by decide +kernel
theorem d1_11 : decode prog_73_method_2_code 11 = .ok (.aload_n 0, 1) := by decide +kernel
theorem d1_12 : decode prog_73_method_2_code 12 = .ok (.iload_n 2, 1) := by decide +kernel
theorem d1_13 : decode prog_73_method_2_code 13 = .ok (.putfield 19, 3) := by decide +kernel
theorem d1_16 : decode prog_73_method_2_code 16 = .ok (.return_, 1) := by decide +kernel
theorem pn_1 : plainFor (⟨"tidestone/parquet/Bytes", "<init>", "(II)V"⟩ : MethodName) = true := plainFor_of_name (by first | (simp [plainName, overriddenIn]; done) | decide +kernel)
set_option maxRecDepth 65536 in
set_option maxHeartbeats 40000000 in
theorem rm1 (l : Launch) (Z : State) (a0 : Array Value) (hw : ∀ d ∈ tables_1, d.before a0 Z = true) (n0 : Nat) (b : Addr)  :
    Con l (⟨"tidestone/parquet/Bytes", "<init>", "(II)V"⟩ : MethodName) prog_73_method_2_code 3 none ({ frames := 1, cells := 1, slots := 8, locals := 12 } : Room) Z n0 #[(.ref b), (.int (8 : Int32)), (.int (8 : Int32))] ([(b, O_Bytes .null (.int (0 : Int32)) (.int (0 : Int32)))]) (fun v L' => v = none ∧ ∃ ar, L' = [(b, O_Bytes (.ref ar) (.int (8 : Int32)) (.int (0 : Int32))), (ar, .inr (.byte, [(.int (0 : Int32)), (.int (0 : Int32)), (.int (0 : Int32)), (.int (0 : Int32)), (.int (0 : Int32)), (.int (0 : Int32)), (.int (0 : Int32)), (.int (0 : Int32))]))]) := by
  refine Con.of (ws := tables_1) (a0 := a0) pn_1 hw ?_
  intro p e s m below meth cde T kb w
  refine g_entry #[.val (.ref b), .val (.int (8 : Int32)), .val (.int (8 : Int32))] (by first | (simp [entryFrame, mkF, argsToLocals, Value.category]; done) | rfl) ?_
  refine g_aloadN w d1_0 rfl rfl 1 rfl ?_
  refine g_initO w d1_1 7 rfl 8 rfl 9 rfl rfl (by decide) 0 rfl (by decide) 4 rfl (fun T w => ?_)
  refine g_aloadN w d1_4 rfl rfl 5 rfl ?_
  refine g_iloadN w d1_5 rfl 6 rfl ?_
  refine g_newarr w d1_6 10 rfl 8 8 (by decide) (by decide) (by decide) [(.int (0 : Int32)), (.int (0 : Int32)), (.int (0 : Int32)), (.int (0 : Int32)), (.int (0 : Int32)), (.int (0 : Int32)), (.int (0 : Int32)), (.int (0 : Int32))] rfl (by decide) (by decide) 8 rfl (fun T b1 w => ?_)
  replace w := w.to (L' := [(b, O_Bytes .null (.int (0 : Int32)) (.int (0 : Int32))), (b1, .inr (.byte, [(.int (0 : Int32)), (.int (0 : Int32)), (.int (0 : Int32)), (.int (0 : Int32)), (.int (0 : Int32)), (.int (0 : Int32)), (.int (0 : Int32)), (.int (0 : Int32))]))]) rfl
  refine g_putf w d1_8 0 rfl 0 rfl 11 rfl Via.refl 12 (Or.inl rfl) 2 rfl (ty := (.array .byte)) (by decide) rfl rfl 11 rfl (fun T w => ?_)
  replace w := w.to (L' := [(b, O_Bytes (.ref b1) (.int (0 : Int32)) (.int (0 : Int32))), (b1, .inr (.byte, [(.int (0 : Int32)), (.int (0 : Int32)), (.int (0 : Int32)), (.int (0 : Int32)), (.int (0 : Int32)), (.int (0 : Int32)), (.int (0 : Int32)), (.int (0 : Int32))]))]) rfl
  refine g_aloadN w d1_11 rfl rfl 12 rfl ?_
  refine g_iloadN w d1_12 rfl 13 rfl ?_
  refine g_putf w d1_13 0 rfl 1 rfl 13 rfl Via.refl 14 (Or.inr ⟨rfl, rfl, rfl⟩) 2 rfl (ty := .int) (by decide) rfl rfl 16 rfl (fun T w => ?_)
  replace w := w.to (L' := [(b, O_Bytes (.ref b1) (.int (8 : Int32)) (.int (0 : Int32))), (b1, .inr (.byte, [(.int (0 : Int32)), (.int (0 : Int32)), (.int (0 : Int32)), (.int (0 : Int32)), (.int (0 : Int32)), (.int (0 : Int32)), (.int (0 : Int32)), (.int (0 : Int32))]))]) rfl
  exact g_ret w d1_16 (by decide) (by decide) ⟨rfl, b1, rfl⟩
theorem d4_0 : decode prog_73_method_18_code 0 = .ok (.iload_n 1, 1) := by decide +kernel
theorem d4_1 : decode prog_73_method_18_code 1 = .ok (.aload_n 0, 1) := by decide +kernel
theorem d4_2 : decode prog_73_method_18_code 2 = .ok (.getfield 15, 3) := by decide +kernel
theorem d4_5 : decode prog_73_method_18_code 5 = .ok (.arraylength, 1) := by decide +kernel
theorem d4_6 : decode prog_73_method_18_code 6 = .ok (.aload_n 0, 1) := by decide +kernel
theorem d4_7 : decode prog_73_method_18_code 7 = .ok (.getfield 26, 3) := by decide +kernel
theorem d4_10 : decode prog_73_method_18_code 10 = .ok (.isub, 1) := by decide +kernel
theorem d4_11 : decode prog_73_method_18_code 11 = .ok (.if_icmp .le 76, 3) := by decide +kernel
theorem d4_14 : decode prog_73_method_18_code 14 = .ok (.ldc2_w 63, 3) := by decide +kernel
theorem d4_17 : decode prog_73_method_18_code 17 = .ok (.aload_n 0, 1) := by decide +kernel
theorem d4_18 : decode prog_73_method_18_code 18 = .ok (.getfield 15, 3) := by decide +kernel
theorem d4_21 : decode prog_73_method_18_code 21 = .ok (.arraylength, 1) := by decide +kernel
theorem d4_22 : decode prog_73_method_18_code 22 = .ok (.i2l, 1) := by decide +kernel
theorem d4_23 : decode prog_73_method_18_code 23 = .ok (.lmul, 1) := by decide +kernel
theorem d4_24 : decode prog_73_method_18_code 24 = .ok (.aload_n 0, 1) := by decide +kernel
theorem d4_25 : decode prog_73_method_18_code 25 = .ok (.getfield 19, 3) := by decide +kernel
theorem d4_28 : decode prog_73_method_18_code 28 = .ok (.i2l, 1) := by decide +kernel
theorem d4_29 : decode prog_73_method_18_code 29 = .ok (.invokestatic 65, 3) := by decide +kernel
theorem d4_32 : decode prog_73_method_18_code 32 = .ok (.aload_n 0, 1) := by decide +kernel
theorem d4_33 : decode prog_73_method_18_code 33 = .ok (.getfield 26, 3) := by decide +kernel
theorem d4_36 : decode prog_73_method_18_code 36 = .ok (.i2l, 1) := by decide +kernel
theorem d4_37 : decode prog_73_method_18_code 37 = .ok (.iload_n 1, 1) := by decide +kernel
theorem d4_38 : decode prog_73_method_18_code 38 = .ok (.i2l, 1) := by decide +kernel
theorem d4_39 : decode prog_73_method_18_code 39 = .ok (.ladd, 1) := by decide +kernel
theorem d4_40 : decode prog_73_method_18_code 40 = .ok (.invokestatic 71, 3) := by decide +kernel
theorem d4_43 : decode prog_73_method_18_code 43 = .ok (.lstore_n 2, 1) := by decide +kernel
theorem d4_44 : decode prog_73_method_18_code 44 = .ok (.aload_n 0, 1) := by decide +kernel
theorem d4_45 : decode prog_73_method_18_code 45 = .ok (.aload_n 0, 1) := by decide +kernel
theorem d4_46 : decode prog_73_method_18_code 46 = .ok (.getfield 15, 3) := by decide +kernel
theorem d4_49 : decode prog_73_method_18_code 49 = .ok (.ldc2_w 74, 3) := by decide +kernel
theorem d4_52 : decode prog_73_method_18_code 52 = .ok (.lload_n 2, 1) := by decide +kernel
theorem d4_53 : decode prog_73_method_18_code 53 = .ok (.invokestatic 65, 3) := by decide +kernel
theorem d4_56 : decode prog_73_method_18_code 56 = .ok (.l2i, 1) := by decide +kernel
theorem d4_57 : decode prog_73_method_18_code 57 = .ok (.invokestatic 31, 3) := by decide +kernel
theorem d4_60 : decode prog_73_method_18_code 60 = .ok (.putfield 15, 3) := by decide +kernel
theorem d4_63 : decode prog_73_method_18_code 63 = .ok (.iload_n 1, 1) := by decide +kernel
theorem d4_64 : decode prog_73_method_18_code 64 = .ok (.aload_n 0, 1) := by decide +kernel
theorem d4_65 : decode prog_73_method_18_code 65 = .ok (.getfield 15, 3) := by decide +kernel
theorem d4_68 : decode prog_73_method_18_code 68 = .ok (.arraylength, 1) := by decide +kernel
theorem d4_69 : decode prog_73_method_18_code 69 = .ok (.aload_n 0, 1) := by decide +kernel
theorem d4_70 : decode prog_73_method_18_code 70 = .ok (.getfield 26, 3) := by decide +kernel
theorem d4_73 : decode prog_73_method_18_code 73 = .ok (.isub, 1) := by decide +kernel
theorem d4_74 : decode prog_73_method_18_code 74 = .ok (.if_icmp .le 13, 3) := by decide +kernel
theorem d4_77 : decode prog_73_method_18_code 77 = .ok (.new 76, 3) := by decide +kernel
theorem d4_80 : decode prog_73_method_18_code 80 = .ok (.dup, 1) := by decide +kernel
theorem d4_81 : decode prog_73_method_18_code 81 = .ok (.ldc 78, 2) := by decide +kernel
theorem d4_83 : decode prog_73_method_18_code 83 = .ok (.invokespecial 80, 3) := by decide +kernel
theorem d4_86 : decode prog_73_method_18_code 86 = .ok (.athrow, 1) := by decide +kernel
theorem d4_87 : decode prog_73_method_18_code 87 = .ok (.return_, 1) := by decide +kernel
theorem pn_4 : plainFor (⟨"tidestone/parquet/Bytes", "ensure", "(I)V"⟩ : MethodName) = true := plainFor_of_name (by first | (simp [plainName, overriddenIn]; done) | decide +kernel)
set_option maxRecDepth 65536 in
set_option maxHeartbeats 40000000 in
theorem rm4 (l : Launch) (Z : State) (a0 : Array Value) (hw : ∀ d ∈ tables_1, d.before a0 Z = true) (n0 : Nat) (b ar : Addr)  :
    Con l (⟨"tidestone/parquet/Bytes", "ensure", "(I)V"⟩ : MethodName) prog_73_method_18_code 4 none ({ frames := 0, cells := 0, slots := 0, locals := 0 } : Room) Z n0 #[(.ref b), (.int (8 : Int32))] ([(b, O_Bytes (.ref ar) (.int (8 : Int32)) (.int (0 : Int32))), (ar, .inr (.byte, [(.int (0 : Int32)), (.int (0 : Int32)), (.int (0 : Int32)), (.int (0 : Int32)), (.int (0 : Int32)), (.int (0 : Int32)), (.int (0 : Int32)), (.int (0 : Int32))]))]) (fun v L' => v = none ∧ L' = [(b, O_Bytes (.ref ar) (.int (8 : Int32)) (.int (0 : Int32))), (ar, .inr (.byte, [(.int (0 : Int32)), (.int (0 : Int32)), (.int (0 : Int32)), (.int (0 : Int32)), (.int (0 : Int32)), (.int (0 : Int32)), (.int (0 : Int32)), (.int (0 : Int32))]))]) := by
  refine Con.of (ws := tables_1) (a0 := a0) pn_4 hw ?_
  intro p e s m below meth cde T kb w
  refine g_entry #[.val (.ref b), .val (.int (8 : Int32)), .unset, .unset] (by first | (simp [entryFrame, mkF, argsToLocals, Value.category]; done) | rfl) ?_
  refine g_iloadN w d4_0 rfl 1 rfl ?_
  refine g_aloadN w d4_1 rfl rfl 2 rfl ?_
  refine g_getf w d4_2 0 rfl 0 rfl 11 rfl Via.refl 5 rfl (fun T w => ?_)
  refine g_alen w d4_5 1 rfl (8 : Int32) rfl 6 rfl ?_
  refine g_aloadN w d4_6 rfl rfl 7 rfl ?_
  refine g_getf w d4_7 0 rfl 2 rfl 24 rfl Via.refl 10 rfl (fun T w => ?_)
  refine g_isub w d4_10 11 rfl ?_
  refine g_int (x' := (8 : Int32)) (by decide) ?_
  refine g_icmp_le w d4_11 87 (by decide) (by decide) 14 rfl (fun hc11 => ?_) (fun h => absurd h (by decide))
  exact g_ret w d4_87 (by decide) (by decide) ⟨rfl, rfl⟩
theorem pd_0 : parseMethodDescriptor "(I)V" = some ⟨[.int], none⟩ := by decide +kernel
theorem d3_0 : decode prog_73_method_14_code 0 = .ok (.aload_n 0, 1) := by decide +kernel
theorem d3_1 : decode prog_73_method_14_code 1 = .ok (.bipush 8, 2) := by decide +kernel
theorem d3_3 : decode prog_73_method_14_code 3 = .ok (.invokevirtual 37, 3) := by decide +kernel
theorem d3_6 : decode prog_73_method_14_code 6 = .ok (.aload_n 0, 1) := by decide +kernel
theorem d3_7 : decode prog_73_method_14_code 7 = .ok (.getfield 15, 3) := by decide +kernel
theorem d3_10 : decode prog_73_method_14_code 10 = .ok (.astore_n 3, 1) := by decide +kernel
theorem d3_11 : decode prog_73_method_14_code 11 = .ok (.aload_n 0, 1) := by decide +kernel
theorem d3_12 : decode prog_73_method_14_code 12 = .ok (.getfield 26, 3) := by decide +kernel
theorem d3_15 : decode prog_73_method_14_code 15 = .ok (.istore 4, 2) := by decide +kernel
theorem d3_17 : decode prog_73_method_14_code 17 = .ok (.aload_n 3, 1) := by decide +kernel
theorem d3_18 : decode prog_73_method_14_code 18 = .ok (.iload 4, 2) := by decide +kernel
theorem d3_20 : decode prog_73_method_14_code 20 = .ok (.lload_n 1, 1) := by decide +kernel
theorem d3_21 : decode prog_73_method_14_code 21 = .ok (.l2i, 1) := by decide +kernel
theorem d3_22 : decode prog_73_method_14_code 22 = .ok (.i2b, 1) := by decide +kernel
theorem d3_23 : decode prog_73_method_14_code 23 = .ok (.bastore, 1) := by decide +kernel
theorem d3_24 : decode prog_73_method_14_code 24 = .ok (.aload_n 3, 1) := by decide +kernel
theorem d3_25 : decode prog_73_method_14_code 25 = .ok (.iload 4, 2) := by decide +kernel
theorem d3_27 : decode prog_73_method_14_code 27 = .ok (.iconst 1, 1) := by decide +kernel
theorem d3_28 : decode prog_73_method_14_code 28 = .ok (.iadd, 1) := by decide +kernel
theorem d3_29 : decode prog_73_method_14_code 29 = .ok (.lload_n 1, 1) := by decide +kernel
theorem d3_30 : decode prog_73_method_14_code 30 = .ok (.bipush 8, 2) := by decide +kernel
theorem d3_32 : decode prog_73_method_14_code 32 = .ok (.lushr, 1) := by decide +kernel
theorem d3_33 : decode prog_73_method_14_code 33 = .ok (.l2i, 1) := by decide +kernel
theorem d3_34 : decode prog_73_method_14_code 34 = .ok (.i2b, 1) := by decide +kernel
theorem d3_35 : decode prog_73_method_14_code 35 = .ok (.bastore, 1) := by decide +kernel
theorem d3_36 : decode prog_73_method_14_code 36 = .ok (.aload_n 3, 1) := by decide +kernel
theorem d3_37 : decode prog_73_method_14_code 37 = .ok (.iload 4, 2) := by decide +kernel
theorem d3_39 : decode prog_73_method_14_code 39 = .ok (.iconst 2, 1) := by decide +kernel
theorem d3_40 : decode prog_73_method_14_code 40 = .ok (.iadd, 1) := by decide +kernel
theorem d3_41 : decode prog_73_method_14_code 41 = .ok (.lload_n 1, 1) := by decide +kernel
theorem d3_42 : decode prog_73_method_14_code 42 = .ok (.bipush 16, 2) := by decide +kernel
theorem d3_44 : decode prog_73_method_14_code 44 = .ok (.lushr, 1) := by decide +kernel
theorem d3_45 : decode prog_73_method_14_code 45 = .ok (.l2i, 1) := by decide +kernel
theorem d3_46 : decode prog_73_method_14_code 46 = .ok (.i2b, 1) := by decide +kernel
theorem d3_47 : decode prog_73_method_14_code 47 = .ok (.bastore, 1) := by decide +kernel
theorem d3_48 : decode prog_73_method_14_code 48 = .ok (.aload_n 3, 1) := by decide +kernel
theorem d3_49 : decode prog_73_method_14_code 49 = .ok (.iload 4, 2) := by decide +kernel
theorem d3_51 : decode prog_73_method_14_code 51 = .ok (.iconst 3, 1) := by decide +kernel
theorem d3_52 : decode prog_73_method_14_code 52 = .ok (.iadd, 1) := by decide +kernel
theorem d3_53 : decode prog_73_method_14_code 53 = .ok (.lload_n 1, 1) := by decide +kernel
theorem d3_54 : decode prog_73_method_14_code 54 = .ok (.bipush 24, 2) := by decide +kernel
theorem d3_56 : decode prog_73_method_14_code 56 = .ok (.lushr, 1) := by decide +kernel
theorem d3_57 : decode prog_73_method_14_code 57 = .ok (.l2i, 1) := by decide +kernel
theorem d3_58 : decode prog_73_method_14_code 58 = .ok (.i2b, 1) := by decide +kernel
theorem d3_59 : decode prog_73_method_14_code 59 = .ok (.bastore, 1) := by decide +kernel
theorem d3_60 : decode prog_73_method_14_code 60 = .ok (.aload_n 3, 1) := by decide +kernel
theorem d3_61 : decode prog_73_method_14_code 61 = .ok (.iload 4, 2) := by decide +kernel
theorem d3_63 : decode prog_73_method_14_code 63 = .ok (.iconst 4, 1) := by decide +kernel
theorem d3_64 : decode prog_73_method_14_code 64 = .ok (.iadd, 1) := by decide +kernel
theorem d3_65 : decode prog_73_method_14_code 65 = .ok (.lload_n 1, 1) := by decide +kernel
theorem d3_66 : decode prog_73_method_14_code 66 = .ok (.bipush 32, 2) := by decide +kernel
theorem d3_68 : decode prog_73_method_14_code 68 = .ok (.lushr, 1) := by decide +kernel
theorem d3_69 : decode prog_73_method_14_code 69 = .ok (.l2i, 1) := by decide +kernel
theorem d3_70 : decode prog_73_method_14_code 70 = .ok (.i2b, 1) := by decide +kernel
theorem d3_71 : decode prog_73_method_14_code 71 = .ok (.bastore, 1) := by decide +kernel
theorem d3_72 : decode prog_73_method_14_code 72 = .ok (.aload_n 3, 1) := by decide +kernel
theorem d3_73 : decode prog_73_method_14_code 73 = .ok (.iload 4, 2) := by decide +kernel
theorem d3_75 : decode prog_73_method_14_code 75 = .ok (.iconst 5, 1) := by decide +kernel
theorem d3_76 : decode prog_73_method_14_code 76 = .ok (.iadd, 1) := by decide +kernel
theorem d3_77 : decode prog_73_method_14_code 77 = .ok (.lload_n 1, 1) := by decide +kernel
theorem d3_78 : decode prog_73_method_14_code 78 = .ok (.bipush 40, 2) := by decide +kernel
theorem d3_80 : decode prog_73_method_14_code 80 = .ok (.lushr, 1) := by decide +kernel
theorem d3_81 : decode prog_73_method_14_code 81 = .ok (.l2i, 1) := by decide +kernel
theorem d3_82 : decode prog_73_method_14_code 82 = .ok (.i2b, 1) := by decide +kernel
theorem d3_83 : decode prog_73_method_14_code 83 = .ok (.bastore, 1) := by decide +kernel
theorem d3_84 : decode prog_73_method_14_code 84 = .ok (.aload_n 3, 1) := by decide +kernel
theorem d3_85 : decode prog_73_method_14_code 85 = .ok (.iload 4, 2) := by decide +kernel
theorem d3_87 : decode prog_73_method_14_code 87 = .ok (.bipush 6, 2) := by decide +kernel
theorem d3_89 : decode prog_73_method_14_code 89 = .ok (.iadd, 1) := by decide +kernel
theorem d3_90 : decode prog_73_method_14_code 90 = .ok (.lload_n 1, 1) := by decide +kernel
theorem d3_91 : decode prog_73_method_14_code 91 = .ok (.bipush 48, 2) := by decide +kernel
theorem d3_93 : decode prog_73_method_14_code 93 = .ok (.lushr, 1) := by decide +kernel
theorem d3_94 : decode prog_73_method_14_code 94 = .ok (.l2i, 1) := by decide +kernel
theorem d3_95 : decode prog_73_method_14_code 95 = .ok (.i2b, 1) := by decide +kernel
theorem d3_96 : decode prog_73_method_14_code 96 = .ok (.bastore, 1) := by decide +kernel
theorem d3_97 : decode prog_73_method_14_code 97 = .ok (.aload_n 3, 1) := by decide +kernel
theorem d3_98 : decode prog_73_method_14_code 98 = .ok (.iload 4, 2) := by decide +kernel
theorem d3_100 : decode prog_73_method_14_code 100 = .ok (.bipush 7, 2) := by decide +kernel
theorem d3_102 : decode prog_73_method_14_code 102 = .ok (.iadd, 1) := by decide +kernel
theorem d3_103 : decode prog_73_method_14_code 103 = .ok (.lload_n 1, 1) := by decide +kernel
theorem d3_104 : decode prog_73_method_14_code 104 = .ok (.bipush 56, 2) := by decide +kernel
theorem d3_106 : decode prog_73_method_14_code 106 = .ok (.lushr, 1) := by decide +kernel
theorem d3_107 : decode prog_73_method_14_code 107 = .ok (.l2i, 1) := by decide +kernel
theorem d3_108 : decode prog_73_method_14_code 108 = .ok (.i2b, 1) := by decide +kernel
theorem d3_109 : decode prog_73_method_14_code 109 = .ok (.bastore, 1) := by decide +kernel
theorem d3_110 : decode prog_73_method_14_code 110 = .ok (.aload_n 0, 1) := by decide +kernel
theorem d3_111 : decode prog_73_method_14_code 111 = .ok (.iload 4, 2) := by decide +kernel
theorem d3_113 : decode prog_73_method_14_code 113 = .ok (.bipush 8, 2) := by decide +kernel
theorem d3_115 : decode prog_73_method_14_code 115 = .ok (.iadd, 1) := by decide +kernel
theorem d3_116 : decode prog_73_method_14_code 116 = .ok (.putfield 26, 3) := by decide +kernel
theorem d3_119 : decode prog_73_method_14_code 119 = .ok (.return_, 1) := by decide +kernel
theorem pn_3 : plainFor (⟨"tidestone/parquet/Bytes", "writeLongLe", "(J)V"⟩ : MethodName) = true := plainFor_of_name (by first | (simp [plainName, overriddenIn]; done) | decide +kernel)
set_option maxRecDepth 65536 in
set_option maxHeartbeats 40000000 in
theorem rm3 (l : Launch) (Z : State) (a0 : Array Value) (hw : ∀ d ∈ tables_1, d.before a0 Z = true) (n0 : Nat) (b ar : Addr) (q : Int64)  :
    Con l (⟨"tidestone/parquet/Bytes", "writeLongLe", "(J)V"⟩ : MethodName) prog_73_method_14_code 5 none ({ frames := 1, cells := 0, slots := 0, locals := 15 } : Room) Z n0 #[(.ref b), (.long q)] ([(b, O_Bytes (.ref ar) (.int (8 : Int32)) (.int (0 : Int32))), (ar, .inr (.byte, [(.int (0 : Int32)), (.int (0 : Int32)), (.int (0 : Int32)), (.int (0 : Int32)), (.int (0 : Int32)), (.int (0 : Int32)), (.int (0 : Int32)), (.int (0 : Int32))]))]) (fun v L' => v = none ∧ L' = [(b, O_Bytes (.ref ar) (.int (8 : Int32)) (.int (8 : Int32))), (ar, .inr (.byte, [(.int (own_b0 q)), (.int (own_bk q (8 : Int32))), (.int (own_bk q (16 : Int32))), (.int (own_bk q (24 : Int32))), (.int (own_bk q (32 : Int32))), (.int (own_bk q (40 : Int32))), (.int (own_bk q (48 : Int32))), (.int (own_bk q (56 : Int32)))]))]) := by
  refine Con.of (ws := tables_1) (a0 := a0) pn_3 hw ?_
  intro p e s m below meth cde T kb w
  refine g_entry #[.val (.ref b), .val (.long q), .second, .unset, .unset] (by first | (simp [entryFrame, mkF, argsToLocals, Value.category]; done) | rfl) ?_
  refine g_aloadN w d3_0 rfl rfl 1 rfl ?_
  refine g_bipush w d3_1 (8 : Int32) rfl 3 rfl ?_
  refine g_priv w (argsL := [(.int (8 : Int32))]) (rest := []) (rm4 l Z a0 hw n0 b ar) d3_3 0 rfl 20 rfl 21 rfl 3 rfl 23 rfl 22 rfl 2 rfl ⟨by decide, by decide⟩ pd_0 rfl rfl rfl 0 rfl (by decide) (by decide) (by decide) (by decide) 6 rfl (fun T v L w h => ?_)
  obtain ⟨rfl, hL⟩ := h
  replace w := w.to hL
  refine g_aloadN w d3_6 rfl rfl 7 rfl ?_
  refine g_getf w d3_7 0 rfl 0 rfl 11 rfl Via.refl 10 rfl (fun T w => ?_)
  refine g_astoreN w d3_10 11 rfl rfl #[.val (.ref b), .val (.long q), .second, .val (.ref ar), .unset] rfl ?_
  refine g_aloadN w d3_11 rfl rfl 12 rfl ?_
  refine g_getf w d3_12 0 rfl 2 rfl 24 rfl Via.refl 15 rfl (fun T w => ?_)
  refine g_istore w d3_15 17 rfl rfl #[.val (.ref b), .val (.long q), .second, .val (.ref ar), .val (.int (0 : Int32))] rfl ?_
  refine g_aloadN w d3_17 rfl rfl 18 rfl ?_
  refine g_iload w d3_18 rfl 20 rfl ?_
  refine g_lloadN w d3_20 rfl 21 rfl ?_
  refine g_l2i w d3_21 22 rfl ?_
  refine g_i2b w d3_22 23 rfl ?_
  refine g_bastore w d3_23 1 rfl 0 (by decide) (Nat.le_of_ble_eq_true rfl) (.int (own_b0 q)) rfl 24 rfl (fun T w => ?_)
  replace w := w.to (L' := [(b, O_Bytes (.ref ar) (.int (8 : Int32)) (.int (0 : Int32))), (ar, .inr (.byte, [(.int (own_b0 q)), (.int (0 : Int32)), (.int (0 : Int32)), (.int (0 : Int32)), (.int (0 : Int32)), (.int (0 : Int32)), (.int (0 : Int32)), (.int (0 : Int32))]))]) rfl
  refine g_aloadN w d3_24 rfl rfl 25 rfl ?_
  refine g_iload w d3_25 rfl 27 rfl ?_
  refine g_iconst w d3_27 (1 : Int32) rfl 28 rfl ?_
  refine g_iadd w d3_28 29 rfl ?_
  refine g_int (x' := (1 : Int32)) (by decide) ?_
  refine g_lloadN w d3_29 rfl 30 rfl ?_
  refine g_bipush w d3_30 (8 : Int32) rfl 32 rfl ?_
  refine g_lushr w d3_32 33 rfl ?_
  refine g_l2i w d3_33 34 rfl ?_
  refine g_i2b w d3_34 35 rfl ?_
  refine g_bastore w d3_35 1 rfl 1 (by decide) (Nat.le_of_ble_eq_true rfl) (.int (own_bk q (8 : Int32))) rfl 36 rfl (fun T w => ?_)
  replace w := w.to (L' := [(b, O_Bytes (.ref ar) (.int (8 : Int32)) (.int (0 : Int32))), (ar, .inr (.byte, [(.int (own_b0 q)), (.int (own_bk q (8 : Int32))), (.int (0 : Int32)), (.int (0 : Int32)), (.int (0 : Int32)), (.int (0 : Int32)), (.int (0 : Int32)), (.int (0 : Int32))]))]) rfl
  refine g_aloadN w d3_36 rfl rfl 37 rfl ?_
  refine g_iload w d3_37 rfl 39 rfl ?_
  refine g_iconst w d3_39 (2 : Int32) rfl 40 rfl ?_
  refine g_iadd w d3_40 41 rfl ?_
  refine g_int (x' := (2 : Int32)) (by decide) ?_
  refine g_lloadN w d3_41 rfl 42 rfl ?_
  refine g_bipush w d3_42 (16 : Int32) rfl 44 rfl ?_
  refine g_lushr w d3_44 45 rfl ?_
  refine g_l2i w d3_45 46 rfl ?_
  refine g_i2b w d3_46 47 rfl ?_
  refine g_bastore w d3_47 1 rfl 2 (by decide) (Nat.le_of_ble_eq_true rfl) (.int (own_bk q (16 : Int32))) rfl 48 rfl (fun T w => ?_)
  replace w := w.to (L' := [(b, O_Bytes (.ref ar) (.int (8 : Int32)) (.int (0 : Int32))), (ar, .inr (.byte, [(.int (own_b0 q)), (.int (own_bk q (8 : Int32))), (.int (own_bk q (16 : Int32))), (.int (0 : Int32)), (.int (0 : Int32)), (.int (0 : Int32)), (.int (0 : Int32)), (.int (0 : Int32))]))]) rfl
  refine g_aloadN w d3_48 rfl rfl 49 rfl ?_
  refine g_iload w d3_49 rfl 51 rfl ?_
  refine g_iconst w d3_51 (3 : Int32) rfl 52 rfl ?_
  refine g_iadd w d3_52 53 rfl ?_
  refine g_int (x' := (3 : Int32)) (by decide) ?_
  refine g_lloadN w d3_53 rfl 54 rfl ?_
  refine g_bipush w d3_54 (24 : Int32) rfl 56 rfl ?_
  refine g_lushr w d3_56 57 rfl ?_
  refine g_l2i w d3_57 58 rfl ?_
  refine g_i2b w d3_58 59 rfl ?_
  refine g_bastore w d3_59 1 rfl 3 (by decide) (Nat.le_of_ble_eq_true rfl) (.int (own_bk q (24 : Int32))) rfl 60 rfl (fun T w => ?_)
  replace w := w.to (L' := [(b, O_Bytes (.ref ar) (.int (8 : Int32)) (.int (0 : Int32))), (ar, .inr (.byte, [(.int (own_b0 q)), (.int (own_bk q (8 : Int32))), (.int (own_bk q (16 : Int32))), (.int (own_bk q (24 : Int32))), (.int (0 : Int32)), (.int (0 : Int32)), (.int (0 : Int32)), (.int (0 : Int32))]))]) rfl
  refine g_aloadN w d3_60 rfl rfl 61 rfl ?_
  refine g_iload w d3_61 rfl 63 rfl ?_
  refine g_iconst w d3_63 (4 : Int32) rfl 64 rfl ?_
  refine g_iadd w d3_64 65 rfl ?_
  refine g_int (x' := (4 : Int32)) (by decide) ?_
  refine g_lloadN w d3_65 rfl 66 rfl ?_
  refine g_bipush w d3_66 (32 : Int32) rfl 68 rfl ?_
  refine g_lushr w d3_68 69 rfl ?_
  refine g_l2i w d3_69 70 rfl ?_
  refine g_i2b w d3_70 71 rfl ?_
  refine g_bastore w d3_71 1 rfl 4 (by decide) (Nat.le_of_ble_eq_true rfl) (.int (own_bk q (32 : Int32))) rfl 72 rfl (fun T w => ?_)
  replace w := w.to (L' := [(b, O_Bytes (.ref ar) (.int (8 : Int32)) (.int (0 : Int32))), (ar, .inr (.byte, [(.int (own_b0 q)), (.int (own_bk q (8 : Int32))), (.int (own_bk q (16 : Int32))), (.int (own_bk q (24 : Int32))), (.int (own_bk q (32 : Int32))), (.int (0 : Int32)), (.int (0 : Int32)), (.int (0 : Int32))]))]) rfl
  refine g_aloadN w d3_72 rfl rfl 73 rfl ?_
  refine g_iload w d3_73 rfl 75 rfl ?_
  refine g_iconst w d3_75 (5 : Int32) rfl 76 rfl ?_
  refine g_iadd w d3_76 77 rfl ?_
  refine g_int (x' := (5 : Int32)) (by decide) ?_
  refine g_lloadN w d3_77 rfl 78 rfl ?_
  refine g_bipush w d3_78 (40 : Int32) rfl 80 rfl ?_
  refine g_lushr w d3_80 81 rfl ?_
  refine g_l2i w d3_81 82 rfl ?_
  refine g_i2b w d3_82 83 rfl ?_
  refine g_bastore w d3_83 1 rfl 5 (by decide) (Nat.le_of_ble_eq_true rfl) (.int (own_bk q (40 : Int32))) rfl 84 rfl (fun T w => ?_)
  replace w := w.to (L' := [(b, O_Bytes (.ref ar) (.int (8 : Int32)) (.int (0 : Int32))), (ar, .inr (.byte, [(.int (own_b0 q)), (.int (own_bk q (8 : Int32))), (.int (own_bk q (16 : Int32))), (.int (own_bk q (24 : Int32))), (.int (own_bk q (32 : Int32))), (.int (own_bk q (40 : Int32))), (.int (0 : Int32)), (.int (0 : Int32))]))]) rfl
  refine g_aloadN w d3_84 rfl rfl 85 rfl ?_
  refine g_iload w d3_85 rfl 87 rfl ?_
  refine g_bipush w d3_87 (6 : Int32) rfl 89 rfl ?_
  refine g_iadd w d3_89 90 rfl ?_
  refine g_int (x' := (6 : Int32)) (by decide) ?_
  refine g_lloadN w d3_90 rfl 91 rfl ?_
  refine g_bipush w d3_91 (48 : Int32) rfl 93 rfl ?_
  refine g_lushr w d3_93 94 rfl ?_
  refine g_l2i w d3_94 95 rfl ?_
  refine g_i2b w d3_95 96 rfl ?_
  refine g_bastore w d3_96 1 rfl 6 (by decide) (Nat.le_of_ble_eq_true rfl) (.int (own_bk q (48 : Int32))) rfl 97 rfl (fun T w => ?_)
  replace w := w.to (L' := [(b, O_Bytes (.ref ar) (.int (8 : Int32)) (.int (0 : Int32))), (ar, .inr (.byte, [(.int (own_b0 q)), (.int (own_bk q (8 : Int32))), (.int (own_bk q (16 : Int32))), (.int (own_bk q (24 : Int32))), (.int (own_bk q (32 : Int32))), (.int (own_bk q (40 : Int32))), (.int (own_bk q (48 : Int32))), (.int (0 : Int32))]))]) rfl
  refine g_aloadN w d3_97 rfl rfl 98 rfl ?_
  refine g_iload w d3_98 rfl 100 rfl ?_
  refine g_bipush w d3_100 (7 : Int32) rfl 102 rfl ?_
  refine g_iadd w d3_102 103 rfl ?_
  refine g_int (x' := (7 : Int32)) (by decide) ?_
  refine g_lloadN w d3_103 rfl 104 rfl ?_
  refine g_bipush w d3_104 (56 : Int32) rfl 106 rfl ?_
  refine g_lushr w d3_106 107 rfl ?_
  refine g_l2i w d3_107 108 rfl ?_
  refine g_i2b w d3_108 109 rfl ?_
  refine g_bastore w d3_109 1 rfl 7 (by decide) (Nat.le_of_ble_eq_true rfl) (.int (own_bk q (56 : Int32))) rfl 110 rfl (fun T w => ?_)
  replace w := w.to (L' := [(b, O_Bytes (.ref ar) (.int (8 : Int32)) (.int (0 : Int32))), (ar, .inr (.byte, [(.int (own_b0 q)), (.int (own_bk q (8 : Int32))), (.int (own_bk q (16 : Int32))), (.int (own_bk q (24 : Int32))), (.int (own_bk q (32 : Int32))), (.int (own_bk q (40 : Int32))), (.int (own_bk q (48 : Int32))), (.int (own_bk q (56 : Int32)))]))]) rfl
  refine g_aloadN w d3_110 rfl rfl 111 rfl ?_
  refine g_iload w d3_111 rfl 113 rfl ?_
  refine g_bipush w d3_113 (8 : Int32) rfl 115 rfl ?_
  refine g_iadd w d3_115 116 rfl ?_
  refine g_int (x' := (8 : Int32)) (by decide) ?_
  refine g_putf w d3_116 0 rfl 2 rfl 24 rfl Via.refl 25 (Or.inl rfl) 2 rfl (ty := .int) (by decide) rfl rfl 119 rfl (fun T w => ?_)
  replace w := w.to (L' := [(b, O_Bytes (.ref ar) (.int (8 : Int32)) (.int (8 : Int32))), (ar, .inr (.byte, [(.int (own_b0 q)), (.int (own_bk q (8 : Int32))), (.int (own_bk q (16 : Int32))), (.int (own_bk q (24 : Int32))), (.int (own_bk q (32 : Int32))), (.int (own_bk q (40 : Int32))), (.int (own_bk q (48 : Int32))), (.int (own_bk q (56 : Int32)))]))]) rfl
  exact g_ret w d3_119 (by decide) (by decide) ⟨rfl, rfl⟩
theorem d5_0 : decode prog_73_method_15_code 0 = .ok (.aload_n 0, 1) := by decide +kernel
theorem d5_1 : decode prog_73_method_15_code 1 = .ok (.getfield 15, 3) := by decide +kernel
theorem d5_4 : decode prog_73_method_15_code 4 = .ok (.astore_n 3, 1) := by decide +kernel
theorem d5_5 : decode prog_73_method_15_code 5 = .ok (.aload_n 3, 1) := by decide +kernel
theorem d5_6 : decode prog_73_method_15_code 6 = .ok (.iload_n 1, 1) := by decide +kernel
theorem d5_7 : decode prog_73_method_15_code 7 = .ok (.iload_n 2, 1) := by decide +kernel
theorem d5_8 : decode prog_73_method_15_code 8 = .ok (.i2b, 1) := by decide +kernel
theorem d5_9 : decode prog_73_method_15_code 9 = .ok (.bastore, 1) := by decide +kernel
theorem d5_10 : decode prog_73_method_15_code 10 = .ok (.aload_n 3, 1) := by decide +kernel
theorem d5_11 : decode prog_73_method_15_code 11 = .ok (.iload_n 1, 1) := by decide +kernel
theorem d5_12 : decode prog_73_method_15_code 12 = .ok (.iconst 1, 1) := by decide +kernel
theorem d5_13 : decode prog_73_method_15_code 13 = .ok (.iadd, 1) := by decide +kernel
theorem d5_14 : decode prog_73_method_15_code 14 = .ok (.iload_n 2, 1) := by decide +kernel
theorem d5_15 : decode prog_73_method_15_code 15 = .ok (.bipush 8, 2) := by decide +kernel
theorem d5_17 : decode prog_73_method_15_code 17 = .ok (.iushr, 1) := by decide +kernel
theorem d5_18 : decode prog_73_method_15_code 18 = .ok (.i2b, 1) := by decide +kernel
theorem d5_19 : decode prog_73_method_15_code 19 = .ok (.bastore, 1) := by decide +kernel
theorem d5_20 : decode prog_73_method_15_code 20 = .ok (.aload_n 3, 1) := by decide +kernel
theorem d5_21 : decode prog_73_method_15_code 21 = .ok (.iload_n 1, 1) := by decide +kernel
theorem d5_22 : decode prog_73_method_15_code 22 = .ok (.iconst 2, 1) := by decide +kernel
theorem d5_23 : decode prog_73_method_15_code 23 = .ok (.iadd, 1) := by decide +kernel
theorem d5_24 : decode prog_73_method_15_code 24 = .ok (.iload_n 2, 1) := by decide +kernel
theorem d5_25 : decode prog_73_method_15_code 25 = .ok (.bipush 16, 2) := by decide +kernel
theorem d5_27 : decode prog_73_method_15_code 27 = .ok (.iushr, 1) := by decide +kernel
theorem d5_28 : decode prog_73_method_15_code 28 = .ok (.i2b, 1) := by decide +kernel
theorem d5_29 : decode prog_73_method_15_code 29 = .ok (.bastore, 1) := by decide +kernel
theorem d5_30 : decode prog_73_method_15_code 30 = .ok (.aload_n 3, 1) := by decide +kernel
theorem d5_31 : decode prog_73_method_15_code 31 = .ok (.iload_n 1, 1) := by decide +kernel
theorem d5_32 : decode prog_73_method_15_code 32 = .ok (.iconst 3, 1) := by decide +kernel
theorem d5_33 : decode prog_73_method_15_code 33 = .ok (.iadd, 1) := by decide +kernel
theorem d5_34 : decode prog_73_method_15_code 34 = .ok (.iload_n 2, 1) := by decide +kernel
theorem d5_35 : decode prog_73_method_15_code 35 = .ok (.bipush 24, 2) := by decide +kernel
theorem d5_37 : decode prog_73_method_15_code 37 = .ok (.iushr, 1) := by decide +kernel
theorem d5_38 : decode prog_73_method_15_code 38 = .ok (.i2b, 1) := by decide +kernel
theorem d5_39 : decode prog_73_method_15_code 39 = .ok (.bastore, 1) := by decide +kernel
theorem d5_40 : decode prog_73_method_15_code 40 = .ok (.return_, 1) := by decide +kernel
theorem pn_5 : plainFor (⟨"tidestone/parquet/Bytes", "setIntLe", "(II)V"⟩ : MethodName) = true := plainFor_of_name (by first | (simp [plainName, overriddenIn]; done) | decide +kernel)
set_option maxRecDepth 65536 in
set_option maxHeartbeats 40000000 in
theorem rm5 (l : Launch) (Z : State) (a0 : Array Value) (hw : ∀ d ∈ tables_1, d.before a0 Z = true) (n0 : Nat) (b ar : Addr) (at' u : Int32) (vs : List Value) (jn : Nat) (hj : at'.toInt = (jn : Int)) (hle : jn ≤ 4) (hlen : vs.length = 8) :
    Con l (⟨"tidestone/parquet/Bytes", "setIntLe", "(II)V"⟩ : MethodName) prog_73_method_15_code 4 none ({ frames := 0, cells := 0, slots := 0, locals := 0 } : Room) Z n0 #[(.ref b), (.int at'), (.int u)] ([(b, O_Bytes (.ref ar) (.int (8 : Int32)) (.int (8 : Int32))), (ar, .inr (.byte, vs))]) (fun v L' => v = none ∧ L' = [(b, O_Bytes (.ref ar) (.int (8 : Int32)) (.int (8 : Int32))), (ar, .inr (.byte, (((vs.set jn (.int (own_v0 u))).set (jn + 1) (.int (own_vk u (8 : Int32)))).set (jn + 2) (.int (own_vk u (16 : Int32)))).set (jn + 3) (.int (own_vk u (24 : Int32)))))]) := by
  refine Con.of (ws := tables_1) (a0 := a0) pn_5 hw ?_
  intro p e s m below meth cde T kb w
  refine g_entry #[.val (.ref b), .val (.int at'), .val (.int u), .unset] (by first | (simp [entryFrame, mkF, argsToLocals, Value.category]; done) | rfl) ?_
  refine g_aloadN w d5_0 rfl rfl 1 rfl ?_
  refine g_getf w d5_1 0 rfl 0 rfl 11 rfl Via.refl 4 rfl (fun T w => ?_)
  refine g_astoreN w d5_4 5 rfl rfl #[.val (.ref b), .val (.int at'), .val (.int u), .val (.ref ar)] rfl ?_
  refine g_aloadN w d5_5 rfl rfl 6 rfl ?_
  refine g_iloadN w d5_6 rfl 7 rfl ?_
  refine g_iloadN w d5_7 rfl 8 rfl ?_
  refine g_i2b w d5_8 9 rfl ?_
  refine g_bastore w d5_9 1 rfl jn hj (by (try simp only [List.length_set]); omega) (.int (own_v0 u)) rfl 10 rfl (fun T w => ?_)
  replace w := w.to (L' := [(b, O_Bytes (.ref ar) (.int (8 : Int32)) (.int (8 : Int32))), (ar, .inr (.byte, vs.set jn (.int (own_v0 u))))]) rfl
  refine g_aloadN w d5_10 rfl rfl 11 rfl ?_
  refine g_iloadN w d5_11 rfl 12 rfl ?_
  refine g_iconst w d5_12 (1 : Int32) rfl 13 rfl ?_
  refine g_iadd w d5_13 14 rfl ?_
  refine g_iloadN w d5_14 rfl 15 rfl ?_
  refine g_bipush w d5_15 (8 : Int32) rfl 17 rfl ?_
  refine g_iushr w d5_17 18 rfl ?_
  refine g_i2b w d5_18 19 rfl ?_
  refine g_bastore w d5_19 1 rfl (jn + 1) (by have h1 := c_iadd at' 1; have h2 := (at' + 1).toInt_lt; have h3 := (at' + 1).le_toInt; have h4 : (1 : Int32).toInt = 1 := rfl; omega) (by (try simp only [List.length_set]); omega) (.int (own_vk u (8 : Int32))) rfl 20 rfl (fun T w => ?_)
  replace w := w.to (L' := [(b, O_Bytes (.ref ar) (.int (8 : Int32)) (.int (8 : Int32))), (ar, .inr (.byte, (vs.set jn (.int (own_v0 u))).set (jn + 1) (.int (own_vk u (8 : Int32)))))]) rfl
  refine g_aloadN w d5_20 rfl rfl 21 rfl ?_
  refine g_iloadN w d5_21 rfl 22 rfl ?_
  refine g_iconst w d5_22 (2 : Int32) rfl 23 rfl ?_
  refine g_iadd w d5_23 24 rfl ?_
  refine g_iloadN w d5_24 rfl 25 rfl ?_
  refine g_bipush w d5_25 (16 : Int32) rfl 27 rfl ?_
  refine g_iushr w d5_27 28 rfl ?_
  refine g_i2b w d5_28 29 rfl ?_
  refine g_bastore w d5_29 1 rfl (jn + 2) (by have h1 := c_iadd at' 2; have h2 := (at' + 2).toInt_lt; have h3 := (at' + 2).le_toInt; have h4 : (2 : Int32).toInt = 2 := rfl; omega) (by (try simp only [List.length_set]); omega) (.int (own_vk u (16 : Int32))) rfl 30 rfl (fun T w => ?_)
  replace w := w.to (L' := [(b, O_Bytes (.ref ar) (.int (8 : Int32)) (.int (8 : Int32))), (ar, .inr (.byte, ((vs.set jn (.int (own_v0 u))).set (jn + 1) (.int (own_vk u (8 : Int32)))).set (jn + 2) (.int (own_vk u (16 : Int32)))))]) rfl
  refine g_aloadN w d5_30 rfl rfl 31 rfl ?_
  refine g_iloadN w d5_31 rfl 32 rfl ?_
  refine g_iconst w d5_32 (3 : Int32) rfl 33 rfl ?_
  refine g_iadd w d5_33 34 rfl ?_
  refine g_iloadN w d5_34 rfl 35 rfl ?_
  refine g_bipush w d5_35 (24 : Int32) rfl 37 rfl ?_
  refine g_iushr w d5_37 38 rfl ?_
  refine g_i2b w d5_38 39 rfl ?_
  refine g_bastore w d5_39 1 rfl (jn + 3) (by have h1 := c_iadd at' 3; have h2 := (at' + 3).toInt_lt; have h3 := (at' + 3).le_toInt; have h4 : (3 : Int32).toInt = 3 := rfl; omega) (by (try simp only [List.length_set]); omega) (.int (own_vk u (24 : Int32))) rfl 40 rfl (fun T w => ?_)
  replace w := w.to (L' := [(b, O_Bytes (.ref ar) (.int (8 : Int32)) (.int (8 : Int32))), (ar, .inr (.byte, (((vs.set jn (.int (own_v0 u))).set (jn + 1) (.int (own_vk u (8 : Int32)))).set (jn + 2) (.int (own_vk u (16 : Int32)))).set (jn + 3) (.int (own_vk u (24 : Int32)))))]) rfl
  exact g_ret w d5_40 (by decide) (by decide) ⟨rfl, rfl⟩
theorem d6_0 : decode prog_73_method_4_code 0 = .ok (.aload_n 0, 1) := by decide +kernel
theorem d6_1 : decode prog_73_method_4_code 1 = .ok (.getfield 26, 3) := by decide +kernel
theorem d6_4 : decode prog_73_method_4_code 4 = .ok (.ireturn, 1) := by decide +kernel
theorem pn_6 : plainFor (⟨"tidestone/parquet/Bytes", "size", "()I"⟩ : MethodName) = true := plainFor_of_name (by first | (simp [plainName, overriddenIn]; done) | decide +kernel)
set_option maxRecDepth 65536 in
set_option maxHeartbeats 40000000 in
theorem rm6 (l : Launch) (Z : State) (a0 : Array Value) (hw : ∀ d ∈ tables_1, d.before a0 Z = true) (n0 : Nat) (b ar : Addr) (vs : List Value)  :
    Con l (⟨"tidestone/parquet/Bytes", "size", "()I"⟩ : MethodName) prog_73_method_4_code 1 (some .int) ({ frames := 0, cells := 0, slots := 0, locals := 0 } : Room) Z n0 #[(.ref b)] ([(b, O_Bytes (.ref ar) (.int (8 : Int32)) (.int (8 : Int32))), (ar, .inr (.byte, vs))]) (fun v L' => v = some (.int 8) ∧ L' = [(b, O_Bytes (.ref ar) (.int (8 : Int32)) (.int (8 : Int32))), (ar, .inr (.byte, vs))]) := by
  refine Con.of (ws := tables_1) (a0 := a0) pn_6 hw ?_
  intro p e s m below meth cde T kb w
  refine g_entry #[.val (.ref b)] (by first | (simp [entryFrame, mkF, argsToLocals, Value.category]; done) | rfl) ?_
  refine g_aloadN w d6_0 rfl rfl 1 rfl ?_
  refine g_getf w d6_1 0 rfl 2 rfl 24 rfl Via.refl 4 rfl (fun T w => ?_)
  exact g_ireti w d6_4 (by decide) (by decide) ⟨rfl, rfl⟩
theorem d7_0 : decode prog_73_method_5_code 0 = .ok (.aload_n 0, 1) := by decide +kernel
theorem d7_1 : decode prog_73_method_5_code 1 = .ok (.getfield 15, 3) := by decide +kernel
theorem d7_4 : decode prog_73_method_5_code 4 = .ok (.areturn, 1) := by decide +kernel
theorem pn_7 : plainFor (⟨"tidestone/parquet/Bytes", "array", "()[B"⟩ : MethodName) = true := plainFor_of_name (by first | (simp [plainName, overriddenIn]; done) | decide +kernel)
set_option maxRecDepth 65536 in
set_option maxHeartbeats 40000000 in
theorem rm7 (l : Launch) (Z : State) (a0 : Array Value) (hw : ∀ d ∈ tables_1, d.before a0 Z = true) (n0 : Nat) (b ar : Addr) (vs : List Value)  :
    Con l (⟨"tidestone/parquet/Bytes", "array", "()[B"⟩ : MethodName) prog_73_method_5_code 1 (some (.array .byte)) ({ frames := 0, cells := 0, slots := 0, locals := 0 } : Room) Z n0 #[(.ref b)] ([(b, O_Bytes (.ref ar) (.int (8 : Int32)) (.int (8 : Int32))), (ar, .inr (.byte, vs))]) (fun v L' => v = some (.ref ar) ∧ L' = [(b, O_Bytes (.ref ar) (.int (8 : Int32)) (.int (8 : Int32))), (ar, .inr (.byte, vs))]) := by
  refine Con.of (ws := tables_1) (a0 := a0) pn_7 hw ?_
  intro p e s m below meth cde T kb w
  refine g_entry #[.val (.ref b)] (by first | (simp [entryFrame, mkF, argsToLocals, Value.category]; done) | rfl) ?_
  refine g_aloadN w d7_0 rfl rfl 1 rfl ?_
  refine g_getf w d7_1 0 rfl 0 rfl 11 rfl Via.refl 4 rfl (fun T w => ?_)
  exact g_aret w d7_4 rfl rfl rfl (by decide) (by decide) ⟨rfl, rfl⟩
theorem d8_0 : decode method_2_code 0 = .ok (.aload_n 0, 1) := by decide +kernel
theorem d8_1 : decode method_2_code 1 = .ok (.iload_n 1, 1) := by decide +kernel
theorem d8_2 : decode method_2_code 2 = .ok (.baload, 1) := by decide +kernel
theorem d8_3 : decode method_2_code 3 = .ok (.sipush 255, 3) := by decide +kernel
theorem d8_6 : decode method_2_code 6 = .ok (.iand, 1) := by decide +kernel
theorem d8_7 : decode method_2_code 7 = .ok (.i2l, 1) := by decide +kernel
theorem d8_8 : decode method_2_code 8 = .ok (.bipush 8, 2) := by decide +kernel
theorem d8_10 : decode method_2_code 10 = .ok (.iload_n 1, 1) := by decide +kernel
theorem d8_11 : decode method_2_code 11 = .ok (.imul, 1) := by decide +kernel
theorem d8_12 : decode method_2_code 12 = .ok (.lshl, 1) := by decide +kernel
theorem d8_13 : decode method_2_code 13 = .ok (.lreturn, 1) := by decide +kernel
theorem pn_8 : plainFor (⟨"tidestone/parquet/BytesSetIntLePinLaw", "u", "([BI)J"⟩ : MethodName) = true := plainFor_of_name (by first | (simp [plainName, overriddenIn]; done) | decide +kernel)
set_option maxRecDepth 65536 in
set_option maxHeartbeats 40000000 in
theorem rm8 (l : Launch) (Z : State) (a0 : Array Value) (hw : ∀ d ∈ tables_1, d.before a0 Z = true) (n0 : Nat) (b ar : Addr) (z i : Int32) (vs : List Value) (jn : Nat) (hj : i.toInt = (jn : Int)) (hv : vs[jn]? = some (.int z)) :
    Con l (⟨"tidestone/parquet/BytesSetIntLePinLaw", "u", "([BI)J"⟩ : MethodName) method_2_code 2 (some .long) ({ frames := 0, cells := 0, slots := 0, locals := 0 } : Room) Z n0 #[(.ref ar), (.int i)] ([(b, O_Bytes (.ref ar) (.int (8 : Int32)) (.int (8 : Int32))), (ar, .inr (.byte, vs))]) (fun v L' => v = some (.long (own_u z i)) ∧ L' = [(b, O_Bytes (.ref ar) (.int (8 : Int32)) (.int (8 : Int32))), (ar, .inr (.byte, vs))]) := by
  refine Con.of (ws := tables_1) (a0 := a0) pn_8 hw ?_
  intro p e s m below meth cde T kb w
  refine g_entry #[.val (.ref ar), .val (.int i)] (by first | (simp [entryFrame, mkF, argsToLocals, Value.category]; done) | rfl) ?_
  refine g_aloadN w d8_0 rfl rfl 1 rfl ?_
  refine g_iloadN w d8_1 rfl 2 rfl ?_
  refine g_baload w d8_2 1 rfl jn hj hv 3 rfl ?_
  refine g_sipush w d8_3 (255 : Int32) rfl 6 rfl ?_
  refine g_iand w d8_6 7 rfl ?_
  refine g_i2l w d8_7 8 rfl ?_
  refine g_bipush w d8_8 (8 : Int32) rfl 10 rfl ?_
  refine g_iloadN w d8_10 rfl 11 rfl ?_
  refine g_imul w d8_11 12 rfl ?_
  refine g_lshl w d8_12 13 rfl ?_
  exact g_lret w d8_13 (by decide) (by decide) ⟨rfl, rfl⟩
theorem pd_1 : parseMethodDescriptor "(II)V" = some ⟨[.int, .int], none⟩ := by decide +kernel
theorem pd_2 : parseMethodDescriptor "(J)V" = some ⟨[.long], none⟩ := by decide +kernel
theorem pd_3 : parseMethodDescriptor "()I" = some ⟨[], some .int⟩ := by decide +kernel
theorem pd_4 : parseMethodDescriptor "()[B" = some ⟨[], some (.array .byte)⟩ := by decide +kernel
theorem pd_5 : parseMethodDescriptor "([BI)J" = some ⟨[(.array .byte), .int], some .long⟩ := by decide +kernel
theorem pn_0 : plainFor x = true := plainFor_of_name (by first | (simp [plainName, overriddenIn, x]; done) | decide +kernel)
set_option maxRecDepth 65536 in
set_option maxHeartbeats 40000000 in
theorem rm0 (l : Launch) (Z : State) (a0 : Array Value) (hw : ∀ d ∈ tables_1, d.before a0 Z = true) (n0 : Nat) (q : Int64) (r u : Int32)  :
    Con l x code maxLocals ret room_1 Z n0 #[(.long q), (.int r), (.int u)] ([]) (fun v _ => v = some (.int 1)) := by
  refine Con.of (ws := tables_1) (a0 := a0) pn_0 hw ?_
  intro p e s m below meth cde T kb w
  refine g_entry #[.val (.long q), .second, .val (.int r), .val (.int u), .unset, .unset, .unset, .unset, .unset, .unset, .unset, .unset, .unset] (by first | (simp [entryFrame, mkF, argsToLocals, Value.category, maxLocals]; done) | rfl) ?_
  refine g_iloadN w at_0 rfl 1 rfl ?_
  refine g_ldci w at_1 0 rfl 3 rfl ?_
  refine g_iand w at_3 4 rfl ?_
  refine g_iconst w at_4 (5 : Int32) rfl 5 rfl ?_
  refine g_irem w at_5 (by decide) 6 rfl ?_
  rcases own_at r with hn | hn | hn | hn | hn
  · -- pc 6 at = 0
    refine g_int (x' := (0 : Int32)) hn ?_
    refine g_istore w at_6 8 rfl rfl #[.val (.long q), .second, .val (.int r), .val (.int u), .val (.int (0 : Int32)), .unset, .unset, .unset, .unset, .unset, .unset, .unset, .unset] rfl ?_
    refine g_new w [("tidestone/parquet/Bytes", "array", "[B", .null), ("tidestone/parquet/Bytes", "doubledUpTo", "I", (.int (0 : Int32))), ("tidestone/parquet/Bytes", "size", "I", (.int (0 : Int32)))] at_8 1 rfl 2 rfl 3 rfl (FOk.cons (Or.inl (w.hw (k := 12) rfl)) (ty := (.array .byte)) (by decide) rfl (FOk.cons (Or.inr (w.hw (k := 14) rfl)) (ty := .int) (by decide) rfl (FOk.cons (Or.inl (w.hw (k := 25) rfl)) (ty := .int) (by decide) rfl trivial))) (by decide) (by decide) (by decide) 11 rfl (fun T b1 w => ?_)
    replace w := w.to (L' := [(b1, O_Bytes .null (.int (0 : Int32)) (.int (0 : Int32)))]) rfl
    refine g_dup w at_11 rfl 12 rfl ?_
    refine g_bipush w at_12 (8 : Int32) rfl 14 rfl ?_
    refine g_bipush w at_14 (8 : Int32) rfl 16 rfl ?_
    refine g_ctor w (argsL := [(.int (8 : Int32)), (.int (8 : Int32))]) (rest := [(.ref b1)]) (rm1 l Z a0 hw n0 b1) at_16 4 rfl 5 rfl 3 rfl 6 rfl rfl ⟨by decide, by decide⟩ pd_1 rfl rfl rfl 1 rfl (by decide) (by decide) (by decide) (by decide) 19 rfl (fun T v L w h => ?_)
    obtain ⟨rfl, ar, rfl⟩ := h
    refine g_astore w at_19 21 rfl rfl #[.val (.long q), .second, .val (.int r), .val (.int u), .val (.int (0 : Int32)), .val (.ref b1), .unset, .unset, .unset, .unset, .unset, .unset, .unset] rfl ?_
    refine g_aload w at_21 rfl rfl 23 rfl ?_
    refine g_lloadN w at_23 rfl 24 rfl ?_
    refine g_virt w (argsL := [(.long q)]) (rest := []) (rm3 l Z a0 hw n0 b1 ar q) at_24 0 rfl 15 rfl 16 rfl 3 rfl 19 rfl 18 rfl 17 rfl ⟨by decide, by decide⟩ pd_2 rfl rfl rfl 0 rfl (by decide) (by decide) (by decide) (by decide) 27 rfl (fun T v L w h => ?_)
    obtain ⟨rfl, hL⟩ := h
    replace w := w.to hL
    refine g_aload w at_27 rfl rfl 29 rfl ?_
    refine g_iload w at_29 rfl 31 rfl ?_
    refine g_iloadN w at_31 rfl 32 rfl ?_
    refine g_virt w (argsL := [(.int (0 : Int32)), (.int u)]) (rest := []) (rm5 l Z a0 hw n0 b1 ar (0 : Int32) u [(.int (own_b0 q)), (.int (own_bk q (8 : Int32))), (.int (own_bk q (16 : Int32))), (.int (own_bk q (24 : Int32))), (.int (own_bk q (32 : Int32))), (.int (own_bk q (40 : Int32))), (.int (own_bk q (48 : Int32))), (.int (own_bk q (56 : Int32)))] 0 (by decide) (by decide) rfl) at_32 0 rfl 26 rfl 27 rfl 3 rfl 30 rfl 29 rfl 28 rfl ⟨by decide, by decide⟩ pd_1 rfl rfl rfl 0 rfl (by decide) (by decide) (by decide) (by decide) 35 rfl (fun T v L w h => ?_)
    obtain ⟨rfl, hL⟩ := h
    replace w := w.to hL
    replace w := w.to (L' := [(b1, O_Bytes (.ref ar) (.int (8 : Int32)) (.int (8 : Int32))), (ar, .inr (.byte, [(.int (own_v0 u)), (.int (own_vk u (8 : Int32))), (.int (own_vk u (16 : Int32))), (.int (own_vk u (24 : Int32))), (.int (own_bk q (32 : Int32))), (.int (own_bk q (40 : Int32))), (.int (own_bk q (48 : Int32))), (.int (own_bk q (56 : Int32)))]))]) rfl
    refine g_aload w at_35 rfl rfl 37 rfl ?_
    refine g_virt w (argsL := []) (rest := []) (rm6 l Z a0 hw n0 b1 ar [(.int (own_v0 u)), (.int (own_vk u (8 : Int32))), (.int (own_vk u (16 : Int32))), (.int (own_vk u (24 : Int32))), (.int (own_bk q (32 : Int32))), (.int (own_bk q (40 : Int32))), (.int (own_bk q (48 : Int32))), (.int (own_bk q (56 : Int32)))]) at_37 0 rfl 31 rfl 32 rfl 3 rfl 35 rfl 34 rfl 33 rfl ⟨by decide, by decide⟩ pd_3 rfl rfl rfl 0 rfl (by decide) (by decide) (by decide) (by decide) 40 rfl (fun T v L w h => ?_)
    obtain ⟨rfl, hL⟩ := h
    replace w := w.to hL
    refine g_bipush w at_40 (8 : Int32) rfl 42 rfl ?_
    refine g_icmp_eq w at_42 47 (by decide) (by decide) 45 rfl (fun hc42 => ?_) (fun h => absurd (by decide) h)
    refine g_aload w at_47 rfl rfl 49 rfl ?_
    refine g_virt w (argsL := []) (rest := []) (rm7 l Z a0 hw n0 b1 ar [(.int (own_v0 u)), (.int (own_vk u (8 : Int32))), (.int (own_vk u (16 : Int32))), (.int (own_vk u (24 : Int32))), (.int (own_bk q (32 : Int32))), (.int (own_bk q (40 : Int32))), (.int (own_bk q (48 : Int32))), (.int (own_bk q (56 : Int32)))]) at_49 0 rfl 36 rfl 37 rfl 3 rfl 40 rfl 39 rfl 38 rfl ⟨by decide, by decide⟩ pd_4 rfl rfl rfl 0 rfl (by decide) (by decide) (by decide) (by decide) 52 rfl (fun T v L w h => ?_)
    obtain ⟨rfl, hL⟩ := h
    replace w := w.to hL
    refine g_astore w at_52 54 rfl rfl #[.val (.long q), .second, .val (.int r), .val (.int u), .val (.int (0 : Int32)), .val (.ref b1), .val (.ref ar), .unset, .unset, .unset, .unset, .unset, .unset] rfl ?_
    refine g_aload w at_54 rfl rfl 56 rfl ?_
    refine g_alen w at_56 1 rfl (8 : Int32) rfl 57 rfl ?_
    refine g_bipush w at_57 (8 : Int32) rfl 59 rfl ?_
    refine g_icmp_eq w at_59 64 (by decide) (by decide) 62 rfl (fun hc59 => ?_) (fun h => absurd (by decide) h)
    refine g_aload w at_64 rfl rfl 66 rfl ?_
    refine g_iconst w at_66 (0 : Int32) rfl 67 rfl ?_
    refine g_static w (argsL := [(.ref ar), (.int (0 : Int32))]) (rest := []) (rm8 l Z a0 hw n0 b1 ar (own_v0 u) (0 : Int32) [(.int (own_v0 u)), (.int (own_vk u (8 : Int32))), (.int (own_vk u (16 : Int32))), (.int (own_vk u (24 : Int32))), (.int (own_bk q (32 : Int32))), (.int (own_bk q (40 : Int32))), (.int (own_bk q (48 : Int32))), (.int (own_bk q (56 : Int32)))] 0 (by decide) rfl) at_67 41 rfl 42 rfl 43 rfl 44 rfl ⟨by decide, by decide⟩ pd_5 rfl rfl rfl 0 rfl (by decide) (by decide) (by decide) (by decide) 70 rfl (fun T v L w h => ?_)
    obtain ⟨rfl, hL⟩ := h
    replace w := w.to hL
    refine g_aload w at_70 rfl rfl 72 rfl ?_
    refine g_iconst w at_72 (1 : Int32) rfl 73 rfl ?_
    refine g_static w (argsL := [(.ref ar), (.int (1 : Int32))]) (rest := [(.long (own_u (own_v0 u) (0 : Int32)))]) (rm8 l Z a0 hw n0 b1 ar (own_vk u (8 : Int32)) (1 : Int32) [(.int (own_v0 u)), (.int (own_vk u (8 : Int32))), (.int (own_vk u (16 : Int32))), (.int (own_vk u (24 : Int32))), (.int (own_bk q (32 : Int32))), (.int (own_bk q (40 : Int32))), (.int (own_bk q (48 : Int32))), (.int (own_bk q (56 : Int32)))] 1 (by decide) rfl) at_73 41 rfl 42 rfl 43 rfl 44 rfl ⟨by decide, by decide⟩ pd_5 rfl rfl rfl 2 rfl (by decide) (by decide) (by decide) (by decide) 76 rfl (fun T v L w h => ?_)
    obtain ⟨rfl, hL⟩ := h
    replace w := w.to hL
    refine g_lor w at_76 77 rfl ?_
    refine g_aload w at_77 rfl rfl 79 rfl ?_
    refine g_iconst w at_79 (2 : Int32) rfl 80 rfl ?_
    refine g_static w (argsL := [(.ref ar), (.int (2 : Int32))]) (rest := [(.long ((own_u (own_v0 u) (0 : Int32)) ||| (own_u (own_vk u (8 : Int32)) (1 : Int32))))]) (rm8 l Z a0 hw n0 b1 ar (own_vk u (16 : Int32)) (2 : Int32) [(.int (own_v0 u)), (.int (own_vk u (8 : Int32))), (.int (own_vk u (16 : Int32))), (.int (own_vk u (24 : Int32))), (.int (own_bk q (32 : Int32))), (.int (own_bk q (40 : Int32))), (.int (own_bk q (48 : Int32))), (.int (own_bk q (56 : Int32)))] 2 (by decide) rfl) at_80 41 rfl 42 rfl 43 rfl 44 rfl ⟨by decide, by decide⟩ pd_5 rfl rfl rfl 2 rfl (by decide) (by decide) (by decide) (by decide) 83 rfl (fun T v L w h => ?_)
    obtain ⟨rfl, hL⟩ := h
    replace w := w.to hL
    refine g_lor w at_83 84 rfl ?_
    refine g_aload w at_84 rfl rfl 86 rfl ?_
    refine g_iconst w at_86 (3 : Int32) rfl 87 rfl ?_
    refine g_static w (argsL := [(.ref ar), (.int (3 : Int32))]) (rest := [(.long (((own_u (own_v0 u) (0 : Int32)) ||| (own_u (own_vk u (8 : Int32)) (1 : Int32))) ||| (own_u (own_vk u (16 : Int32)) (2 : Int32))))]) (rm8 l Z a0 hw n0 b1 ar (own_vk u (24 : Int32)) (3 : Int32) [(.int (own_v0 u)), (.int (own_vk u (8 : Int32))), (.int (own_vk u (16 : Int32))), (.int (own_vk u (24 : Int32))), (.int (own_bk q (32 : Int32))), (.int (own_bk q (40 : Int32))), (.int (own_bk q (48 : Int32))), (.int (own_bk q (56 : Int32)))] 3 (by decide) rfl) at_87 41 rfl 42 rfl 43 rfl 44 rfl ⟨by decide, by decide⟩ pd_5 rfl rfl rfl 2 rfl (by decide) (by decide) (by decide) (by decide) 90 rfl (fun T v L w h => ?_)
    obtain ⟨rfl, hL⟩ := h
    replace w := w.to hL
    refine g_lor w at_90 91 rfl ?_
    refine g_aload w at_91 rfl rfl 93 rfl ?_
    refine g_iconst w at_93 (4 : Int32) rfl 94 rfl ?_
    refine g_static w (argsL := [(.ref ar), (.int (4 : Int32))]) (rest := [(.long ((((own_u (own_v0 u) (0 : Int32)) ||| (own_u (own_vk u (8 : Int32)) (1 : Int32))) ||| (own_u (own_vk u (16 : Int32)) (2 : Int32))) ||| (own_u (own_vk u (24 : Int32)) (3 : Int32))))]) (rm8 l Z a0 hw n0 b1 ar (own_bk q (32 : Int32)) (4 : Int32) [(.int (own_v0 u)), (.int (own_vk u (8 : Int32))), (.int (own_vk u (16 : Int32))), (.int (own_vk u (24 : Int32))), (.int (own_bk q (32 : Int32))), (.int (own_bk q (40 : Int32))), (.int (own_bk q (48 : Int32))), (.int (own_bk q (56 : Int32)))] 4 (by decide) rfl) at_94 41 rfl 42 rfl 43 rfl 44 rfl ⟨by decide, by decide⟩ pd_5 rfl rfl rfl 2 rfl (by decide) (by decide) (by decide) (by decide) 97 rfl (fun T v L w h => ?_)
    obtain ⟨rfl, hL⟩ := h
    replace w := w.to hL
    refine g_lor w at_97 98 rfl ?_
    refine g_aload w at_98 rfl rfl 100 rfl ?_
    refine g_iconst w at_100 (5 : Int32) rfl 101 rfl ?_
    refine g_static w (argsL := [(.ref ar), (.int (5 : Int32))]) (rest := [(.long (((((own_u (own_v0 u) (0 : Int32)) ||| (own_u (own_vk u (8 : Int32)) (1 : Int32))) ||| (own_u (own_vk u (16 : Int32)) (2 : Int32))) ||| (own_u (own_vk u (24 : Int32)) (3 : Int32))) ||| (own_u (own_bk q (32 : Int32)) (4 : Int32))))]) (rm8 l Z a0 hw n0 b1 ar (own_bk q (40 : Int32)) (5 : Int32) [(.int (own_v0 u)), (.int (own_vk u (8 : Int32))), (.int (own_vk u (16 : Int32))), (.int (own_vk u (24 : Int32))), (.int (own_bk q (32 : Int32))), (.int (own_bk q (40 : Int32))), (.int (own_bk q (48 : Int32))), (.int (own_bk q (56 : Int32)))] 5 (by decide) rfl) at_101 41 rfl 42 rfl 43 rfl 44 rfl ⟨by decide, by decide⟩ pd_5 rfl rfl rfl 2 rfl (by decide) (by decide) (by decide) (by decide) 104 rfl (fun T v L w h => ?_)
    obtain ⟨rfl, hL⟩ := h
    replace w := w.to hL
    refine g_lor w at_104 105 rfl ?_
    refine g_aload w at_105 rfl rfl 107 rfl ?_
    refine g_bipush w at_107 (6 : Int32) rfl 109 rfl ?_
    refine g_static w (argsL := [(.ref ar), (.int (6 : Int32))]) (rest := [(.long ((((((own_u (own_v0 u) (0 : Int32)) ||| (own_u (own_vk u (8 : Int32)) (1 : Int32))) ||| (own_u (own_vk u (16 : Int32)) (2 : Int32))) ||| (own_u (own_vk u (24 : Int32)) (3 : Int32))) ||| (own_u (own_bk q (32 : Int32)) (4 : Int32))) ||| (own_u (own_bk q (40 : Int32)) (5 : Int32))))]) (rm8 l Z a0 hw n0 b1 ar (own_bk q (48 : Int32)) (6 : Int32) [(.int (own_v0 u)), (.int (own_vk u (8 : Int32))), (.int (own_vk u (16 : Int32))), (.int (own_vk u (24 : Int32))), (.int (own_bk q (32 : Int32))), (.int (own_bk q (40 : Int32))), (.int (own_bk q (48 : Int32))), (.int (own_bk q (56 : Int32)))] 6 (by decide) rfl) at_109 41 rfl 42 rfl 43 rfl 44 rfl ⟨by decide, by decide⟩ pd_5 rfl rfl rfl 2 rfl (by decide) (by decide) (by decide) (by decide) 112 rfl (fun T v L w h => ?_)
    obtain ⟨rfl, hL⟩ := h
    replace w := w.to hL
    refine g_lor w at_112 113 rfl ?_
    refine g_aload w at_113 rfl rfl 115 rfl ?_
    refine g_bipush w at_115 (7 : Int32) rfl 117 rfl ?_
    refine g_static w (argsL := [(.ref ar), (.int (7 : Int32))]) (rest := [(.long (((((((own_u (own_v0 u) (0 : Int32)) ||| (own_u (own_vk u (8 : Int32)) (1 : Int32))) ||| (own_u (own_vk u (16 : Int32)) (2 : Int32))) ||| (own_u (own_vk u (24 : Int32)) (3 : Int32))) ||| (own_u (own_bk q (32 : Int32)) (4 : Int32))) ||| (own_u (own_bk q (40 : Int32)) (5 : Int32))) ||| (own_u (own_bk q (48 : Int32)) (6 : Int32))))]) (rm8 l Z a0 hw n0 b1 ar (own_bk q (56 : Int32)) (7 : Int32) [(.int (own_v0 u)), (.int (own_vk u (8 : Int32))), (.int (own_vk u (16 : Int32))), (.int (own_vk u (24 : Int32))), (.int (own_bk q (32 : Int32))), (.int (own_bk q (40 : Int32))), (.int (own_bk q (48 : Int32))), (.int (own_bk q (56 : Int32)))] 7 (by decide) rfl) at_117 41 rfl 42 rfl 43 rfl 44 rfl ⟨by decide, by decide⟩ pd_5 rfl rfl rfl 2 rfl (by decide) (by decide) (by decide) (by decide) 120 rfl (fun T v L w h => ?_)
    obtain ⟨rfl, hL⟩ := h
    replace w := w.to hL
    refine g_lor w at_120 121 rfl ?_
    obtain ⟨got, hgot⟩ : ∃ own_z, own_z = (((((((((own_u (own_v0 u) (0 : Int32)) ||| (own_u (own_vk u (8 : Int32)) (1 : Int32))) ||| (own_u (own_vk u (16 : Int32)) (2 : Int32))) ||| (own_u (own_vk u (24 : Int32)) (3 : Int32))) ||| (own_u (own_bk q (32 : Int32)) (4 : Int32))) ||| (own_u (own_bk q (40 : Int32)) (5 : Int32))) ||| (own_u (own_bk q (48 : Int32)) (6 : Int32))) ||| (own_u (own_bk q (56 : Int32)) (7 : Int32))) : Int64) := ⟨_, rfl⟩
    refine g_lstore w at_121 123 rfl hgot.symm #[.val (.long q), .second, .val (.int r), .val (.int u), .val (.int (0 : Int32)), .val (.ref b1), .val (.ref ar), .val (.long got), .second, .unset, .unset, .unset, .unset] rfl ?_
    refine g_ldcl w at_123 45 rfl 126 rfl ?_
    refine g_bipush w at_126 (8 : Int32) rfl 128 rfl ?_
    refine g_iload w at_128 rfl 130 rfl ?_
    refine g_imul w at_130 131 rfl ?_
    refine g_int (x' := (0 : Int32)) (by decide) ?_
    refine g_lshl w at_131 132 rfl ?_
    refine g_long (x' := (4294967295 : Int64)) (by decide) ?_
    refine g_lstore w at_132 134 rfl rfl #[.val (.long q), .second, .val (.int r), .val (.int u), .val (.int (0 : Int32)), .val (.ref b1), .val (.ref ar), .val (.long got), .second, .val (.long (4294967295 : Int64)), .second, .unset, .unset] rfl ?_
    refine g_lloadN w at_134 rfl 135 rfl ?_
    refine g_lload w at_135 rfl 137 rfl ?_
    refine g_ldcl w at_137 46 rfl 140 rfl ?_
    refine g_lxor w at_140 141 rfl ?_
    refine g_long (x' := (-4294967296 : Int64)) (by decide) ?_
    refine g_land w at_141 142 rfl ?_
    refine g_iloadN w at_142 rfl 143 rfl ?_
    refine g_i2l w at_143 144 rfl ?_
    refine g_ldcl w at_144 45 rfl 147 rfl ?_
    refine g_land w at_147 148 rfl ?_
    refine g_bipush w at_148 (8 : Int32) rfl 150 rfl ?_
    refine g_iload w at_150 rfl 152 rfl ?_
    refine g_imul w at_152 153 rfl ?_
    refine g_int (x' := (0 : Int32)) (by decide) ?_
    refine g_lshl w at_153 154 rfl ?_
    refine g_lor w at_154 155 rfl ?_
    obtain ⟨ex, hex⟩ : ∃ own_z, own_z = (((q &&& (-4294967296 : Int64)) ||| (shlL ((u.toInt64) &&& (4294967295 : Int64)) (0 : Int32))) : Int64) := ⟨_, rfl⟩
    refine g_lstore w at_155 157 rfl hex.symm #[.val (.long q), .second, .val (.int r), .val (.int u), .val (.int (0 : Int32)), .val (.ref b1), .val (.ref ar), .val (.long got), .second, .val (.long (4294967295 : Int64)), .second, .val (.long ex), .second] rfl ?_
    refine g_lload w at_157 rfl 159 rfl ?_
    refine g_lload w at_159 rfl 161 rfl ?_
    refine g_lcmp w at_161 162 rfl ?_
    refine g_lif_ne w at_162 169 (by decide) (by decide) 165 rfl (fun h => absurd (by rw [hgot, hex]; exact own_law0 q u) h) (fun hc162 => ?_)
    refine g_iconst w at_165 (1 : Int32) rfl 166 rfl ?_
    refine g_goto w at_166 170 (by decide) (by decide) ?_
    exact g_iretn w (by simp) at_170 (by decide) (by decide) rfl
  · -- pc 6 at = 1
    refine g_int (x' := (1 : Int32)) hn ?_
    refine g_istore w at_6 8 rfl rfl #[.val (.long q), .second, .val (.int r), .val (.int u), .val (.int (1 : Int32)), .unset, .unset, .unset, .unset, .unset, .unset, .unset, .unset] rfl ?_
    refine g_new w [("tidestone/parquet/Bytes", "array", "[B", .null), ("tidestone/parquet/Bytes", "doubledUpTo", "I", (.int (0 : Int32))), ("tidestone/parquet/Bytes", "size", "I", (.int (0 : Int32)))] at_8 1 rfl 2 rfl 3 rfl (FOk.cons (Or.inl (w.hw (k := 12) rfl)) (ty := (.array .byte)) (by decide) rfl (FOk.cons (Or.inr (w.hw (k := 14) rfl)) (ty := .int) (by decide) rfl (FOk.cons (Or.inl (w.hw (k := 25) rfl)) (ty := .int) (by decide) rfl trivial))) (by decide) (by decide) (by decide) 11 rfl (fun T b2 w => ?_)
    replace w := w.to (L' := [(b2, O_Bytes .null (.int (0 : Int32)) (.int (0 : Int32)))]) rfl
    refine g_dup w at_11 rfl 12 rfl ?_
    refine g_bipush w at_12 (8 : Int32) rfl 14 rfl ?_
    refine g_bipush w at_14 (8 : Int32) rfl 16 rfl ?_
    refine g_ctor w (argsL := [(.int (8 : Int32)), (.int (8 : Int32))]) (rest := [(.ref b2)]) (rm1 l Z a0 hw n0 b2) at_16 4 rfl 5 rfl 3 rfl 6 rfl rfl ⟨by decide, by decide⟩ pd_1 rfl rfl rfl 1 rfl (by decide) (by decide) (by decide) (by decide) 19 rfl (fun T v L w h => ?_)
    obtain ⟨rfl, ar, rfl⟩ := h
    refine g_astore w at_19 21 rfl rfl #[.val (.long q), .second, .val (.int r), .val (.int u), .val (.int (1 : Int32)), .val (.ref b2), .unset, .unset, .unset, .unset, .unset, .unset, .unset] rfl ?_
    refine g_aload w at_21 rfl rfl 23 rfl ?_
    refine g_lloadN w at_23 rfl 24 rfl ?_
    refine g_virt w (argsL := [(.long q)]) (rest := []) (rm3 l Z a0 hw n0 b2 ar q) at_24 0 rfl 15 rfl 16 rfl 3 rfl 19 rfl 18 rfl 17 rfl ⟨by decide, by decide⟩ pd_2 rfl rfl rfl 0 rfl (by decide) (by decide) (by decide) (by decide) 27 rfl (fun T v L w h => ?_)
    obtain ⟨rfl, hL⟩ := h
    replace w := w.to hL
    refine g_aload w at_27 rfl rfl 29 rfl ?_
    refine g_iload w at_29 rfl 31 rfl ?_
    refine g_iloadN w at_31 rfl 32 rfl ?_
    refine g_virt w (argsL := [(.int (1 : Int32)), (.int u)]) (rest := []) (rm5 l Z a0 hw n0 b2 ar (1 : Int32) u [(.int (own_b0 q)), (.int (own_bk q (8 : Int32))), (.int (own_bk q (16 : Int32))), (.int (own_bk q (24 : Int32))), (.int (own_bk q (32 : Int32))), (.int (own_bk q (40 : Int32))), (.int (own_bk q (48 : Int32))), (.int (own_bk q (56 : Int32)))] 1 (by decide) (by decide) rfl) at_32 0 rfl 26 rfl 27 rfl 3 rfl 30 rfl 29 rfl 28 rfl ⟨by decide, by decide⟩ pd_1 rfl rfl rfl 0 rfl (by decide) (by decide) (by decide) (by decide) 35 rfl (fun T v L w h => ?_)
    obtain ⟨rfl, hL⟩ := h
    replace w := w.to hL
    replace w := w.to (L' := [(b2, O_Bytes (.ref ar) (.int (8 : Int32)) (.int (8 : Int32))), (ar, .inr (.byte, [(.int (own_b0 q)), (.int (own_v0 u)), (.int (own_vk u (8 : Int32))), (.int (own_vk u (16 : Int32))), (.int (own_vk u (24 : Int32))), (.int (own_bk q (40 : Int32))), (.int (own_bk q (48 : Int32))), (.int (own_bk q (56 : Int32)))]))]) rfl
    refine g_aload w at_35 rfl rfl 37 rfl ?_
    refine g_virt w (argsL := []) (rest := []) (rm6 l Z a0 hw n0 b2 ar [(.int (own_b0 q)), (.int (own_v0 u)), (.int (own_vk u (8 : Int32))), (.int (own_vk u (16 : Int32))), (.int (own_vk u (24 : Int32))), (.int (own_bk q (40 : Int32))), (.int (own_bk q (48 : Int32))), (.int (own_bk q (56 : Int32)))]) at_37 0 rfl 31 rfl 32 rfl 3 rfl 35 rfl 34 rfl 33 rfl ⟨by decide, by decide⟩ pd_3 rfl rfl rfl 0 rfl (by decide) (by decide) (by decide) (by decide) 40 rfl (fun T v L w h => ?_)
    obtain ⟨rfl, hL⟩ := h
    replace w := w.to hL
    refine g_bipush w at_40 (8 : Int32) rfl 42 rfl ?_
    refine g_icmp_eq w at_42 47 (by decide) (by decide) 45 rfl (fun hc42 => ?_) (fun h => absurd (by decide) h)
    refine g_aload w at_47 rfl rfl 49 rfl ?_
    refine g_virt w (argsL := []) (rest := []) (rm7 l Z a0 hw n0 b2 ar [(.int (own_b0 q)), (.int (own_v0 u)), (.int (own_vk u (8 : Int32))), (.int (own_vk u (16 : Int32))), (.int (own_vk u (24 : Int32))), (.int (own_bk q (40 : Int32))), (.int (own_bk q (48 : Int32))), (.int (own_bk q (56 : Int32)))]) at_49 0 rfl 36 rfl 37 rfl 3 rfl 40 rfl 39 rfl 38 rfl ⟨by decide, by decide⟩ pd_4 rfl rfl rfl 0 rfl (by decide) (by decide) (by decide) (by decide) 52 rfl (fun T v L w h => ?_)
    obtain ⟨rfl, hL⟩ := h
    replace w := w.to hL
    refine g_astore w at_52 54 rfl rfl #[.val (.long q), .second, .val (.int r), .val (.int u), .val (.int (1 : Int32)), .val (.ref b2), .val (.ref ar), .unset, .unset, .unset, .unset, .unset, .unset] rfl ?_
    refine g_aload w at_54 rfl rfl 56 rfl ?_
    refine g_alen w at_56 1 rfl (8 : Int32) rfl 57 rfl ?_
    refine g_bipush w at_57 (8 : Int32) rfl 59 rfl ?_
    refine g_icmp_eq w at_59 64 (by decide) (by decide) 62 rfl (fun hc59 => ?_) (fun h => absurd (by decide) h)
    refine g_aload w at_64 rfl rfl 66 rfl ?_
    refine g_iconst w at_66 (0 : Int32) rfl 67 rfl ?_
    refine g_static w (argsL := [(.ref ar), (.int (0 : Int32))]) (rest := []) (rm8 l Z a0 hw n0 b2 ar (own_b0 q) (0 : Int32) [(.int (own_b0 q)), (.int (own_v0 u)), (.int (own_vk u (8 : Int32))), (.int (own_vk u (16 : Int32))), (.int (own_vk u (24 : Int32))), (.int (own_bk q (40 : Int32))), (.int (own_bk q (48 : Int32))), (.int (own_bk q (56 : Int32)))] 0 (by decide) rfl) at_67 41 rfl 42 rfl 43 rfl 44 rfl ⟨by decide, by decide⟩ pd_5 rfl rfl rfl 0 rfl (by decide) (by decide) (by decide) (by decide) 70 rfl (fun T v L w h => ?_)
    obtain ⟨rfl, hL⟩ := h
    replace w := w.to hL
    refine g_aload w at_70 rfl rfl 72 rfl ?_
    refine g_iconst w at_72 (1 : Int32) rfl 73 rfl ?_
    refine g_static w (argsL := [(.ref ar), (.int (1 : Int32))]) (rest := [(.long (own_u (own_b0 q) (0 : Int32)))]) (rm8 l Z a0 hw n0 b2 ar (own_v0 u) (1 : Int32) [(.int (own_b0 q)), (.int (own_v0 u)), (.int (own_vk u (8 : Int32))), (.int (own_vk u (16 : Int32))), (.int (own_vk u (24 : Int32))), (.int (own_bk q (40 : Int32))), (.int (own_bk q (48 : Int32))), (.int (own_bk q (56 : Int32)))] 1 (by decide) rfl) at_73 41 rfl 42 rfl 43 rfl 44 rfl ⟨by decide, by decide⟩ pd_5 rfl rfl rfl 2 rfl (by decide) (by decide) (by decide) (by decide) 76 rfl (fun T v L w h => ?_)
    obtain ⟨rfl, hL⟩ := h
    replace w := w.to hL
    refine g_lor w at_76 77 rfl ?_
    refine g_aload w at_77 rfl rfl 79 rfl ?_
    refine g_iconst w at_79 (2 : Int32) rfl 80 rfl ?_
    refine g_static w (argsL := [(.ref ar), (.int (2 : Int32))]) (rest := [(.long ((own_u (own_b0 q) (0 : Int32)) ||| (own_u (own_v0 u) (1 : Int32))))]) (rm8 l Z a0 hw n0 b2 ar (own_vk u (8 : Int32)) (2 : Int32) [(.int (own_b0 q)), (.int (own_v0 u)), (.int (own_vk u (8 : Int32))), (.int (own_vk u (16 : Int32))), (.int (own_vk u (24 : Int32))), (.int (own_bk q (40 : Int32))), (.int (own_bk q (48 : Int32))), (.int (own_bk q (56 : Int32)))] 2 (by decide) rfl) at_80 41 rfl 42 rfl 43 rfl 44 rfl ⟨by decide, by decide⟩ pd_5 rfl rfl rfl 2 rfl (by decide) (by decide) (by decide) (by decide) 83 rfl (fun T v L w h => ?_)
    obtain ⟨rfl, hL⟩ := h
    replace w := w.to hL
    refine g_lor w at_83 84 rfl ?_
    refine g_aload w at_84 rfl rfl 86 rfl ?_
    refine g_iconst w at_86 (3 : Int32) rfl 87 rfl ?_
    refine g_static w (argsL := [(.ref ar), (.int (3 : Int32))]) (rest := [(.long (((own_u (own_b0 q) (0 : Int32)) ||| (own_u (own_v0 u) (1 : Int32))) ||| (own_u (own_vk u (8 : Int32)) (2 : Int32))))]) (rm8 l Z a0 hw n0 b2 ar (own_vk u (16 : Int32)) (3 : Int32) [(.int (own_b0 q)), (.int (own_v0 u)), (.int (own_vk u (8 : Int32))), (.int (own_vk u (16 : Int32))), (.int (own_vk u (24 : Int32))), (.int (own_bk q (40 : Int32))), (.int (own_bk q (48 : Int32))), (.int (own_bk q (56 : Int32)))] 3 (by decide) rfl) at_87 41 rfl 42 rfl 43 rfl 44 rfl ⟨by decide, by decide⟩ pd_5 rfl rfl rfl 2 rfl (by decide) (by decide) (by decide) (by decide) 90 rfl (fun T v L w h => ?_)
    obtain ⟨rfl, hL⟩ := h
    replace w := w.to hL
    refine g_lor w at_90 91 rfl ?_
    refine g_aload w at_91 rfl rfl 93 rfl ?_
    refine g_iconst w at_93 (4 : Int32) rfl 94 rfl ?_
    refine g_static w (argsL := [(.ref ar), (.int (4 : Int32))]) (rest := [(.long ((((own_u (own_b0 q) (0 : Int32)) ||| (own_u (own_v0 u) (1 : Int32))) ||| (own_u (own_vk u (8 : Int32)) (2 : Int32))) ||| (own_u (own_vk u (16 : Int32)) (3 : Int32))))]) (rm8 l Z a0 hw n0 b2 ar (own_vk u (24 : Int32)) (4 : Int32) [(.int (own_b0 q)), (.int (own_v0 u)), (.int (own_vk u (8 : Int32))), (.int (own_vk u (16 : Int32))), (.int (own_vk u (24 : Int32))), (.int (own_bk q (40 : Int32))), (.int (own_bk q (48 : Int32))), (.int (own_bk q (56 : Int32)))] 4 (by decide) rfl) at_94 41 rfl 42 rfl 43 rfl 44 rfl ⟨by decide, by decide⟩ pd_5 rfl rfl rfl 2 rfl (by decide) (by decide) (by decide) (by decide) 97 rfl (fun T v L w h => ?_)
    obtain ⟨rfl, hL⟩ := h
    replace w := w.to hL
    refine g_lor w at_97 98 rfl ?_
    refine g_aload w at_98 rfl rfl 100 rfl ?_
    refine g_iconst w at_100 (5 : Int32) rfl 101 rfl ?_
    refine g_static w (argsL := [(.ref ar), (.int (5 : Int32))]) (rest := [(.long (((((own_u (own_b0 q) (0 : Int32)) ||| (own_u (own_v0 u) (1 : Int32))) ||| (own_u (own_vk u (8 : Int32)) (2 : Int32))) ||| (own_u (own_vk u (16 : Int32)) (3 : Int32))) ||| (own_u (own_vk u (24 : Int32)) (4 : Int32))))]) (rm8 l Z a0 hw n0 b2 ar (own_bk q (40 : Int32)) (5 : Int32) [(.int (own_b0 q)), (.int (own_v0 u)), (.int (own_vk u (8 : Int32))), (.int (own_vk u (16 : Int32))), (.int (own_vk u (24 : Int32))), (.int (own_bk q (40 : Int32))), (.int (own_bk q (48 : Int32))), (.int (own_bk q (56 : Int32)))] 5 (by decide) rfl) at_101 41 rfl 42 rfl 43 rfl 44 rfl ⟨by decide, by decide⟩ pd_5 rfl rfl rfl 2 rfl (by decide) (by decide) (by decide) (by decide) 104 rfl (fun T v L w h => ?_)
    obtain ⟨rfl, hL⟩ := h
    replace w := w.to hL
    refine g_lor w at_104 105 rfl ?_
    refine g_aload w at_105 rfl rfl 107 rfl ?_
    refine g_bipush w at_107 (6 : Int32) rfl 109 rfl ?_
    refine g_static w (argsL := [(.ref ar), (.int (6 : Int32))]) (rest := [(.long ((((((own_u (own_b0 q) (0 : Int32)) ||| (own_u (own_v0 u) (1 : Int32))) ||| (own_u (own_vk u (8 : Int32)) (2 : Int32))) ||| (own_u (own_vk u (16 : Int32)) (3 : Int32))) ||| (own_u (own_vk u (24 : Int32)) (4 : Int32))) ||| (own_u (own_bk q (40 : Int32)) (5 : Int32))))]) (rm8 l Z a0 hw n0 b2 ar (own_bk q (48 : Int32)) (6 : Int32) [(.int (own_b0 q)), (.int (own_v0 u)), (.int (own_vk u (8 : Int32))), (.int (own_vk u (16 : Int32))), (.int (own_vk u (24 : Int32))), (.int (own_bk q (40 : Int32))), (.int (own_bk q (48 : Int32))), (.int (own_bk q (56 : Int32)))] 6 (by decide) rfl) at_109 41 rfl 42 rfl 43 rfl 44 rfl ⟨by decide, by decide⟩ pd_5 rfl rfl rfl 2 rfl (by decide) (by decide) (by decide) (by decide) 112 rfl (fun T v L w h => ?_)
    obtain ⟨rfl, hL⟩ := h
    replace w := w.to hL
    refine g_lor w at_112 113 rfl ?_
    refine g_aload w at_113 rfl rfl 115 rfl ?_
    refine g_bipush w at_115 (7 : Int32) rfl 117 rfl ?_
    refine g_static w (argsL := [(.ref ar), (.int (7 : Int32))]) (rest := [(.long (((((((own_u (own_b0 q) (0 : Int32)) ||| (own_u (own_v0 u) (1 : Int32))) ||| (own_u (own_vk u (8 : Int32)) (2 : Int32))) ||| (own_u (own_vk u (16 : Int32)) (3 : Int32))) ||| (own_u (own_vk u (24 : Int32)) (4 : Int32))) ||| (own_u (own_bk q (40 : Int32)) (5 : Int32))) ||| (own_u (own_bk q (48 : Int32)) (6 : Int32))))]) (rm8 l Z a0 hw n0 b2 ar (own_bk q (56 : Int32)) (7 : Int32) [(.int (own_b0 q)), (.int (own_v0 u)), (.int (own_vk u (8 : Int32))), (.int (own_vk u (16 : Int32))), (.int (own_vk u (24 : Int32))), (.int (own_bk q (40 : Int32))), (.int (own_bk q (48 : Int32))), (.int (own_bk q (56 : Int32)))] 7 (by decide) rfl) at_117 41 rfl 42 rfl 43 rfl 44 rfl ⟨by decide, by decide⟩ pd_5 rfl rfl rfl 2 rfl (by decide) (by decide) (by decide) (by decide) 120 rfl (fun T v L w h => ?_)
    obtain ⟨rfl, hL⟩ := h
    replace w := w.to hL
    refine g_lor w at_120 121 rfl ?_
    obtain ⟨got, hgot⟩ : ∃ own_z, own_z = (((((((((own_u (own_b0 q) (0 : Int32)) ||| (own_u (own_v0 u) (1 : Int32))) ||| (own_u (own_vk u (8 : Int32)) (2 : Int32))) ||| (own_u (own_vk u (16 : Int32)) (3 : Int32))) ||| (own_u (own_vk u (24 : Int32)) (4 : Int32))) ||| (own_u (own_bk q (40 : Int32)) (5 : Int32))) ||| (own_u (own_bk q (48 : Int32)) (6 : Int32))) ||| (own_u (own_bk q (56 : Int32)) (7 : Int32))) : Int64) := ⟨_, rfl⟩
    refine g_lstore w at_121 123 rfl hgot.symm #[.val (.long q), .second, .val (.int r), .val (.int u), .val (.int (1 : Int32)), .val (.ref b2), .val (.ref ar), .val (.long got), .second, .unset, .unset, .unset, .unset] rfl ?_
    refine g_ldcl w at_123 45 rfl 126 rfl ?_
    refine g_bipush w at_126 (8 : Int32) rfl 128 rfl ?_
    refine g_iload w at_128 rfl 130 rfl ?_
    refine g_imul w at_130 131 rfl ?_
    refine g_int (x' := (8 : Int32)) (by decide) ?_
    refine g_lshl w at_131 132 rfl ?_
    refine g_long (x' := (1099511627520 : Int64)) (by decide) ?_
    refine g_lstore w at_132 134 rfl rfl #[.val (.long q), .second, .val (.int r), .val (.int u), .val (.int (1 : Int32)), .val (.ref b2), .val (.ref ar), .val (.long got), .second, .val (.long (1099511627520 : Int64)), .second, .unset, .unset] rfl ?_
    refine g_lloadN w at_134 rfl 135 rfl ?_
    refine g_lload w at_135 rfl 137 rfl ?_
    refine g_ldcl w at_137 46 rfl 140 rfl ?_
    refine g_lxor w at_140 141 rfl ?_
    refine g_long (x' := (-1099511627521 : Int64)) (by decide) ?_
    refine g_land w at_141 142 rfl ?_
    refine g_iloadN w at_142 rfl 143 rfl ?_
    refine g_i2l w at_143 144 rfl ?_
    refine g_ldcl w at_144 45 rfl 147 rfl ?_
    refine g_land w at_147 148 rfl ?_
    refine g_bipush w at_148 (8 : Int32) rfl 150 rfl ?_
    refine g_iload w at_150 rfl 152 rfl ?_
    refine g_imul w at_152 153 rfl ?_
    refine g_int (x' := (8 : Int32)) (by decide) ?_
    refine g_lshl w at_153 154 rfl ?_
    refine g_lor w at_154 155 rfl ?_
    obtain ⟨ex, hex⟩ : ∃ own_z, own_z = (((q &&& (-1099511627521 : Int64)) ||| (shlL ((u.toInt64) &&& (4294967295 : Int64)) (8 : Int32))) : Int64) := ⟨_, rfl⟩
    refine g_lstore w at_155 157 rfl hex.symm #[.val (.long q), .second, .val (.int r), .val (.int u), .val (.int (1 : Int32)), .val (.ref b2), .val (.ref ar), .val (.long got), .second, .val (.long (1099511627520 : Int64)), .second, .val (.long ex), .second] rfl ?_
    refine g_lload w at_157 rfl 159 rfl ?_
    refine g_lload w at_159 rfl 161 rfl ?_
    refine g_lcmp w at_161 162 rfl ?_
    refine g_lif_ne w at_162 169 (by decide) (by decide) 165 rfl (fun h => absurd (by rw [hgot, hex]; exact own_law1 q u) h) (fun hc162 => ?_)
    refine g_iconst w at_165 (1 : Int32) rfl 166 rfl ?_
    refine g_goto w at_166 170 (by decide) (by decide) ?_
    exact g_iretn w (by simp) at_170 (by decide) (by decide) rfl
  · -- pc 6 at = 2
    refine g_int (x' := (2 : Int32)) hn ?_
    refine g_istore w at_6 8 rfl rfl #[.val (.long q), .second, .val (.int r), .val (.int u), .val (.int (2 : Int32)), .unset, .unset, .unset, .unset, .unset, .unset, .unset, .unset] rfl ?_
    refine g_new w [("tidestone/parquet/Bytes", "array", "[B", .null), ("tidestone/parquet/Bytes", "doubledUpTo", "I", (.int (0 : Int32))), ("tidestone/parquet/Bytes", "size", "I", (.int (0 : Int32)))] at_8 1 rfl 2 rfl 3 rfl (FOk.cons (Or.inl (w.hw (k := 12) rfl)) (ty := (.array .byte)) (by decide) rfl (FOk.cons (Or.inr (w.hw (k := 14) rfl)) (ty := .int) (by decide) rfl (FOk.cons (Or.inl (w.hw (k := 25) rfl)) (ty := .int) (by decide) rfl trivial))) (by decide) (by decide) (by decide) 11 rfl (fun T b3 w => ?_)
    replace w := w.to (L' := [(b3, O_Bytes .null (.int (0 : Int32)) (.int (0 : Int32)))]) rfl
    refine g_dup w at_11 rfl 12 rfl ?_
    refine g_bipush w at_12 (8 : Int32) rfl 14 rfl ?_
    refine g_bipush w at_14 (8 : Int32) rfl 16 rfl ?_
    refine g_ctor w (argsL := [(.int (8 : Int32)), (.int (8 : Int32))]) (rest := [(.ref b3)]) (rm1 l Z a0 hw n0 b3) at_16 4 rfl 5 rfl 3 rfl 6 rfl rfl ⟨by decide, by decide⟩ pd_1 rfl rfl rfl 1 rfl (by decide) (by decide) (by decide) (by decide) 19 rfl (fun T v L w h => ?_)
    obtain ⟨rfl, ar, rfl⟩ := h
    refine g_astore w at_19 21 rfl rfl #[.val (.long q), .second, .val (.int r), .val (.int u), .val (.int (2 : Int32)), .val (.ref b3), .unset, .unset, .unset, .unset, .unset, .unset, .unset] rfl ?_
    refine g_aload w at_21 rfl rfl 23 rfl ?_
    refine g_lloadN w at_23 rfl 24 rfl ?_
    refine g_virt w (argsL := [(.long q)]) (rest := []) (rm3 l Z a0 hw n0 b3 ar q) at_24 0 rfl 15 rfl 16 rfl 3 rfl 19 rfl 18 rfl 17 rfl ⟨by decide, by decide⟩ pd_2 rfl rfl rfl 0 rfl (by decide) (by decide) (by decide) (by decide) 27 rfl (fun T v L w h => ?_)
    obtain ⟨rfl, hL⟩ := h
    replace w := w.to hL
    refine g_aload w at_27 rfl rfl 29 rfl ?_
    refine g_iload w at_29 rfl 31 rfl ?_
    refine g_iloadN w at_31 rfl 32 rfl ?_
    refine g_virt w (argsL := [(.int (2 : Int32)), (.int u)]) (rest := []) (rm5 l Z a0 hw n0 b3 ar (2 : Int32) u [(.int (own_b0 q)), (.int (own_bk q (8 : Int32))), (.int (own_bk q (16 : Int32))), (.int (own_bk q (24 : Int32))), (.int (own_bk q (32 : Int32))), (.int (own_bk q (40 : Int32))), (.int (own_bk q (48 : Int32))), (.int (own_bk q (56 : Int32)))] 2 (by decide) (by decide) rfl) at_32 0 rfl 26 rfl 27 rfl 3 rfl 30 rfl 29 rfl 28 rfl ⟨by decide, by decide⟩ pd_1 rfl rfl rfl 0 rfl (by decide) (by decide) (by decide) (by decide) 35 rfl (fun T v L w h => ?_)
    obtain ⟨rfl, hL⟩ := h
    replace w := w.to hL
    replace w := w.to (L' := [(b3, O_Bytes (.ref ar) (.int (8 : Int32)) (.int (8 : Int32))), (ar, .inr (.byte, [(.int (own_b0 q)), (.int (own_bk q (8 : Int32))), (.int (own_v0 u)), (.int (own_vk u (8 : Int32))), (.int (own_vk u (16 : Int32))), (.int (own_vk u (24 : Int32))), (.int (own_bk q (48 : Int32))), (.int (own_bk q (56 : Int32)))]))]) rfl
    refine g_aload w at_35 rfl rfl 37 rfl ?_
    refine g_virt w (argsL := []) (rest := []) (rm6 l Z a0 hw n0 b3 ar [(.int (own_b0 q)), (.int (own_bk q (8 : Int32))), (.int (own_v0 u)), (.int (own_vk u (8 : Int32))), (.int (own_vk u (16 : Int32))), (.int (own_vk u (24 : Int32))), (.int (own_bk q (48 : Int32))), (.int (own_bk q (56 : Int32)))]) at_37 0 rfl 31 rfl 32 rfl 3 rfl 35 rfl 34 rfl 33 rfl ⟨by decide, by decide⟩ pd_3 rfl rfl rfl 0 rfl (by decide) (by decide) (by decide) (by decide) 40 rfl (fun T v L w h => ?_)
    obtain ⟨rfl, hL⟩ := h
    replace w := w.to hL
    refine g_bipush w at_40 (8 : Int32) rfl 42 rfl ?_
    refine g_icmp_eq w at_42 47 (by decide) (by decide) 45 rfl (fun hc42 => ?_) (fun h => absurd (by decide) h)
    refine g_aload w at_47 rfl rfl 49 rfl ?_
    refine g_virt w (argsL := []) (rest := []) (rm7 l Z a0 hw n0 b3 ar [(.int (own_b0 q)), (.int (own_bk q (8 : Int32))), (.int (own_v0 u)), (.int (own_vk u (8 : Int32))), (.int (own_vk u (16 : Int32))), (.int (own_vk u (24 : Int32))), (.int (own_bk q (48 : Int32))), (.int (own_bk q (56 : Int32)))]) at_49 0 rfl 36 rfl 37 rfl 3 rfl 40 rfl 39 rfl 38 rfl ⟨by decide, by decide⟩ pd_4 rfl rfl rfl 0 rfl (by decide) (by decide) (by decide) (by decide) 52 rfl (fun T v L w h => ?_)
    obtain ⟨rfl, hL⟩ := h
    replace w := w.to hL
    refine g_astore w at_52 54 rfl rfl #[.val (.long q), .second, .val (.int r), .val (.int u), .val (.int (2 : Int32)), .val (.ref b3), .val (.ref ar), .unset, .unset, .unset, .unset, .unset, .unset] rfl ?_
    refine g_aload w at_54 rfl rfl 56 rfl ?_
    refine g_alen w at_56 1 rfl (8 : Int32) rfl 57 rfl ?_
    refine g_bipush w at_57 (8 : Int32) rfl 59 rfl ?_
    refine g_icmp_eq w at_59 64 (by decide) (by decide) 62 rfl (fun hc59 => ?_) (fun h => absurd (by decide) h)
    refine g_aload w at_64 rfl rfl 66 rfl ?_
    refine g_iconst w at_66 (0 : Int32) rfl 67 rfl ?_
    refine g_static w (argsL := [(.ref ar), (.int (0 : Int32))]) (rest := []) (rm8 l Z a0 hw n0 b3 ar (own_b0 q) (0 : Int32) [(.int (own_b0 q)), (.int (own_bk q (8 : Int32))), (.int (own_v0 u)), (.int (own_vk u (8 : Int32))), (.int (own_vk u (16 : Int32))), (.int (own_vk u (24 : Int32))), (.int (own_bk q (48 : Int32))), (.int (own_bk q (56 : Int32)))] 0 (by decide) rfl) at_67 41 rfl 42 rfl 43 rfl 44 rfl ⟨by decide, by decide⟩ pd_5 rfl rfl rfl 0 rfl (by decide) (by decide) (by decide) (by decide) 70 rfl (fun T v L w h => ?_)
    obtain ⟨rfl, hL⟩ := h
    replace w := w.to hL
    refine g_aload w at_70 rfl rfl 72 rfl ?_
    refine g_iconst w at_72 (1 : Int32) rfl 73 rfl ?_
    refine g_static w (argsL := [(.ref ar), (.int (1 : Int32))]) (rest := [(.long (own_u (own_b0 q) (0 : Int32)))]) (rm8 l Z a0 hw n0 b3 ar (own_bk q (8 : Int32)) (1 : Int32) [(.int (own_b0 q)), (.int (own_bk q (8 : Int32))), (.int (own_v0 u)), (.int (own_vk u (8 : Int32))), (.int (own_vk u (16 : Int32))), (.int (own_vk u (24 : Int32))), (.int (own_bk q (48 : Int32))), (.int (own_bk q (56 : Int32)))] 1 (by decide) rfl) at_73 41 rfl 42 rfl 43 rfl 44 rfl ⟨by decide, by decide⟩ pd_5 rfl rfl rfl 2 rfl (by decide) (by decide) (by decide) (by decide) 76 rfl (fun T v L w h => ?_)
    obtain ⟨rfl, hL⟩ := h
    replace w := w.to hL
    refine g_lor w at_76 77 rfl ?_
    refine g_aload w at_77 rfl rfl 79 rfl ?_
    refine g_iconst w at_79 (2 : Int32) rfl 80 rfl ?_
    refine g_static w (argsL := [(.ref ar), (.int (2 : Int32))]) (rest := [(.long ((own_u (own_b0 q) (0 : Int32)) ||| (own_u (own_bk q (8 : Int32)) (1 : Int32))))]) (rm8 l Z a0 hw n0 b3 ar (own_v0 u) (2 : Int32) [(.int (own_b0 q)), (.int (own_bk q (8 : Int32))), (.int (own_v0 u)), (.int (own_vk u (8 : Int32))), (.int (own_vk u (16 : Int32))), (.int (own_vk u (24 : Int32))), (.int (own_bk q (48 : Int32))), (.int (own_bk q (56 : Int32)))] 2 (by decide) rfl) at_80 41 rfl 42 rfl 43 rfl 44 rfl ⟨by decide, by decide⟩ pd_5 rfl rfl rfl 2 rfl (by decide) (by decide) (by decide) (by decide) 83 rfl (fun T v L w h => ?_)
    obtain ⟨rfl, hL⟩ := h
    replace w := w.to hL
    refine g_lor w at_83 84 rfl ?_
    refine g_aload w at_84 rfl rfl 86 rfl ?_
    refine g_iconst w at_86 (3 : Int32) rfl 87 rfl ?_
    refine g_static w (argsL := [(.ref ar), (.int (3 : Int32))]) (rest := [(.long (((own_u (own_b0 q) (0 : Int32)) ||| (own_u (own_bk q (8 : Int32)) (1 : Int32))) ||| (own_u (own_v0 u) (2 : Int32))))]) (rm8 l Z a0 hw n0 b3 ar (own_vk u (8 : Int32)) (3 : Int32) [(.int (own_b0 q)), (.int (own_bk q (8 : Int32))), (.int (own_v0 u)), (.int (own_vk u (8 : Int32))), (.int (own_vk u (16 : Int32))), (.int (own_vk u (24 : Int32))), (.int (own_bk q (48 : Int32))), (.int (own_bk q (56 : Int32)))] 3 (by decide) rfl) at_87 41 rfl 42 rfl 43 rfl 44 rfl ⟨by decide, by decide⟩ pd_5 rfl rfl rfl 2 rfl (by decide) (by decide) (by decide) (by decide) 90 rfl (fun T v L w h => ?_)
    obtain ⟨rfl, hL⟩ := h
    replace w := w.to hL
    refine g_lor w at_90 91 rfl ?_
    refine g_aload w at_91 rfl rfl 93 rfl ?_
    refine g_iconst w at_93 (4 : Int32) rfl 94 rfl ?_
    refine g_static w (argsL := [(.ref ar), (.int (4 : Int32))]) (rest := [(.long ((((own_u (own_b0 q) (0 : Int32)) ||| (own_u (own_bk q (8 : Int32)) (1 : Int32))) ||| (own_u (own_v0 u) (2 : Int32))) ||| (own_u (own_vk u (8 : Int32)) (3 : Int32))))]) (rm8 l Z a0 hw n0 b3 ar (own_vk u (16 : Int32)) (4 : Int32) [(.int (own_b0 q)), (.int (own_bk q (8 : Int32))), (.int (own_v0 u)), (.int (own_vk u (8 : Int32))), (.int (own_vk u (16 : Int32))), (.int (own_vk u (24 : Int32))), (.int (own_bk q (48 : Int32))), (.int (own_bk q (56 : Int32)))] 4 (by decide) rfl) at_94 41 rfl 42 rfl 43 rfl 44 rfl ⟨by decide, by decide⟩ pd_5 rfl rfl rfl 2 rfl (by decide) (by decide) (by decide) (by decide) 97 rfl (fun T v L w h => ?_)
    obtain ⟨rfl, hL⟩ := h
    replace w := w.to hL
    refine g_lor w at_97 98 rfl ?_
    refine g_aload w at_98 rfl rfl 100 rfl ?_
    refine g_iconst w at_100 (5 : Int32) rfl 101 rfl ?_
    refine g_static w (argsL := [(.ref ar), (.int (5 : Int32))]) (rest := [(.long (((((own_u (own_b0 q) (0 : Int32)) ||| (own_u (own_bk q (8 : Int32)) (1 : Int32))) ||| (own_u (own_v0 u) (2 : Int32))) ||| (own_u (own_vk u (8 : Int32)) (3 : Int32))) ||| (own_u (own_vk u (16 : Int32)) (4 : Int32))))]) (rm8 l Z a0 hw n0 b3 ar (own_vk u (24 : Int32)) (5 : Int32) [(.int (own_b0 q)), (.int (own_bk q (8 : Int32))), (.int (own_v0 u)), (.int (own_vk u (8 : Int32))), (.int (own_vk u (16 : Int32))), (.int (own_vk u (24 : Int32))), (.int (own_bk q (48 : Int32))), (.int (own_bk q (56 : Int32)))] 5 (by decide) rfl) at_101 41 rfl 42 rfl 43 rfl 44 rfl ⟨by decide, by decide⟩ pd_5 rfl rfl rfl 2 rfl (by decide) (by decide) (by decide) (by decide) 104 rfl (fun T v L w h => ?_)
    obtain ⟨rfl, hL⟩ := h
    replace w := w.to hL
    refine g_lor w at_104 105 rfl ?_
    refine g_aload w at_105 rfl rfl 107 rfl ?_
    refine g_bipush w at_107 (6 : Int32) rfl 109 rfl ?_
    refine g_static w (argsL := [(.ref ar), (.int (6 : Int32))]) (rest := [(.long ((((((own_u (own_b0 q) (0 : Int32)) ||| (own_u (own_bk q (8 : Int32)) (1 : Int32))) ||| (own_u (own_v0 u) (2 : Int32))) ||| (own_u (own_vk u (8 : Int32)) (3 : Int32))) ||| (own_u (own_vk u (16 : Int32)) (4 : Int32))) ||| (own_u (own_vk u (24 : Int32)) (5 : Int32))))]) (rm8 l Z a0 hw n0 b3 ar (own_bk q (48 : Int32)) (6 : Int32) [(.int (own_b0 q)), (.int (own_bk q (8 : Int32))), (.int (own_v0 u)), (.int (own_vk u (8 : Int32))), (.int (own_vk u (16 : Int32))), (.int (own_vk u (24 : Int32))), (.int (own_bk q (48 : Int32))), (.int (own_bk q (56 : Int32)))] 6 (by decide) rfl) at_109 41 rfl 42 rfl 43 rfl 44 rfl ⟨by decide, by decide⟩ pd_5 rfl rfl rfl 2 rfl (by decide) (by decide) (by decide) (by decide) 112 rfl (fun T v L w h => ?_)
    obtain ⟨rfl, hL⟩ := h
    replace w := w.to hL
    refine g_lor w at_112 113 rfl ?_
    refine g_aload w at_113 rfl rfl 115 rfl ?_
    refine g_bipush w at_115 (7 : Int32) rfl 117 rfl ?_
    refine g_static w (argsL := [(.ref ar), (.int (7 : Int32))]) (rest := [(.long (((((((own_u (own_b0 q) (0 : Int32)) ||| (own_u (own_bk q (8 : Int32)) (1 : Int32))) ||| (own_u (own_v0 u) (2 : Int32))) ||| (own_u (own_vk u (8 : Int32)) (3 : Int32))) ||| (own_u (own_vk u (16 : Int32)) (4 : Int32))) ||| (own_u (own_vk u (24 : Int32)) (5 : Int32))) ||| (own_u (own_bk q (48 : Int32)) (6 : Int32))))]) (rm8 l Z a0 hw n0 b3 ar (own_bk q (56 : Int32)) (7 : Int32) [(.int (own_b0 q)), (.int (own_bk q (8 : Int32))), (.int (own_v0 u)), (.int (own_vk u (8 : Int32))), (.int (own_vk u (16 : Int32))), (.int (own_vk u (24 : Int32))), (.int (own_bk q (48 : Int32))), (.int (own_bk q (56 : Int32)))] 7 (by decide) rfl) at_117 41 rfl 42 rfl 43 rfl 44 rfl ⟨by decide, by decide⟩ pd_5 rfl rfl rfl 2 rfl (by decide) (by decide) (by decide) (by decide) 120 rfl (fun T v L w h => ?_)
    obtain ⟨rfl, hL⟩ := h
    replace w := w.to hL
    refine g_lor w at_120 121 rfl ?_
    obtain ⟨got, hgot⟩ : ∃ own_z, own_z = (((((((((own_u (own_b0 q) (0 : Int32)) ||| (own_u (own_bk q (8 : Int32)) (1 : Int32))) ||| (own_u (own_v0 u) (2 : Int32))) ||| (own_u (own_vk u (8 : Int32)) (3 : Int32))) ||| (own_u (own_vk u (16 : Int32)) (4 : Int32))) ||| (own_u (own_vk u (24 : Int32)) (5 : Int32))) ||| (own_u (own_bk q (48 : Int32)) (6 : Int32))) ||| (own_u (own_bk q (56 : Int32)) (7 : Int32))) : Int64) := ⟨_, rfl⟩
    refine g_lstore w at_121 123 rfl hgot.symm #[.val (.long q), .second, .val (.int r), .val (.int u), .val (.int (2 : Int32)), .val (.ref b3), .val (.ref ar), .val (.long got), .second, .unset, .unset, .unset, .unset] rfl ?_
    refine g_ldcl w at_123 45 rfl 126 rfl ?_
    refine g_bipush w at_126 (8 : Int32) rfl 128 rfl ?_
    refine g_iload w at_128 rfl 130 rfl ?_
    refine g_imul w at_130 131 rfl ?_
    refine g_int (x' := (16 : Int32)) (by decide) ?_
    refine g_lshl w at_131 132 rfl ?_
    refine g_long (x' := (281474976645120 : Int64)) (by decide) ?_
    refine g_lstore w at_132 134 rfl rfl #[.val (.long q), .second, .val (.int r), .val (.int u), .val (.int (2 : Int32)), .val (.ref b3), .val (.ref ar), .val (.long got), .second, .val (.long (281474976645120 : Int64)), .second, .unset, .unset] rfl ?_
    refine g_lloadN w at_134 rfl 135 rfl ?_
    refine g_lload w at_135 rfl 137 rfl ?_
    refine g_ldcl w at_137 46 rfl 140 rfl ?_
    refine g_lxor w at_140 141 rfl ?_
    refine g_long (x' := (-281474976645121 : Int64)) (by decide) ?_
    refine g_land w at_141 142 rfl ?_
    refine g_iloadN w at_142 rfl 143 rfl ?_
    refine g_i2l w at_143 144 rfl ?_
    refine g_ldcl w at_144 45 rfl 147 rfl ?_
    refine g_land w at_147 148 rfl ?_
    refine g_bipush w at_148 (8 : Int32) rfl 150 rfl ?_
    refine g_iload w at_150 rfl 152 rfl ?_
    refine g_imul w at_152 153 rfl ?_
    refine g_int (x' := (16 : Int32)) (by decide) ?_
    refine g_lshl w at_153 154 rfl ?_
    refine g_lor w at_154 155 rfl ?_
    obtain ⟨ex, hex⟩ : ∃ own_z, own_z = (((q &&& (-281474976645121 : Int64)) ||| (shlL ((u.toInt64) &&& (4294967295 : Int64)) (16 : Int32))) : Int64) := ⟨_, rfl⟩
    refine g_lstore w at_155 157 rfl hex.symm #[.val (.long q), .second, .val (.int r), .val (.int u), .val (.int (2 : Int32)), .val (.ref b3), .val (.ref ar), .val (.long got), .second, .val (.long (281474976645120 : Int64)), .second, .val (.long ex), .second] rfl ?_
    refine g_lload w at_157 rfl 159 rfl ?_
    refine g_lload w at_159 rfl 161 rfl ?_
    refine g_lcmp w at_161 162 rfl ?_
    refine g_lif_ne w at_162 169 (by decide) (by decide) 165 rfl (fun h => absurd (by rw [hgot, hex]; exact own_law2 q u) h) (fun hc162 => ?_)
    refine g_iconst w at_165 (1 : Int32) rfl 166 rfl ?_
    refine g_goto w at_166 170 (by decide) (by decide) ?_
    exact g_iretn w (by simp) at_170 (by decide) (by decide) rfl
  · -- pc 6 at = 3
    refine g_int (x' := (3 : Int32)) hn ?_
    refine g_istore w at_6 8 rfl rfl #[.val (.long q), .second, .val (.int r), .val (.int u), .val (.int (3 : Int32)), .unset, .unset, .unset, .unset, .unset, .unset, .unset, .unset] rfl ?_
    refine g_new w [("tidestone/parquet/Bytes", "array", "[B", .null), ("tidestone/parquet/Bytes", "doubledUpTo", "I", (.int (0 : Int32))), ("tidestone/parquet/Bytes", "size", "I", (.int (0 : Int32)))] at_8 1 rfl 2 rfl 3 rfl (FOk.cons (Or.inl (w.hw (k := 12) rfl)) (ty := (.array .byte)) (by decide) rfl (FOk.cons (Or.inr (w.hw (k := 14) rfl)) (ty := .int) (by decide) rfl (FOk.cons (Or.inl (w.hw (k := 25) rfl)) (ty := .int) (by decide) rfl trivial))) (by decide) (by decide) (by decide) 11 rfl (fun T b4 w => ?_)
    replace w := w.to (L' := [(b4, O_Bytes .null (.int (0 : Int32)) (.int (0 : Int32)))]) rfl
    refine g_dup w at_11 rfl 12 rfl ?_
    refine g_bipush w at_12 (8 : Int32) rfl 14 rfl ?_
    refine g_bipush w at_14 (8 : Int32) rfl 16 rfl ?_
    refine g_ctor w (argsL := [(.int (8 : Int32)), (.int (8 : Int32))]) (rest := [(.ref b4)]) (rm1 l Z a0 hw n0 b4) at_16 4 rfl 5 rfl 3 rfl 6 rfl rfl ⟨by decide, by decide⟩ pd_1 rfl rfl rfl 1 rfl (by decide) (by decide) (by decide) (by decide) 19 rfl (fun T v L w h => ?_)
    obtain ⟨rfl, ar, rfl⟩ := h
    refine g_astore w at_19 21 rfl rfl #[.val (.long q), .second, .val (.int r), .val (.int u), .val (.int (3 : Int32)), .val (.ref b4), .unset, .unset, .unset, .unset, .unset, .unset, .unset] rfl ?_
    refine g_aload w at_21 rfl rfl 23 rfl ?_
    refine g_lloadN w at_23 rfl 24 rfl ?_
    refine g_virt w (argsL := [(.long q)]) (rest := []) (rm3 l Z a0 hw n0 b4 ar q) at_24 0 rfl 15 rfl 16 rfl 3 rfl 19 rfl 18 rfl 17 rfl ⟨by decide, by decide⟩ pd_2 rfl rfl rfl 0 rfl (by decide) (by decide) (by decide) (by decide) 27 rfl (fun T v L w h => ?_)
    obtain ⟨rfl, hL⟩ := h
    replace w := w.to hL
    refine g_aload w at_27 rfl rfl 29 rfl ?_
    refine g_iload w at_29 rfl 31 rfl ?_
    refine g_iloadN w at_31 rfl 32 rfl ?_
    refine g_virt w (argsL := [(.int (3 : Int32)), (.int u)]) (rest := []) (rm5 l Z a0 hw n0 b4 ar (3 : Int32) u [(.int (own_b0 q)), (.int (own_bk q (8 : Int32))), (.int (own_bk q (16 : Int32))), (.int (own_bk q (24 : Int32))), (.int (own_bk q (32 : Int32))), (.int (own_bk q (40 : Int32))), (.int (own_bk q (48 : Int32))), (.int (own_bk q (56 : Int32)))] 3 (by decide) (by decide) rfl) at_32 0 rfl 26 rfl 27 rfl 3 rfl 30 rfl 29 rfl 28 rfl ⟨by decide, by decide⟩ pd_1 rfl rfl rfl 0 rfl (by decide) (by decide) (by decide) (by decide) 35 rfl (fun T v L w h => ?_)
    obtain ⟨rfl, hL⟩ := h
    replace w := w.to hL
    replace w := w.to (L' := [(b4, O_Bytes (.ref ar) (.int (8 : Int32)) (.int (8 : Int32))), (ar, .inr (.byte, [(.int (own_b0 q)), (.int (own_bk q (8 : Int32))), (.int (own_bk q (16 : Int32))), (.int (own_v0 u)), (.int (own_vk u (8 : Int32))), (.int (own_vk u (16 : Int32))), (.int (own_vk u (24 : Int32))), (.int (own_bk q (56 : Int32)))]))]) rfl
    refine g_aload w at_35 rfl rfl 37 rfl ?_
    refine g_virt w (argsL := []) (rest := []) (rm6 l Z a0 hw n0 b4 ar [(.int (own_b0 q)), (.int (own_bk q (8 : Int32))), (.int (own_bk q (16 : Int32))), (.int (own_v0 u)), (.int (own_vk u (8 : Int32))), (.int (own_vk u (16 : Int32))), (.int (own_vk u (24 : Int32))), (.int (own_bk q (56 : Int32)))]) at_37 0 rfl 31 rfl 32 rfl 3 rfl 35 rfl 34 rfl 33 rfl ⟨by decide, by decide⟩ pd_3 rfl rfl rfl 0 rfl (by decide) (by decide) (by decide) (by decide) 40 rfl (fun T v L w h => ?_)
    obtain ⟨rfl, hL⟩ := h
    replace w := w.to hL
    refine g_bipush w at_40 (8 : Int32) rfl 42 rfl ?_
    refine g_icmp_eq w at_42 47 (by decide) (by decide) 45 rfl (fun hc42 => ?_) (fun h => absurd (by decide) h)
    refine g_aload w at_47 rfl rfl 49 rfl ?_
    refine g_virt w (argsL := []) (rest := []) (rm7 l Z a0 hw n0 b4 ar [(.int (own_b0 q)), (.int (own_bk q (8 : Int32))), (.int (own_bk q (16 : Int32))), (.int (own_v0 u)), (.int (own_vk u (8 : Int32))), (.int (own_vk u (16 : Int32))), (.int (own_vk u (24 : Int32))), (.int (own_bk q (56 : Int32)))]) at_49 0 rfl 36 rfl 37 rfl 3 rfl 40 rfl 39 rfl 38 rfl ⟨by decide, by decide⟩ pd_4 rfl rfl rfl 0 rfl (by decide) (by decide) (by decide) (by decide) 52 rfl (fun T v L w h => ?_)
    obtain ⟨rfl, hL⟩ := h
    replace w := w.to hL
    refine g_astore w at_52 54 rfl rfl #[.val (.long q), .second, .val (.int r), .val (.int u), .val (.int (3 : Int32)), .val (.ref b4), .val (.ref ar), .unset, .unset, .unset, .unset, .unset, .unset] rfl ?_
    refine g_aload w at_54 rfl rfl 56 rfl ?_
    refine g_alen w at_56 1 rfl (8 : Int32) rfl 57 rfl ?_
    refine g_bipush w at_57 (8 : Int32) rfl 59 rfl ?_
    refine g_icmp_eq w at_59 64 (by decide) (by decide) 62 rfl (fun hc59 => ?_) (fun h => absurd (by decide) h)
    refine g_aload w at_64 rfl rfl 66 rfl ?_
    refine g_iconst w at_66 (0 : Int32) rfl 67 rfl ?_
    refine g_static w (argsL := [(.ref ar), (.int (0 : Int32))]) (rest := []) (rm8 l Z a0 hw n0 b4 ar (own_b0 q) (0 : Int32) [(.int (own_b0 q)), (.int (own_bk q (8 : Int32))), (.int (own_bk q (16 : Int32))), (.int (own_v0 u)), (.int (own_vk u (8 : Int32))), (.int (own_vk u (16 : Int32))), (.int (own_vk u (24 : Int32))), (.int (own_bk q (56 : Int32)))] 0 (by decide) rfl) at_67 41 rfl 42 rfl 43 rfl 44 rfl ⟨by decide, by decide⟩ pd_5 rfl rfl rfl 0 rfl (by decide) (by decide) (by decide) (by decide) 70 rfl (fun T v L w h => ?_)
    obtain ⟨rfl, hL⟩ := h
    replace w := w.to hL
    refine g_aload w at_70 rfl rfl 72 rfl ?_
    refine g_iconst w at_72 (1 : Int32) rfl 73 rfl ?_
    refine g_static w (argsL := [(.ref ar), (.int (1 : Int32))]) (rest := [(.long (own_u (own_b0 q) (0 : Int32)))]) (rm8 l Z a0 hw n0 b4 ar (own_bk q (8 : Int32)) (1 : Int32) [(.int (own_b0 q)), (.int (own_bk q (8 : Int32))), (.int (own_bk q (16 : Int32))), (.int (own_v0 u)), (.int (own_vk u (8 : Int32))), (.int (own_vk u (16 : Int32))), (.int (own_vk u (24 : Int32))), (.int (own_bk q (56 : Int32)))] 1 (by decide) rfl) at_73 41 rfl 42 rfl 43 rfl 44 rfl ⟨by decide, by decide⟩ pd_5 rfl rfl rfl 2 rfl (by decide) (by decide) (by decide) (by decide) 76 rfl (fun T v L w h => ?_)
    obtain ⟨rfl, hL⟩ := h
    replace w := w.to hL
    refine g_lor w at_76 77 rfl ?_
    refine g_aload w at_77 rfl rfl 79 rfl ?_
    refine g_iconst w at_79 (2 : Int32) rfl 80 rfl ?_
    refine g_static w (argsL := [(.ref ar), (.int (2 : Int32))]) (rest := [(.long ((own_u (own_b0 q) (0 : Int32)) ||| (own_u (own_bk q (8 : Int32)) (1 : Int32))))]) (rm8 l Z a0 hw n0 b4 ar (own_bk q (16 : Int32)) (2 : Int32) [(.int (own_b0 q)), (.int (own_bk q (8 : Int32))), (.int (own_bk q (16 : Int32))), (.int (own_v0 u)), (.int (own_vk u (8 : Int32))), (.int (own_vk u (16 : Int32))), (.int (own_vk u (24 : Int32))), (.int (own_bk q (56 : Int32)))] 2 (by decide) rfl) at_80 41 rfl 42 rfl 43 rfl 44 rfl ⟨by decide, by decide⟩ pd_5 rfl rfl rfl 2 rfl (by decide) (by decide) (by decide) (by decide) 83 rfl (fun T v L w h => ?_)
    obtain ⟨rfl, hL⟩ := h
    replace w := w.to hL
    refine g_lor w at_83 84 rfl ?_
    refine g_aload w at_84 rfl rfl 86 rfl ?_
    refine g_iconst w at_86 (3 : Int32) rfl 87 rfl ?_
    refine g_static w (argsL := [(.ref ar), (.int (3 : Int32))]) (rest := [(.long (((own_u (own_b0 q) (0 : Int32)) ||| (own_u (own_bk q (8 : Int32)) (1 : Int32))) ||| (own_u (own_bk q (16 : Int32)) (2 : Int32))))]) (rm8 l Z a0 hw n0 b4 ar (own_v0 u) (3 : Int32) [(.int (own_b0 q)), (.int (own_bk q (8 : Int32))), (.int (own_bk q (16 : Int32))), (.int (own_v0 u)), (.int (own_vk u (8 : Int32))), (.int (own_vk u (16 : Int32))), (.int (own_vk u (24 : Int32))), (.int (own_bk q (56 : Int32)))] 3 (by decide) rfl) at_87 41 rfl 42 rfl 43 rfl 44 rfl ⟨by decide, by decide⟩ pd_5 rfl rfl rfl 2 rfl (by decide) (by decide) (by decide) (by decide) 90 rfl (fun T v L w h => ?_)
    obtain ⟨rfl, hL⟩ := h
    replace w := w.to hL
    refine g_lor w at_90 91 rfl ?_
    refine g_aload w at_91 rfl rfl 93 rfl ?_
    refine g_iconst w at_93 (4 : Int32) rfl 94 rfl ?_
    refine g_static w (argsL := [(.ref ar), (.int (4 : Int32))]) (rest := [(.long ((((own_u (own_b0 q) (0 : Int32)) ||| (own_u (own_bk q (8 : Int32)) (1 : Int32))) ||| (own_u (own_bk q (16 : Int32)) (2 : Int32))) ||| (own_u (own_v0 u) (3 : Int32))))]) (rm8 l Z a0 hw n0 b4 ar (own_vk u (8 : Int32)) (4 : Int32) [(.int (own_b0 q)), (.int (own_bk q (8 : Int32))), (.int (own_bk q (16 : Int32))), (.int (own_v0 u)), (.int (own_vk u (8 : Int32))), (.int (own_vk u (16 : Int32))), (.int (own_vk u (24 : Int32))), (.int (own_bk q (56 : Int32)))] 4 (by decide) rfl) at_94 41 rfl 42 rfl 43 rfl 44 rfl ⟨by decide, by decide⟩ pd_5 rfl rfl rfl 2 rfl (by decide) (by decide) (by decide) (by decide) 97 rfl (fun T v L w h => ?_)
    obtain ⟨rfl, hL⟩ := h
    replace w := w.to hL
    refine g_lor w at_97 98 rfl ?_
    refine g_aload w at_98 rfl rfl 100 rfl ?_
    refine g_iconst w at_100 (5 : Int32) rfl 101 rfl ?_
    refine g_static w (argsL := [(.ref ar), (.int (5 : Int32))]) (rest := [(.long (((((own_u (own_b0 q) (0 : Int32)) ||| (own_u (own_bk q (8 : Int32)) (1 : Int32))) ||| (own_u (own_bk q (16 : Int32)) (2 : Int32))) ||| (own_u (own_v0 u) (3 : Int32))) ||| (own_u (own_vk u (8 : Int32)) (4 : Int32))))]) (rm8 l Z a0 hw n0 b4 ar (own_vk u (16 : Int32)) (5 : Int32) [(.int (own_b0 q)), (.int (own_bk q (8 : Int32))), (.int (own_bk q (16 : Int32))), (.int (own_v0 u)), (.int (own_vk u (8 : Int32))), (.int (own_vk u (16 : Int32))), (.int (own_vk u (24 : Int32))), (.int (own_bk q (56 : Int32)))] 5 (by decide) rfl) at_101 41 rfl 42 rfl 43 rfl 44 rfl ⟨by decide, by decide⟩ pd_5 rfl rfl rfl 2 rfl (by decide) (by decide) (by decide) (by decide) 104 rfl (fun T v L w h => ?_)
    obtain ⟨rfl, hL⟩ := h
    replace w := w.to hL
    refine g_lor w at_104 105 rfl ?_
    refine g_aload w at_105 rfl rfl 107 rfl ?_
    refine g_bipush w at_107 (6 : Int32) rfl 109 rfl ?_
    refine g_static w (argsL := [(.ref ar), (.int (6 : Int32))]) (rest := [(.long ((((((own_u (own_b0 q) (0 : Int32)) ||| (own_u (own_bk q (8 : Int32)) (1 : Int32))) ||| (own_u (own_bk q (16 : Int32)) (2 : Int32))) ||| (own_u (own_v0 u) (3 : Int32))) ||| (own_u (own_vk u (8 : Int32)) (4 : Int32))) ||| (own_u (own_vk u (16 : Int32)) (5 : Int32))))]) (rm8 l Z a0 hw n0 b4 ar (own_vk u (24 : Int32)) (6 : Int32) [(.int (own_b0 q)), (.int (own_bk q (8 : Int32))), (.int (own_bk q (16 : Int32))), (.int (own_v0 u)), (.int (own_vk u (8 : Int32))), (.int (own_vk u (16 : Int32))), (.int (own_vk u (24 : Int32))), (.int (own_bk q (56 : Int32)))] 6 (by decide) rfl) at_109 41 rfl 42 rfl 43 rfl 44 rfl ⟨by decide, by decide⟩ pd_5 rfl rfl rfl 2 rfl (by decide) (by decide) (by decide) (by decide) 112 rfl (fun T v L w h => ?_)
    obtain ⟨rfl, hL⟩ := h
    replace w := w.to hL
    refine g_lor w at_112 113 rfl ?_
    refine g_aload w at_113 rfl rfl 115 rfl ?_
    refine g_bipush w at_115 (7 : Int32) rfl 117 rfl ?_
    refine g_static w (argsL := [(.ref ar), (.int (7 : Int32))]) (rest := [(.long (((((((own_u (own_b0 q) (0 : Int32)) ||| (own_u (own_bk q (8 : Int32)) (1 : Int32))) ||| (own_u (own_bk q (16 : Int32)) (2 : Int32))) ||| (own_u (own_v0 u) (3 : Int32))) ||| (own_u (own_vk u (8 : Int32)) (4 : Int32))) ||| (own_u (own_vk u (16 : Int32)) (5 : Int32))) ||| (own_u (own_vk u (24 : Int32)) (6 : Int32))))]) (rm8 l Z a0 hw n0 b4 ar (own_bk q (56 : Int32)) (7 : Int32) [(.int (own_b0 q)), (.int (own_bk q (8 : Int32))), (.int (own_bk q (16 : Int32))), (.int (own_v0 u)), (.int (own_vk u (8 : Int32))), (.int (own_vk u (16 : Int32))), (.int (own_vk u (24 : Int32))), (.int (own_bk q (56 : Int32)))] 7 (by decide) rfl) at_117 41 rfl 42 rfl 43 rfl 44 rfl ⟨by decide, by decide⟩ pd_5 rfl rfl rfl 2 rfl (by decide) (by decide) (by decide) (by decide) 120 rfl (fun T v L w h => ?_)
    obtain ⟨rfl, hL⟩ := h
    replace w := w.to hL
    refine g_lor w at_120 121 rfl ?_
    obtain ⟨got, hgot⟩ : ∃ own_z, own_z = (((((((((own_u (own_b0 q) (0 : Int32)) ||| (own_u (own_bk q (8 : Int32)) (1 : Int32))) ||| (own_u (own_bk q (16 : Int32)) (2 : Int32))) ||| (own_u (own_v0 u) (3 : Int32))) ||| (own_u (own_vk u (8 : Int32)) (4 : Int32))) ||| (own_u (own_vk u (16 : Int32)) (5 : Int32))) ||| (own_u (own_vk u (24 : Int32)) (6 : Int32))) ||| (own_u (own_bk q (56 : Int32)) (7 : Int32))) : Int64) := ⟨_, rfl⟩
    refine g_lstore w at_121 123 rfl hgot.symm #[.val (.long q), .second, .val (.int r), .val (.int u), .val (.int (3 : Int32)), .val (.ref b4), .val (.ref ar), .val (.long got), .second, .unset, .unset, .unset, .unset] rfl ?_
    refine g_ldcl w at_123 45 rfl 126 rfl ?_
    refine g_bipush w at_126 (8 : Int32) rfl 128 rfl ?_
    refine g_iload w at_128 rfl 130 rfl ?_
    refine g_imul w at_130 131 rfl ?_
    refine g_int (x' := (24 : Int32)) (by decide) ?_
    refine g_lshl w at_131 132 rfl ?_
    refine g_long (x' := (72057594021150720 : Int64)) (by decide) ?_
    refine g_lstore w at_132 134 rfl rfl #[.val (.long q), .second, .val (.int r), .val (.int u), .val (.int (3 : Int32)), .val (.ref b4), .val (.ref ar), .val (.long got), .second, .val (.long (72057594021150720 : Int64)), .second, .unset, .unset] rfl ?_
    refine g_lloadN w at_134 rfl 135 rfl ?_
    refine g_lload w at_135 rfl 137 rfl ?_
    refine g_ldcl w at_137 46 rfl 140 rfl ?_
    refine g_lxor w at_140 141 rfl ?_
    refine g_long (x' := (-72057594021150721 : Int64)) (by decide) ?_
    refine g_land w at_141 142 rfl ?_
    refine g_iloadN w at_142 rfl 143 rfl ?_
    refine g_i2l w at_143 144 rfl ?_
    refine g_ldcl w at_144 45 rfl 147 rfl ?_
    refine g_land w at_147 148 rfl ?_
    refine g_bipush w at_148 (8 : Int32) rfl 150 rfl ?_
    refine g_iload w at_150 rfl 152 rfl ?_
    refine g_imul w at_152 153 rfl ?_
    refine g_int (x' := (24 : Int32)) (by decide) ?_
    refine g_lshl w at_153 154 rfl ?_
    refine g_lor w at_154 155 rfl ?_
    obtain ⟨ex, hex⟩ : ∃ own_z, own_z = (((q &&& (-72057594021150721 : Int64)) ||| (shlL ((u.toInt64) &&& (4294967295 : Int64)) (24 : Int32))) : Int64) := ⟨_, rfl⟩
    refine g_lstore w at_155 157 rfl hex.symm #[.val (.long q), .second, .val (.int r), .val (.int u), .val (.int (3 : Int32)), .val (.ref b4), .val (.ref ar), .val (.long got), .second, .val (.long (72057594021150720 : Int64)), .second, .val (.long ex), .second] rfl ?_
    refine g_lload w at_157 rfl 159 rfl ?_
    refine g_lload w at_159 rfl 161 rfl ?_
    refine g_lcmp w at_161 162 rfl ?_
    refine g_lif_ne w at_162 169 (by decide) (by decide) 165 rfl (fun h => absurd (by rw [hgot, hex]; exact own_law3 q u) h) (fun hc162 => ?_)
    refine g_iconst w at_165 (1 : Int32) rfl 166 rfl ?_
    refine g_goto w at_166 170 (by decide) (by decide) ?_
    exact g_iretn w (by simp) at_170 (by decide) (by decide) rfl
  · -- pc 6 at = 4
    refine g_int (x' := (4 : Int32)) hn ?_
    refine g_istore w at_6 8 rfl rfl #[.val (.long q), .second, .val (.int r), .val (.int u), .val (.int (4 : Int32)), .unset, .unset, .unset, .unset, .unset, .unset, .unset, .unset] rfl ?_
    refine g_new w [("tidestone/parquet/Bytes", "array", "[B", .null), ("tidestone/parquet/Bytes", "doubledUpTo", "I", (.int (0 : Int32))), ("tidestone/parquet/Bytes", "size", "I", (.int (0 : Int32)))] at_8 1 rfl 2 rfl 3 rfl (FOk.cons (Or.inl (w.hw (k := 12) rfl)) (ty := (.array .byte)) (by decide) rfl (FOk.cons (Or.inr (w.hw (k := 14) rfl)) (ty := .int) (by decide) rfl (FOk.cons (Or.inl (w.hw (k := 25) rfl)) (ty := .int) (by decide) rfl trivial))) (by decide) (by decide) (by decide) 11 rfl (fun T b5 w => ?_)
    replace w := w.to (L' := [(b5, O_Bytes .null (.int (0 : Int32)) (.int (0 : Int32)))]) rfl
    refine g_dup w at_11 rfl 12 rfl ?_
    refine g_bipush w at_12 (8 : Int32) rfl 14 rfl ?_
    refine g_bipush w at_14 (8 : Int32) rfl 16 rfl ?_
    refine g_ctor w (argsL := [(.int (8 : Int32)), (.int (8 : Int32))]) (rest := [(.ref b5)]) (rm1 l Z a0 hw n0 b5) at_16 4 rfl 5 rfl 3 rfl 6 rfl rfl ⟨by decide, by decide⟩ pd_1 rfl rfl rfl 1 rfl (by decide) (by decide) (by decide) (by decide) 19 rfl (fun T v L w h => ?_)
    obtain ⟨rfl, ar, rfl⟩ := h
    refine g_astore w at_19 21 rfl rfl #[.val (.long q), .second, .val (.int r), .val (.int u), .val (.int (4 : Int32)), .val (.ref b5), .unset, .unset, .unset, .unset, .unset, .unset, .unset] rfl ?_
    refine g_aload w at_21 rfl rfl 23 rfl ?_
    refine g_lloadN w at_23 rfl 24 rfl ?_
    refine g_virt w (argsL := [(.long q)]) (rest := []) (rm3 l Z a0 hw n0 b5 ar q) at_24 0 rfl 15 rfl 16 rfl 3 rfl 19 rfl 18 rfl 17 rfl ⟨by decide, by decide⟩ pd_2 rfl rfl rfl 0 rfl (by decide) (by decide) (by decide) (by decide) 27 rfl (fun T v L w h => ?_)
    obtain ⟨rfl, hL⟩ := h
    replace w := w.to hL
    refine g_aload w at_27 rfl rfl 29 rfl ?_
    refine g_iload w at_29 rfl 31 rfl ?_
    refine g_iloadN w at_31 rfl 32 rfl ?_
    refine g_virt w (argsL := [(.int (4 : Int32)), (.int u)]) (rest := []) (rm5 l Z a0 hw n0 b5 ar (4 : Int32) u [(.int (own_b0 q)), (.int (own_bk q (8 : Int32))), (.int (own_bk q (16 : Int32))), (.int (own_bk q (24 : Int32))), (.int (own_bk q (32 : Int32))), (.int (own_bk q (40 : Int32))), (.int (own_bk q (48 : Int32))), (.int (own_bk q (56 : Int32)))] 4 (by decide) (by decide) rfl) at_32 0 rfl 26 rfl 27 rfl 3 rfl 30 rfl 29 rfl 28 rfl ⟨by decide, by decide⟩ pd_1 rfl rfl rfl 0 rfl (by decide) (by decide) (by decide) (by decide) 35 rfl (fun T v L w h => ?_)
    obtain ⟨rfl, hL⟩ := h
    replace w := w.to hL
    replace w := w.to (L' := [(b5, O_Bytes (.ref ar) (.int (8 : Int32)) (.int (8 : Int32))), (ar, .inr (.byte, [(.int (own_b0 q)), (.int (own_bk q (8 : Int32))), (.int (own_bk q (16 : Int32))), (.int (own_bk q (24 : Int32))), (.int (own_v0 u)), (.int (own_vk u (8 : Int32))), (.int (own_vk u (16 : Int32))), (.int (own_vk u (24 : Int32)))]))]) rfl
    refine g_aload w at_35 rfl rfl 37 rfl ?_
    refine g_virt w (argsL := []) (rest := []) (rm6 l Z a0 hw n0 b5 ar [(.int (own_b0 q)), (.int (own_bk q (8 : Int32))), (.int (own_bk q (16 : Int32))), (.int (own_bk q (24 : Int32))), (.int (own_v0 u)), (.int (own_vk u (8 : Int32))), (.int (own_vk u (16 : Int32))), (.int (own_vk u (24 : Int32)))]) at_37 0 rfl 31 rfl 32 rfl 3 rfl 35 rfl 34 rfl 33 rfl ⟨by decide, by decide⟩ pd_3 rfl rfl rfl 0 rfl (by decide) (by decide) (by decide) (by decide) 40 rfl (fun T v L w h => ?_)
    obtain ⟨rfl, hL⟩ := h
    replace w := w.to hL
    refine g_bipush w at_40 (8 : Int32) rfl 42 rfl ?_
    refine g_icmp_eq w at_42 47 (by decide) (by decide) 45 rfl (fun hc42 => ?_) (fun h => absurd (by decide) h)
    refine g_aload w at_47 rfl rfl 49 rfl ?_
    refine g_virt w (argsL := []) (rest := []) (rm7 l Z a0 hw n0 b5 ar [(.int (own_b0 q)), (.int (own_bk q (8 : Int32))), (.int (own_bk q (16 : Int32))), (.int (own_bk q (24 : Int32))), (.int (own_v0 u)), (.int (own_vk u (8 : Int32))), (.int (own_vk u (16 : Int32))), (.int (own_vk u (24 : Int32)))]) at_49 0 rfl 36 rfl 37 rfl 3 rfl 40 rfl 39 rfl 38 rfl ⟨by decide, by decide⟩ pd_4 rfl rfl rfl 0 rfl (by decide) (by decide) (by decide) (by decide) 52 rfl (fun T v L w h => ?_)
    obtain ⟨rfl, hL⟩ := h
    replace w := w.to hL
    refine g_astore w at_52 54 rfl rfl #[.val (.long q), .second, .val (.int r), .val (.int u), .val (.int (4 : Int32)), .val (.ref b5), .val (.ref ar), .unset, .unset, .unset, .unset, .unset, .unset] rfl ?_
    refine g_aload w at_54 rfl rfl 56 rfl ?_
    refine g_alen w at_56 1 rfl (8 : Int32) rfl 57 rfl ?_
    refine g_bipush w at_57 (8 : Int32) rfl 59 rfl ?_
    refine g_icmp_eq w at_59 64 (by decide) (by decide) 62 rfl (fun hc59 => ?_) (fun h => absurd (by decide) h)
    refine g_aload w at_64 rfl rfl 66 rfl ?_
    refine g_iconst w at_66 (0 : Int32) rfl 67 rfl ?_
    refine g_static w (argsL := [(.ref ar), (.int (0 : Int32))]) (rest := []) (rm8 l Z a0 hw n0 b5 ar (own_b0 q) (0 : Int32) [(.int (own_b0 q)), (.int (own_bk q (8 : Int32))), (.int (own_bk q (16 : Int32))), (.int (own_bk q (24 : Int32))), (.int (own_v0 u)), (.int (own_vk u (8 : Int32))), (.int (own_vk u (16 : Int32))), (.int (own_vk u (24 : Int32)))] 0 (by decide) rfl) at_67 41 rfl 42 rfl 43 rfl 44 rfl ⟨by decide, by decide⟩ pd_5 rfl rfl rfl 0 rfl (by decide) (by decide) (by decide) (by decide) 70 rfl (fun T v L w h => ?_)
    obtain ⟨rfl, hL⟩ := h
    replace w := w.to hL
    refine g_aload w at_70 rfl rfl 72 rfl ?_
    refine g_iconst w at_72 (1 : Int32) rfl 73 rfl ?_
    refine g_static w (argsL := [(.ref ar), (.int (1 : Int32))]) (rest := [(.long (own_u (own_b0 q) (0 : Int32)))]) (rm8 l Z a0 hw n0 b5 ar (own_bk q (8 : Int32)) (1 : Int32) [(.int (own_b0 q)), (.int (own_bk q (8 : Int32))), (.int (own_bk q (16 : Int32))), (.int (own_bk q (24 : Int32))), (.int (own_v0 u)), (.int (own_vk u (8 : Int32))), (.int (own_vk u (16 : Int32))), (.int (own_vk u (24 : Int32)))] 1 (by decide) rfl) at_73 41 rfl 42 rfl 43 rfl 44 rfl ⟨by decide, by decide⟩ pd_5 rfl rfl rfl 2 rfl (by decide) (by decide) (by decide) (by decide) 76 rfl (fun T v L w h => ?_)
    obtain ⟨rfl, hL⟩ := h
    replace w := w.to hL
    refine g_lor w at_76 77 rfl ?_
    refine g_aload w at_77 rfl rfl 79 rfl ?_
    refine g_iconst w at_79 (2 : Int32) rfl 80 rfl ?_
    refine g_static w (argsL := [(.ref ar), (.int (2 : Int32))]) (rest := [(.long ((own_u (own_b0 q) (0 : Int32)) ||| (own_u (own_bk q (8 : Int32)) (1 : Int32))))]) (rm8 l Z a0 hw n0 b5 ar (own_bk q (16 : Int32)) (2 : Int32) [(.int (own_b0 q)), (.int (own_bk q (8 : Int32))), (.int (own_bk q (16 : Int32))), (.int (own_bk q (24 : Int32))), (.int (own_v0 u)), (.int (own_vk u (8 : Int32))), (.int (own_vk u (16 : Int32))), (.int (own_vk u (24 : Int32)))] 2 (by decide) rfl) at_80 41 rfl 42 rfl 43 rfl 44 rfl ⟨by decide, by decide⟩ pd_5 rfl rfl rfl 2 rfl (by decide) (by decide) (by decide) (by decide) 83 rfl (fun T v L w h => ?_)
    obtain ⟨rfl, hL⟩ := h
    replace w := w.to hL
    refine g_lor w at_83 84 rfl ?_
    refine g_aload w at_84 rfl rfl 86 rfl ?_
    refine g_iconst w at_86 (3 : Int32) rfl 87 rfl ?_
    refine g_static w (argsL := [(.ref ar), (.int (3 : Int32))]) (rest := [(.long (((own_u (own_b0 q) (0 : Int32)) ||| (own_u (own_bk q (8 : Int32)) (1 : Int32))) ||| (own_u (own_bk q (16 : Int32)) (2 : Int32))))]) (rm8 l Z a0 hw n0 b5 ar (own_bk q (24 : Int32)) (3 : Int32) [(.int (own_b0 q)), (.int (own_bk q (8 : Int32))), (.int (own_bk q (16 : Int32))), (.int (own_bk q (24 : Int32))), (.int (own_v0 u)), (.int (own_vk u (8 : Int32))), (.int (own_vk u (16 : Int32))), (.int (own_vk u (24 : Int32)))] 3 (by decide) rfl) at_87 41 rfl 42 rfl 43 rfl 44 rfl ⟨by decide, by decide⟩ pd_5 rfl rfl rfl 2 rfl (by decide) (by decide) (by decide) (by decide) 90 rfl (fun T v L w h => ?_)
    obtain ⟨rfl, hL⟩ := h
    replace w := w.to hL
    refine g_lor w at_90 91 rfl ?_
    refine g_aload w at_91 rfl rfl 93 rfl ?_
    refine g_iconst w at_93 (4 : Int32) rfl 94 rfl ?_
    refine g_static w (argsL := [(.ref ar), (.int (4 : Int32))]) (rest := [(.long ((((own_u (own_b0 q) (0 : Int32)) ||| (own_u (own_bk q (8 : Int32)) (1 : Int32))) ||| (own_u (own_bk q (16 : Int32)) (2 : Int32))) ||| (own_u (own_bk q (24 : Int32)) (3 : Int32))))]) (rm8 l Z a0 hw n0 b5 ar (own_v0 u) (4 : Int32) [(.int (own_b0 q)), (.int (own_bk q (8 : Int32))), (.int (own_bk q (16 : Int32))), (.int (own_bk q (24 : Int32))), (.int (own_v0 u)), (.int (own_vk u (8 : Int32))), (.int (own_vk u (16 : Int32))), (.int (own_vk u (24 : Int32)))] 4 (by decide) rfl) at_94 41 rfl 42 rfl 43 rfl 44 rfl ⟨by decide, by decide⟩ pd_5 rfl rfl rfl 2 rfl (by decide) (by decide) (by decide) (by decide) 97 rfl (fun T v L w h => ?_)
    obtain ⟨rfl, hL⟩ := h
    replace w := w.to hL
    refine g_lor w at_97 98 rfl ?_
    refine g_aload w at_98 rfl rfl 100 rfl ?_
    refine g_iconst w at_100 (5 : Int32) rfl 101 rfl ?_
    refine g_static w (argsL := [(.ref ar), (.int (5 : Int32))]) (rest := [(.long (((((own_u (own_b0 q) (0 : Int32)) ||| (own_u (own_bk q (8 : Int32)) (1 : Int32))) ||| (own_u (own_bk q (16 : Int32)) (2 : Int32))) ||| (own_u (own_bk q (24 : Int32)) (3 : Int32))) ||| (own_u (own_v0 u) (4 : Int32))))]) (rm8 l Z a0 hw n0 b5 ar (own_vk u (8 : Int32)) (5 : Int32) [(.int (own_b0 q)), (.int (own_bk q (8 : Int32))), (.int (own_bk q (16 : Int32))), (.int (own_bk q (24 : Int32))), (.int (own_v0 u)), (.int (own_vk u (8 : Int32))), (.int (own_vk u (16 : Int32))), (.int (own_vk u (24 : Int32)))] 5 (by decide) rfl) at_101 41 rfl 42 rfl 43 rfl 44 rfl ⟨by decide, by decide⟩ pd_5 rfl rfl rfl 2 rfl (by decide) (by decide) (by decide) (by decide) 104 rfl (fun T v L w h => ?_)
    obtain ⟨rfl, hL⟩ := h
    replace w := w.to hL
    refine g_lor w at_104 105 rfl ?_
    refine g_aload w at_105 rfl rfl 107 rfl ?_
    refine g_bipush w at_107 (6 : Int32) rfl 109 rfl ?_
    refine g_static w (argsL := [(.ref ar), (.int (6 : Int32))]) (rest := [(.long ((((((own_u (own_b0 q) (0 : Int32)) ||| (own_u (own_bk q (8 : Int32)) (1 : Int32))) ||| (own_u (own_bk q (16 : Int32)) (2 : Int32))) ||| (own_u (own_bk q (24 : Int32)) (3 : Int32))) ||| (own_u (own_v0 u) (4 : Int32))) ||| (own_u (own_vk u (8 : Int32)) (5 : Int32))))]) (rm8 l Z a0 hw n0 b5 ar (own_vk u (16 : Int32)) (6 : Int32) [(.int (own_b0 q)), (.int (own_bk q (8 : Int32))), (.int (own_bk q (16 : Int32))), (.int (own_bk q (24 : Int32))), (.int (own_v0 u)), (.int (own_vk u (8 : Int32))), (.int (own_vk u (16 : Int32))), (.int (own_vk u (24 : Int32)))] 6 (by decide) rfl) at_109 41 rfl 42 rfl 43 rfl 44 rfl ⟨by decide, by decide⟩ pd_5 rfl rfl rfl 2 rfl (by decide) (by decide) (by decide) (by decide) 112 rfl (fun T v L w h => ?_)
    obtain ⟨rfl, hL⟩ := h
    replace w := w.to hL
    refine g_lor w at_112 113 rfl ?_
    refine g_aload w at_113 rfl rfl 115 rfl ?_
    refine g_bipush w at_115 (7 : Int32) rfl 117 rfl ?_
    refine g_static w (argsL := [(.ref ar), (.int (7 : Int32))]) (rest := [(.long (((((((own_u (own_b0 q) (0 : Int32)) ||| (own_u (own_bk q (8 : Int32)) (1 : Int32))) ||| (own_u (own_bk q (16 : Int32)) (2 : Int32))) ||| (own_u (own_bk q (24 : Int32)) (3 : Int32))) ||| (own_u (own_v0 u) (4 : Int32))) ||| (own_u (own_vk u (8 : Int32)) (5 : Int32))) ||| (own_u (own_vk u (16 : Int32)) (6 : Int32))))]) (rm8 l Z a0 hw n0 b5 ar (own_vk u (24 : Int32)) (7 : Int32) [(.int (own_b0 q)), (.int (own_bk q (8 : Int32))), (.int (own_bk q (16 : Int32))), (.int (own_bk q (24 : Int32))), (.int (own_v0 u)), (.int (own_vk u (8 : Int32))), (.int (own_vk u (16 : Int32))), (.int (own_vk u (24 : Int32)))] 7 (by decide) rfl) at_117 41 rfl 42 rfl 43 rfl 44 rfl ⟨by decide, by decide⟩ pd_5 rfl rfl rfl 2 rfl (by decide) (by decide) (by decide) (by decide) 120 rfl (fun T v L w h => ?_)
    obtain ⟨rfl, hL⟩ := h
    replace w := w.to hL
    refine g_lor w at_120 121 rfl ?_
    obtain ⟨got, hgot⟩ : ∃ own_z, own_z = (((((((((own_u (own_b0 q) (0 : Int32)) ||| (own_u (own_bk q (8 : Int32)) (1 : Int32))) ||| (own_u (own_bk q (16 : Int32)) (2 : Int32))) ||| (own_u (own_bk q (24 : Int32)) (3 : Int32))) ||| (own_u (own_v0 u) (4 : Int32))) ||| (own_u (own_vk u (8 : Int32)) (5 : Int32))) ||| (own_u (own_vk u (16 : Int32)) (6 : Int32))) ||| (own_u (own_vk u (24 : Int32)) (7 : Int32))) : Int64) := ⟨_, rfl⟩
    refine g_lstore w at_121 123 rfl hgot.symm #[.val (.long q), .second, .val (.int r), .val (.int u), .val (.int (4 : Int32)), .val (.ref b5), .val (.ref ar), .val (.long got), .second, .unset, .unset, .unset, .unset] rfl ?_
    refine g_ldcl w at_123 45 rfl 126 rfl ?_
    refine g_bipush w at_126 (8 : Int32) rfl 128 rfl ?_
    refine g_iload w at_128 rfl 130 rfl ?_
    refine g_imul w at_130 131 rfl ?_
    refine g_int (x' := (32 : Int32)) (by decide) ?_
    refine g_lshl w at_131 132 rfl ?_
    refine g_long (x' := (-4294967296 : Int64)) (by decide) ?_
    refine g_lstore w at_132 134 rfl rfl #[.val (.long q), .second, .val (.int r), .val (.int u), .val (.int (4 : Int32)), .val (.ref b5), .val (.ref ar), .val (.long got), .second, .val (.long (-4294967296 : Int64)), .second, .unset, .unset] rfl ?_
    refine g_lloadN w at_134 rfl 135 rfl ?_
    refine g_lload w at_135 rfl 137 rfl ?_
    refine g_ldcl w at_137 46 rfl 140 rfl ?_
    refine g_lxor w at_140 141 rfl ?_
    refine g_long (x' := (4294967295 : Int64)) (by decide) ?_
    refine g_land w at_141 142 rfl ?_
    refine g_iloadN w at_142 rfl 143 rfl ?_
    refine g_i2l w at_143 144 rfl ?_
    refine g_ldcl w at_144 45 rfl 147 rfl ?_
    refine g_land w at_147 148 rfl ?_
    refine g_bipush w at_148 (8 : Int32) rfl 150 rfl ?_
    refine g_iload w at_150 rfl 152 rfl ?_
    refine g_imul w at_152 153 rfl ?_
    refine g_int (x' := (32 : Int32)) (by decide) ?_
    refine g_lshl w at_153 154 rfl ?_
    refine g_lor w at_154 155 rfl ?_
    obtain ⟨ex, hex⟩ : ∃ own_z, own_z = (((q &&& (4294967295 : Int64)) ||| (shlL ((u.toInt64) &&& (4294967295 : Int64)) (32 : Int32))) : Int64) := ⟨_, rfl⟩
    refine g_lstore w at_155 157 rfl hex.symm #[.val (.long q), .second, .val (.int r), .val (.int u), .val (.int (4 : Int32)), .val (.ref b5), .val (.ref ar), .val (.long got), .second, .val (.long (-4294967296 : Int64)), .second, .val (.long ex), .second] rfl ?_
    refine g_lload w at_157 rfl 159 rfl ?_
    refine g_lload w at_159 rfl 161 rfl ?_
    refine g_lcmp w at_161 162 rfl ?_
    refine g_lif_ne w at_162 169 (by decide) (by decide) 165 rfl (fun h => absurd (by rw [hgot, hex]; exact own_law4 q u) h) (fun hc162 => ?_)
    refine g_iconst w at_165 (1 : Int32) rfl 166 rfl ?_
    refine g_goto w at_166 170 (by decide) (by decide) ?_
    exact g_iretn w (by simp) at_170 (by decide) (by decide) rfl
set_option maxRecDepth 65536 in
set_option maxHeartbeats 40000000 in
theorem comes_1 {Post : Tables → Env → Array Value → State → Outcome → State → Prop} (hpost : ∀ tb e args s v u, (limb_1_1.after args s (.returned v) u = true ∧ limb_1_2.after args s (.returned v) u = true ∧ True) → FrameEnd s (.returned v) u (Jvm.fieldLocs frame_1_writes args s ++ Jvm.arrayLocs frame_1_arrays args s ++ Jvm.staticLocs frame_1_statics s) 16 128 → Post tb e args s (.returned v) u) :
    ArmFor flags0 classFile x code maxLocals ret World_1 tables_1 room_1 Calls_1 rest_1 Pre_1 Post := by
  intro l hfl _ _ p e ha hc hk s m args below hf hA hF happ hP
  obtain ⟨hcalls, hrest, hpre⟩ := hP
  obtain ⟨-, -, -, hnamed, -, -, -, hat⟩ := (Spec.applies_iff hf).mp happ
  obtain ⟨hg, hn⟩ := and_e (Cond.before_iff.mp (show (Jvm.Cond.and given_1 narrow_1).before args s = true from hpre))
  obtain ⟨hcnt, g0⟩ := and_e hg
  obtain ⟨k0, g1⟩ := and_e g0
  obtain ⟨k1, g2⟩ := and_e g1
  have k2 := g2
  obtain ⟨w0, w1, w2, rfl⟩ : ∃ w0 w1 w2 : Value, args = #[w0, w1, w2] := by
    have hs : args.size = 3 := by simpa [Cond.value, given_1] using hcnt
    obtain ⟨L⟩ := args
    match L, hs with
    | [w0, w1, w2], _ => exact ⟨w0, w1, w2, rfl⟩
  have hw := fun d (hd : d ∈ tables_1) => atoms_spec (ws := Jvm.Cond.code x code maxLocals ret :: tables_1) hat d (List.mem_cons_of_mem _ hd)
  obtain ⟨i0, e0⟩ := isL_v k0
  obtain rfl : w0 = (.long i0) := Option.some.inj e0
  obtain ⟨i1, e1⟩ := is_v k1
  obtain rfl : w1 = (.int i1) := Option.some.inj e1
  obtain ⟨i2, e2⟩ := is_v k2
  obtain rfl : w2 = (.int i2) := Option.some.inj e2
  obtain ⟨n, o, h1, h2, h3, _, Lc, rfl, ⟨N, LL, hH, rfl⟩, hq⟩ := rm0 l s _ hw s.heap.size i0 i1 i2 tables_1 0 s.heap (Hp.nil (Old.start s) (Nat.zero_le _)) p e ha hc hk s m _ below hf ((Spec.applies_iff_loose hf).mp happ).1 ⟨rfl, State.Warmed39.refl s, rfl⟩ trivial
  exact ⟨n, _, h1, h2, h3, hpost _ _ _ _ _ _ ⟨Cond.after_iff.mpr rfl, Cond.after_iff.mpr (eq_i res_at (Term.int_eval (1)) rfl), trivial⟩ (fr_end N hq _ (by decide) (by decide))⟩
theorem main_1_1 : Claimed_1_1 := comes_1 fun _ _ _ _ _ _ h hF => ⟨h.1, hF⟩
theorem main_1_2 : Claimed_1_2 := comes_1 fun _ _ _ _ _ _ h hF => ⟨h.2.1, hF⟩
end Jvm.Pilot.@@N@@
namespace Jvm.Pilot.@@N@@
open Jvm Jvm.ClassFile Sem Op Lib Jvm.Free Jvm.Stand Jvm.Pilot.@@N@@.Jvm.D
/-! MADE BY PROGRAM (witnessworld.py) out of the Statement's table words and the real class files: 10 classes; the members and pool entries that the words name. The judged class is class 1, her method 2. -/
namespace start1
open Jvm.ClassFile
def u (s : String) : CpInfo := .utf8 (stringToUtf16 s)
/-- a pool by its gaps: so many unusable entries, then the entry; so many at the end -/
def gap : Nat → List CpInfo → List CpInfo
  | 0, r => r
  | n + 1, r => .unusable :: gap n r
def poolList (es : List (Nat × CpInfo)) (last : Nat) : List CpInfo := es.foldr (fun e r => gap e.1 (e.2 :: r)) (gap last [])
def pool (es : List (Nat × CpInfo)) (last : Nat) : Array CpInfo := ⟨poolList es last⟩
def fileOf (pool : Array CpInfo) (this : Nat) (attrs : Array Attribute := #[]) (ms : Array MethodInfo := #[]) (fl : Nat := 33) (sup : Nat := 0) (ifs : Array Nat := #[]) (fds : Array FieldInfo := #[]) : ClassFile where
  minorVersion := 0
  majorVersion := 65
  constantPool := pool
  accessFlags := fl
  thisClass := this
  superClass := sup
  interfaces := ifs
  fields := fds
  methods := ms
  attributes := attrs
def plain (name : String) (sup : Option ClassId) : Class where
  name := name
  kind := .ordinary
  loader := none
  accessFlags := 33
  super := sup
  interfaces := #[]
  cf := none
  fields := #[]
  methods := #[]
  instanceTypes := #[]
  staticTypes := #[]
  resolved := #[]
  callSites := []
  init := .initialized
  statics := none
  mirror := none

def pool0 : Array CpInfo := pool [(5, u "<init>"), (0, u "()V"), (1, .class_ 10), (1, u "java/lang/Object")] 113

def k0c0 : Code := { maxStack := 0, maxLocals := 1, code := object_method_1_code, exceptionTable := #[], attributes := #[] }
def k0m0 : Method := { name := "<init>", desc := "()V", sig := { parameters := [], returnType := none }, accessFlags := 1, code := some k0c0 }
/-- java/lang/Object -/
def k0 : Class := { plain "java/lang/Object" none with
  accessFlags := 33
  interfaces := #[]
  cf := some (fileOf pool0 8 #[] #[{ accessFlags := 1, nameIndex := 5, descriptorIndex := 6, attributes := #[] }] 33 0 #[] #[])
  fields := #[]
  methods := #[k0m0]
  instanceTypes := #[]
  staticTypes := #[]
  resolved := Array.replicate 124 none
  statics := none }

def pool1 : Array CpInfo := pool [(2, .class_ 4), (1, u "java/lang/Object"), (0, u "<init>"), (0, u "()V"), (0, .integer 2147483647), (0, .class_ 9), (0, u "tidestone/parquet/Bytes"), (0, .methodref 8 11), (0, .nameAndType 5 12), (0, u "(II)V"), (0, .methodref 8 14), (0, .nameAndType 15 16), (0, u "writeLongLe"), (0, u "(J)V"), (0, .methodref 8 18), (0, .nameAndType 19 12), (0, u "setIntLe"), (0, .methodref 8 21), (0, .nameAndType 22 23), (0, u "size"), (0, u "()I"), (0, .methodref 8 25), (0, .nameAndType 26 27), (0, u "array"), (0, u "()[B"), (0, .methodref 29 30), (0, .class_ 31), (0, .nameAndType 32 33), (0, u "tidestone/parquet/BytesSetIntLePinLaw"), (0, u "u"), (0, u "([BI)J"), (0, .long 4294967295), (1, .long 18446744073709551615), (3, u "law"), (0, u "(JII)Z")] 5

def k1m0 : Method := { name := "<init>", desc := "()V", sig := { parameters := [], returnType := none }, accessFlags := 1, code := none }
def k1c1 : Code := { maxStack := 4, maxLocals := 2, code := method_2_code, exceptionTable := #[], attributes := #[] }
def k1m1 : Method := { name := "u", desc := "([BI)J", sig := { parameters := [(.array .byte), .int], returnType := some .long }, accessFlags := 10, code := some k1c1 }
def k1c2 : Code := { maxStack := 6, maxLocals := 13, code := code, exceptionTable := #[], attributes := #[] }
def k1m2 : Method := { name := "law", desc := "(JII)Z", sig := { parameters := [.long, .int, .int], returnType := some .boolean }, accessFlags := 9, code := some k1c2 }
/-- tidestone/parquet/BytesSetIntLePinLaw -/
def k1 : Class := { plain "tidestone/parquet/BytesSetIntLePinLaw" (some 0) with
  accessFlags := 49
  interfaces := #[]
  cf := some (fileOf pool1 29 #[] #[{ accessFlags := 1, nameIndex := 5, descriptorIndex := 6, attributes := #[] }, { accessFlags := 10, nameIndex := 32, descriptorIndex := 33, attributes := #[] }, { accessFlags := 9, nameIndex := 40, descriptorIndex := 41, attributes := #[] }] 49 2 #[] #[])
  fields := #[]
  methods := #[k1m0, k1m1, k1m2]
  instanceTypes := #[]
  staticTypes := #[]
  resolved := Array.replicate 47 none
  statics := none }

def pool2 : Array CpInfo := pool [(1, .class_ 2), (0, u "tidestone/encoding/Varint$Sink"), (0, .class_ 4), (0, u "java/lang/Object"), (5, .class_ 11), (0, u "tidestone/encoding/Varint")] 2

/-- tidestone/encoding/Varint$Sink -/
def k2 : Class := { plain "tidestone/encoding/Varint$Sink" (some 0) with
  accessFlags := 1537
  interfaces := #[]
  cf := some (fileOf pool2 1 #[.nestHost 10] #[] 1537 3 #[] #[])
  fields := #[]
  methods := #[]
  instanceTypes := #[]
  staticTypes := #[]
  resolved := Array.replicate 14 none
  statics := none }

def pool3 : Array CpInfo := pool [(5, .class_ 7), (1, u "tidestone/parquet/Bytes"), (0, u "<init>"), (0, u "(II)V"), (0, .methodref 11 12), (0, .class_ 13), (0, .nameAndType 8 14), (0, u "java/lang/Object"), (0, u "()V"), (0, .fieldref 5 16), (0, .nameAndType 17 18), (0, u "array"), (0, u "[B"), (0, .fieldref 5 20), (0, .nameAndType 21 22), (0, u "doubledUpTo"), (0, u "I"), (2, u "(I)V"), (0, .fieldref 5 27), (0, .nameAndType 28 22), (0, u "size"), (8, .methodref 5 38), (0, .nameAndType 39 25), (0, u "ensure"), (12, u "setIntLe"), (10, .long 2), (10, .long 2147483639), (8, .class_ 84), (0, u "tidestone/encoding/Varint$Sink"), (0, u "ARRAY_HEADER_BYTES"), (6, u "()I"), (0, u "()[B"), (8, u "writeLongLe"), (0, u "(J)V")] 11

def k3c0 : Code := { maxStack := 2, maxLocals := 3, code := prog_73_method_2_code, exceptionTable := #[], attributes := #[] }
def k3m0 : Method := { name := "<init>", desc := "(II)V", sig := { parameters := [.int, .int], returnType := none }, accessFlags := 0, code := some k3c0 }
def k3c1 : Code := { maxStack := 1, maxLocals := 1, code := prog_73_method_4_code, exceptionTable := #[], attributes := #[] }
def k3m1 : Method := { name := "size", desc := "()I", sig := { parameters := [], returnType := some .int }, accessFlags := 0, code := some k3c1 }
def k3c2 : Code := { maxStack := 1, maxLocals := 1, code := prog_73_method_5_code, exceptionTable := #[], attributes := #[] }
def k3m2 : Method := { name := "array", desc := "()[B", sig := { parameters := [], returnType := some (.array .byte) }, accessFlags := 0, code := some k3c2 }
def k3c3 : Code := { maxStack := 5, maxLocals := 5, code := prog_73_method_14_code, exceptionTable := #[], attributes := #[] }
def k3m3 : Method := { name := "writeLongLe", desc := "(J)V", sig := { parameters := [.long], returnType := none }, accessFlags := 0, code := some k3c3 }
def k3c4 : Code := { maxStack := 4, maxLocals := 4, code := prog_73_method_15_code, exceptionTable := #[], attributes := #[] }
def k3m4 : Method := { name := "setIntLe", desc := "(II)V", sig := { parameters := [.int, .int], returnType := none }, accessFlags := 0, code := some k3c4 }
def k3c5 : Code := { maxStack := 6, maxLocals := 4, code := prog_73_method_18_code, exceptionTable := #[], attributes := #[] }
def k3m5 : Method := { name := "ensure", desc := "(I)V", sig := { parameters := [.int], returnType := none }, accessFlags := 2, code := some k3c5 }
/-- tidestone/parquet/Bytes -/
def k3 : Class := { plain "tidestone/parquet/Bytes" (some 0) with
  accessFlags := 48
  interfaces := #[2]
  cf := some (fileOf pool3 5 #[] #[{ accessFlags := 0, nameIndex := 8, descriptorIndex := 9, attributes := #[] }, { accessFlags := 0, nameIndex := 28, descriptorIndex := 92, attributes := #[] }, { accessFlags := 0, nameIndex := 17, descriptorIndex := 93, attributes := #[] }, { accessFlags := 0, nameIndex := 102, descriptorIndex := 103, attributes := #[] }, { accessFlags := 0, nameIndex := 52, descriptorIndex := 9, attributes := #[] }, { accessFlags := 2, nameIndex := 39, descriptorIndex := 25, attributes := #[] }] 48 11 #[83] #[{ accessFlags := 24, nameIndex := 85, descriptorIndex := 22, attributes := #[] }, { accessFlags := 2, nameIndex := 17, descriptorIndex := 18, attributes := #[] }, { accessFlags := 2, nameIndex := 28, descriptorIndex := 22, attributes := #[] }, { accessFlags := 18, nameIndex := 21, descriptorIndex := 22, attributes := #[] }])
  fields := #[{ name := "ARRAY_HEADER_BYTES", type := .int, accessFlags := 24, slot := 0, constantValue := 0 }, { name := "array", type := (.array .byte), accessFlags := 2, slot := 0, constantValue := 0 }, { name := "size", type := .int, accessFlags := 2, slot := 1, constantValue := 0 }, { name := "doubledUpTo", type := .int, accessFlags := 18, slot := 2, constantValue := 0 }]
  methods := #[k3m0, k3m1, k3m2, k3m3, k3m4, k3m5]
  instanceTypes := #[(.array .byte), .int, .int]
  staticTypes := #[.int]
  resolved := Array.replicate 115 none
  statics := none }

def pool4 : Array CpInfo := pool [(1, u "java/lang/Cloneable"), (0, .class_ 1), (0, u "java/lang/Object"), (0, .class_ 3)] 3

/-- java/lang/Cloneable -/
def k4 : Class := { plain "java/lang/Cloneable" (some 0) with
  accessFlags := 1537
  interfaces := #[]
  cf := some (fileOf pool4 2 #[] #[] 1537 4 #[] #[])
  fields := #[]
  methods := #[]
  instanceTypes := #[]
  staticTypes := #[]
  resolved := Array.replicate 8 none
  statics := none }

def pool5 : Array CpInfo := pool [(1, u "java/io/Serializable"), (0, .class_ 1), (0, u "java/lang/Object"), (0, .class_ 3)] 3

/-- java/io/Serializable -/
def k5 : Class := { plain "java/io/Serializable" (some 0) with
  accessFlags := 1537
  interfaces := #[]
  cf := some (fileOf pool5 2 #[] #[] 1537 4 #[] #[])
  fields := #[]
  methods := #[]
  instanceTypes := #[]
  staticTypes := #[]
  resolved := Array.replicate 8 none
  statics := none }

/-- the primitive byte -/
def k6 : Class := { plain "byte" none with kind := .primitive 'B', accessFlags := 0x411 }
/-- [B -/
def k7 : Class := { plain "[B" (some 0) with kind := .array 6 .byte, interfaces := #[4, 5], accessFlags := 1041 }

/-- the primitive int -/
def k8 : Class := { plain "int" none with kind := .primitive 'I', accessFlags := 0x411 }
/-- [I -/
def k9 : Class := { plain "[I" (some 0) with kind := .array 8 .int, interfaces := #[4, 5], accessFlags := 1041 }

def heap : Heap := #[]
def classes : Array Class := #[k0, k1, k2, k3, k4, k5, k6, k7, k8, k9]
def interned : List (Array UInt16 × Addr) := []
def slotsUsed : Nat := 0
def theMethod : MethodId := ⟨1, 2⟩
def args0 : Array Value := #[.long 53, .int 5, .int 9]
def aboutOver (below : List Frame) : State where
  vm := { classes := classes, interned := interned.toArray }
  heap := heap
  slotsUsed := slotsUsed
  threads := #[{ frames := .invoking theMethod args0 :: below }]
def below0 : List Frame := [.native { method := ⟨0, 0⟩, args := #[] }]
def about1 : State := aboutOver below0
def p0 : Program := .bare "" "" ""
def e0 : Env := launch0.env 0 0 0
theorem w_frames : about1.frames = Frame.invoking theMethod args0 :: below0 := rfl
set_option maxRecDepth 65536 in
theorem w_args : argsFit about1.vm theMethod args0 = true := by decide +kernel
set_option maxRecDepth 65536 in
theorem w_heap : heapFits about1 = true := by decide +kernel
set_option maxRecDepth 65536 in
theorem w_runnable : about1.curStatus? = some .runnable := by decide +kernel
set_option maxRecDepth 65536 in
theorem w_alone : about1.alone = true := by decide +kernel
set_option maxRecDepth 65536 in
theorem w_named : about1.methodNamed? x = some theMethod := by decide +kernel
set_option maxRecDepth 65536 in
theorem w_hears : about1.hears theMethod below0 = true := by decide +kernel
set_option maxRecDepth 65536 in
theorem w_ripe : about1.ripe theMethod args0 below0 = true := by decide +kernel
theorem w_running : about1.status = .running := rfl
set_option maxRecDepth 65536 in
theorem w_room : about1.hasRoom e0.platform room_1 = true :=
  launch0.hasRoom_least _ room_1 (by decide +kernel) (by decide +kernel) (by decide +kernel) (by decide +kernel) (by decide +kernel) (by decide +kernel)
theorem allAtoms_all (ts : List Jvm.Cond) (a : Array Jvm.Value) (st : Jvm.State) : (allAtoms ts).before a st = ts.all (fun c => c.before a st) := by
  induction ts with
  | nil => rfl
  | cons c t ih =>
    show (Jvm.Cond.and c (allAtoms t)).before a st = _
    rw [Jvm.Cond.before_and, ih, List.all_cons]
def words1 : List Jvm.Cond := Jvm.Cond.code x code maxLocals ret :: tables_1
/-- a 'code' word, met by the world's own term for the bytes: nothing is compared byte by byte -/
theorem code_word {y : MethodName} {bytes : ByteArray} {mx : Nat} {rt : Option FieldType} {a : Array Value} {s : State} {m : MethodId} {meth : Method} {c : Code} (h1 : s.methodNamed? y = some m) (h2 : s.vm.method? m = some meth) (h3 : meth.code = some c) (h4 : c.code = bytes)
    (h5 : (c.maxLocals == mx && c.exceptionTable.isEmpty && decide (c.maxStack ≤ mostOperands) && decide (meth.sig.returnType = rt) && !meth.locks && decide (parseMethodDescriptor y.desc = some meth.sig)) = true) : (Jvm.Cond.code y bytes mx rt).before a s = true := by
  simp only [Bool.and_eq_true, beq_iff_eq, Bool.not_eq_true', decide_eq_true_eq] at h5
  obtain ⟨⟨⟨⟨⟨g1, g2⟩, g3⟩, g4⟩, g5⟩, g6⟩ := h5
  simp [Cond.before, Cond.holds, Cond.value, h1, h2, h3, h4, g1, g2, g3, g4, g5, g6]
def isCode : Jvm.Cond → Bool
  | .code _ _ _ _ => true
  | _ => false
theorem all_split {L : List Jvm.Cond} {P : Jvm.Cond → Bool} (h1 : L.all (fun c => isCode c || P c) = true) (h2 : ∀ c ∈ L.filter isCode, P c = true) : L.all P = true := by
  refine List.all_eq_true.mpr fun c hc => ?_
  have h := List.all_eq_true.mp h1 c hc
  rcases Bool.eq_false_or_eq_true (isCode c) with hi | hi
  · exact h2 c (List.mem_filter.mpr ⟨hc, hi⟩)
  · simpa [hi] using h
set_option maxRecDepth 65536 in
theorem w_c0 : (Jvm.Cond.code x code maxLocals ret).before args0 about1 = true := code_word (m := ⟨1, 2⟩) (meth := k1m2) (c := k1c2) (by decide +kernel) rfl rfl rfl (by decide +kernel)
set_option maxRecDepth 65536 in
theorem w_c1 : (Jvm.Cond.code ({ cls := "tidestone/parquet/Bytes", name := "<init>", desc := "(II)V" } : Jvm.MethodName) prog_73_method_2_code (3 : Nat) (Option.none : Option Jvm.ClassFile.FieldType)).before args0 about1 = true := code_word (m := ⟨3, 0⟩) (meth := k3m0) (c := k3c0) (by decide +kernel) rfl rfl rfl (by decide +kernel)
set_option maxRecDepth 65536 in
theorem w_c2 : (Jvm.Cond.code ({ cls := "java/lang/Object", name := "<init>", desc := "()V" } : Jvm.MethodName) object_method_1_code (1 : Nat) (Option.none : Option Jvm.ClassFile.FieldType)).before args0 about1 = true := code_word (m := ⟨0, 0⟩) (meth := k0m0) (c := k0c0) (by decide +kernel) rfl rfl rfl (by decide +kernel)
set_option maxRecDepth 65536 in
theorem w_c3 : (Jvm.Cond.code ({ cls := "tidestone/parquet/Bytes", name := "writeLongLe", desc := "(J)V" } : Jvm.MethodName) prog_73_method_14_code (5 : Nat) (Option.none : Option Jvm.ClassFile.FieldType)).before args0 about1 = true := code_word (m := ⟨3, 3⟩) (meth := k3m3) (c := k3c3) (by decide +kernel) rfl rfl rfl (by decide +kernel)
set_option maxRecDepth 65536 in
theorem w_c4 : (Jvm.Cond.code ({ cls := "tidestone/parquet/Bytes", name := "ensure", desc := "(I)V" } : Jvm.MethodName) prog_73_method_18_code (4 : Nat) (Option.none : Option Jvm.ClassFile.FieldType)).before args0 about1 = true := code_word (m := ⟨3, 5⟩) (meth := k3m5) (c := k3c5) (by decide +kernel) rfl rfl rfl (by decide +kernel)
set_option maxRecDepth 65536 in
theorem w_c5 : (Jvm.Cond.code ({ cls := "tidestone/parquet/Bytes", name := "setIntLe", desc := "(II)V" } : Jvm.MethodName) prog_73_method_15_code (4 : Nat) (Option.none : Option Jvm.ClassFile.FieldType)).before args0 about1 = true := code_word (m := ⟨3, 4⟩) (meth := k3m4) (c := k3c4) (by decide +kernel) rfl rfl rfl (by decide +kernel)
set_option maxRecDepth 65536 in
theorem w_c6 : (Jvm.Cond.code ({ cls := "tidestone/parquet/Bytes", name := "size", desc := "()I" } : Jvm.MethodName) prog_73_method_4_code (1 : Nat) (Option.some Jvm.ClassFile.FieldType.int)).before args0 about1 = true := code_word (m := ⟨3, 1⟩) (meth := k3m1) (c := k3c1) (by decide +kernel) rfl rfl rfl (by decide +kernel)
set_option maxRecDepth 65536 in
theorem w_c7 : (Jvm.Cond.code ({ cls := "tidestone/parquet/Bytes", name := "array", desc := "()[B" } : Jvm.MethodName) prog_73_method_5_code (1 : Nat) (Option.some (Jvm.ClassFile.FieldType.array Jvm.ClassFile.FieldType.byte))).before args0 about1 = true := code_word (m := ⟨3, 2⟩) (meth := k3m2) (c := k3c2) (by decide +kernel) rfl rfl rfl (by decide +kernel)
set_option maxRecDepth 65536 in
theorem w_c8 : (Jvm.Cond.code ({ cls := "tidestone/parquet/BytesSetIntLePinLaw", name := "u", desc := "([BI)J" } : Jvm.MethodName) method_2_code (2 : Nat) (Option.some Jvm.ClassFile.FieldType.long)).before args0 about1 = true := code_word (m := ⟨1, 1⟩) (meth := k1m1) (c := k1c1) (by decide +kernel) rfl rfl rfl (by decide +kernel)
def codes1 : List Jvm.Cond := [Jvm.Cond.code x code maxLocals ret, Jvm.Cond.code ({ cls := "tidestone/parquet/Bytes", name := "<init>", desc := "(II)V" } : Jvm.MethodName) prog_73_method_2_code (3 : Nat) (Option.none : Option Jvm.ClassFile.FieldType), Jvm.Cond.code ({ cls := "java/lang/Object", name := "<init>", desc := "()V" } : Jvm.MethodName) object_method_1_code (1 : Nat) (Option.none : Option Jvm.ClassFile.FieldType), Jvm.Cond.code ({ cls := "tidestone/parquet/Bytes", name := "writeLongLe", desc := "(J)V" } : Jvm.MethodName) prog_73_method_14_code (5 : Nat) (Option.none : Option Jvm.ClassFile.FieldType), Jvm.Cond.code ({ cls := "tidestone/parquet/Bytes", name := "ensure", desc := "(I)V" } : Jvm.MethodName) prog_73_method_18_code (4 : Nat) (Option.none : Option Jvm.ClassFile.FieldType), Jvm.Cond.code ({ cls := "tidestone/parquet/Bytes", name := "setIntLe", desc := "(II)V" } : Jvm.MethodName) prog_73_method_15_code (4 : Nat) (Option.none : Option Jvm.ClassFile.FieldType), Jvm.Cond.code ({ cls := "tidestone/parquet/Bytes", name := "size", desc := "()I" } : Jvm.MethodName) prog_73_method_4_code (1 : Nat) (Option.some Jvm.ClassFile.FieldType.int), Jvm.Cond.code ({ cls := "tidestone/parquet/Bytes", name := "array", desc := "()[B" } : Jvm.MethodName) prog_73_method_5_code (1 : Nat) (Option.some (Jvm.ClassFile.FieldType.array Jvm.ClassFile.FieldType.byte)), Jvm.Cond.code ({ cls := "tidestone/parquet/BytesSetIntLePinLaw", name := "u", desc := "([BI)J" } : Jvm.MethodName) method_2_code (2 : Nat) (Option.some Jvm.ClassFile.FieldType.long)]
set_option maxRecDepth 65536 in
theorem codes_eq : words1.filter isCode = codes1 := rfl
theorem w_codes : ∀ c ∈ words1.filter isCode, c.before args0 about1 = true := by
  rw [codes_eq]
  intro c hc
  simp only [codes1, List.mem_cons, List.not_mem_nil, or_false] at hc
  rcases hc with rfl | rfl | rfl | rfl | rfl | rfl | rfl | rfl | rfl
  · exact w_c0
  · exact w_c1
  · exact w_c2
  · exact w_c3
  · exact w_c4
  · exact w_c5
  · exact w_c6
  · exact w_c7
  · exact w_c8
set_option maxRecDepth 65536 in
theorem w_t1 : (words1.take 24).all (fun c => isCode c || c.before args0 about1) = true := by decide +kernel
set_option maxRecDepth 65536 in
theorem w_t2 : ((words1.drop 24).take 24).all (fun c => isCode c || c.before args0 about1) = true := by decide +kernel
set_option maxRecDepth 65536 in
theorem w_t3 : ((words1.drop 24).drop 24).all (fun c => isCode c || c.before args0 about1) = true := by decide +kernel
theorem w_tables : (allAtoms (Jvm.Cond.code x code maxLocals ret :: tables_1)).before args0 about1 = true := by
  rw [allAtoms_all]
  show words1.all (fun c => c.before args0 about1) = true
  refine all_split ?_ w_codes
  rw [← List.take_append_drop 24 words1, List.all_append, w_t1, ← List.take_append_drop 24 (words1.drop 24), List.all_append, w_t2, w_t3]
  rfl
set_option maxRecDepth 65536 in
theorem w_case : (Jvm.Cond.and given_1 narrow_1).before args0 about1 = true := by decide +kernel
theorem w_applies : (headSpec (Jvm.Cond.code x code maxLocals ret :: tables_1) room_1).applies x e0.platform about1 = true :=
  (Spec.applies_iff w_frames).mpr ⟨w_running, w_runnable, w_alone, w_named, w_hears, w_ripe, w_room, w_tables⟩
theorem atStart : AtStart classFile x code maxLocals ret World_1 tables_1 room_1 Calls_1 rest_1 Pre_1 launch0 p0 e0 about1 theMethod args0 below0 :=
  ⟨lists_1, trivial, launch0.admits_env _ _ _, launch0.least_env, fairChoices_fair.cas, fairChoices_fair.clock, w_frames, w_args, w_heap, w_applies, trivial, trivial, w_case⟩
end start1
theorem witness_1 : WitnessClaimed_1 := ⟨start1.p0, start1.e0, start1.about1, start1.theMethod, start1.args0, start1.below0, start1.atStart⟩
end Jvm.Pilot.@@N@@
