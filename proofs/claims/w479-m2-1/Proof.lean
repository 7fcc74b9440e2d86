import JvmDerived
import JvmDerived.Pilot.@@N@@Statement
import JvmDerived.Pilot.@@N@@Code
set_option linter.unusedVariables false
set_option linter.unusedSimpArgs false
namespace Jvm.OwnW
open Jvm Jvm.ClassFile Sem Op Lib Jvm.Free Jvm.Stand Jvm.LawKit Jvm.RoadKit
/-! ## shifts -/
def ushrI (x y : Int32) : Int32 := (x.toUInt32 >>> (y &&& 31).toUInt32).toInt32
def shlL (x : Int64) (y : Int32) : Int64 := x <<< (y &&& 0x3f).toInt64
def shrL (x : Int64) (y : Int32) : Int64 := x >>> (y &&& 0x3f).toInt64
def ushrL (x : Int64) (y : Int32) : Int64 := (x.toUInt64 >>> (y &&& 0x3f).toInt64.toUInt64).toInt64
theorem ushrI_c (x q : Int32) (k : Nat) (hk : q.toBitVec.toNat % 32 = k) (h0 : 0 < k) : (ushrI x q).toInt = (x.toInt % 4294967296) / (2 ^ k : Nat) := c_iushr x q k hk h0
theorem shlL_c (x : Int64) (q : Int32) (k : Nat) (hk : q.toBitVec.toNat % 64 = k) : ((shlL x q).toInt - x.toInt * (2 ^ k : Nat)) % 18446744073709551616 = 0 := c_lshl x q k hk
theorem shrL_c (x : Int64) (q : Int32) (k : Nat) (hk : q.toBitVec.toNat % 64 = k) : (shrL x q).toInt = x.toInt / (2 ^ k : Nat) := c_lshr x q k hk
theorem ushrL_c (x : Int64) (q : Int32) (k : Nat) (hk : q.toBitVec.toNat % 64 = k) (h0 : 0 < k) : (ushrL x q).toInt = (x.toInt % 18446744073709551616) / (2 ^ k : Nat) := c_lushr x q k hk h0
theorem ushrL_0 (x : Int64) : ushrL x 0 = x := by
  show (x.toUInt64 >>> (0 : UInt64)).toInt64 = x
  simp
/-! ## what the walk's own cells hold -/
/-- a field: the class that declares it, its name, its descriptor, its value -/
abbrev FldE := String × String × String × Value
/-- an object (its class, its fields) or an array (its component's kind, its values) -/
abbrev Obj := (String × List FldE) ⊕ (FieldType × List Value)
abbrev HL := List (Addr × Obj)
def Is (Z : State) (h : Heap) (a : Addr) : Obj → Prop
  | .inl (C, fs) => Exa Z h a C ∧ (∀ f ∈ fs, Fld Z h a f.1 f.2.1 f.2.2.1 f.2.2.2) ∧ fs.Pairwise fun f g => RoadKit.slotOf Z f.1 f.2.1 f.2.2.1 ≠ RoadKit.slotOf Z g.1 g.2.1 g.2.2.1
  | .inr (ty, vs) => ∃ c : Cell, Arr Z h a c ty ∧ Exa Z h a ("[" ++ ty.toString) ∧ c.slots.toList = vs ∧ vs.length < 2 ^ 31
def Hp (Z : State) (n0 kb : Nat) (h : Heap) (L : HL) : Prop :=
  (Old Z n0 h ∧ kb ≤ h.size) ∧ (∀ (i : Nat) (a : Addr) (o : Obj), L[i]? = some (a, o) → n0 ≤ a ∧ Is Z h a o) ∧ ∀ (i j : Nat) (a : Addr) (o o' : Obj), L[i]? = some (a, o) → L[j]? = some (a, o') → i = j
section Heaps
variable {Z : State} {a0 : Array Value} {n0 kb : Nat} {h h' : Heap} {a b : Addr} {o : Obj} {L : HL}
theorem Is.lt (F : Is Z h a o) : a < h.size := by
  rcases o with ⟨C, fs⟩ | ⟨ty, vs⟩
  · exact F.1.lt
  · obtain ⟨c, A, -⟩ := F; exact A.lt
theorem Is.ext (F : Is Z h a o) (E : Ext h h') : Is Z h' a o := by
  rcases o with ⟨C, fs⟩ | ⟨ty, vs⟩
  · exact ⟨F.1.ext E, fun f hf => (F.2.1 f hf).ext E, F.2.2⟩
  · obtain ⟨c, A, X, r⟩ := F; exact ⟨c, A.ext E, X.ext E, r⟩
theorem Is.other {sl : Nat} {v : Value} (F : Is Z h b o) (W : Wr h h' a sl v) (q : b ≠ a) : Is Z h' b o := by
  rcases o with ⟨C, fs⟩ | ⟨ty, vs⟩
  · exact ⟨F.1.wr W, fun f hf => (F.2.1 f hf).other W (Or.inl q), F.2.2⟩
  · obtain ⟨c, A, X, r⟩ := F; exact ⟨c, A.other W q, X.wr W, r⟩
theorem Hp.nil (O : Old Z n0 h) (hk : kb ≤ h.size) : Hp Z n0 kb h [] := ⟨⟨O, hk⟩, fun i a o q => by simp at q, fun i j a o o' q => by simp at q⟩
theorem Hp.at (H : Hp Z n0 kb h L) {i : Nat} (q : L[i]? = some (a, o)) : Is Z h a o := (H.2.1 i a o q).2
theorem Hp.obj {C : String} {fs : List FldE} (H : Hp Z n0 kb h L) {i : Nat} (q : L[i]? = some (a, .inl (C, fs))) : Exa Z h a C ∧ (∀ f ∈ fs, Fld Z h a f.1 f.2.1 f.2.2.1 f.2.2.2) ∧ fs.Pairwise fun f g => RoadKit.slotOf Z f.1 f.2.1 f.2.2.1 ≠ RoadKit.slotOf Z g.1 g.2.1 g.2.2.1 := (H.2.1 i a _ q).2
theorem Hp.arr {ty : FieldType} {vs : List Value} (H : Hp Z n0 kb h L) {i : Nat} (q : L[i]? = some (a, .inr (ty, vs))) : ∃ c : Cell, Arr Z h a c ty ∧ Exa Z h a ("[" ++ ty.toString) ∧ c.slots.toList = vs ∧ vs.length < 2 ^ 31 := (H.2.1 i a _ q).2
theorem Hp.ge (H : Hp Z n0 kb h L) {i : Nat} (q : L[i]? = some (a, o)) : n0 ≤ a := (H.2.1 i a o q).1
theorem Hp.push (H : Hp Z n0 kb h L) (E : Ext h h') (hn : n0 ≤ h.size) (F : Is Z h' h.size o) : Hp Z n0 kb h' (L ++ [(h.size, o)]) := by
  have lt : ∀ {i : Nat} {b : Addr} {o' : Obj}, (L ++ [(h.size, o)])[i]? = some (b, o') → (i < L.length ∧ L[i]? = some (b, o') ∧ b < h.size) ∨ (i = L.length ∧ b = h.size ∧ o' = o) := by
    intro i b o' q
    by_cases hi : i < L.length
    · rw [List.getElem?_append_left hi] at q
      exact Or.inl ⟨hi, q, (H.at q).lt⟩
    · rw [List.getElem?_append_right (Nat.le_of_not_lt hi)] at q
      have : i - L.length = 0 := by
        cases hk : i - L.length with
        | zero => rfl
        | succ k => rw [hk] at q; simp at q
      rw [this] at q
      simp at q
      exact Or.inr ⟨by omega, q.1.symm, q.2.symm⟩
  refine ⟨⟨H.1.1.ext E, Nat.le_trans H.1.2 E.1⟩, fun i b o' q => ?_, fun i j b o1 o2 q1 q2 => ?_⟩
  · rcases lt q with ⟨-, q', -⟩ | ⟨-, rfl, rfl⟩
    · exact ⟨H.ge q', (H.at q').ext E⟩
    · exact ⟨hn, F⟩
  · rcases lt q1 with ⟨-, q1', r1⟩ | ⟨e1, r1, -⟩ <;> rcases lt q2 with ⟨-, q2', r2⟩ | ⟨e2, r2, -⟩
    · exact H.2.2 i j b o1 o2 q1' q2'
    · exact absurd r2 (Nat.ne_of_lt r1)
    · exact absurd r1 (Nat.ne_of_lt r2)
    · exact e1.trans e2.symm
theorem Hp.size (H : Hp Z n0 kb h L) : n0 ≤ h.size := H.1.1.1 ▸ H.1.1.2.1
theorem Hp.lower {kb' : Nat} (H : Hp Z n0 kb h L) (q : kb' ≤ h.size) : Hp Z n0 kb' h L := ⟨⟨H.1.1, q⟩, H.2⟩
theorem Hp.put {sl : Nat} {v : Value} {o' : Obj} (H : Hp Z n0 kb h L) {i : Nat} (q : L[i]? = some (a, o)) (W : Wr h h' a sl v) (F : Is Z h' a o') : Hp Z n0 kb h' (L.set i (a, o')) := by
  have at' : ∀ {j : Nat} {b : Addr} {o2 : Obj}, (L.set i (a, o'))[j]? = some (b, o2) → (j = i ∧ b = a ∧ o2 = o') ∨ (j ≠ i ∧ L[j]? = some (b, o2)) := by
    intro j b o2 r
    by_cases hj : j = i
    · subst hj
      rw [List.getElem?_set_self (List.getElem?_eq_some_iff.mp q).1] at r
      simp at r
      exact Or.inl ⟨rfl, r.1.symm, r.2.symm⟩
    · rw [List.getElem?_set_ne (Ne.symm hj)] at r
      exact Or.inr ⟨hj, r⟩
  refine ⟨⟨H.1.1.wr W (H.ge q), by rw [W.size]; exact H.1.2⟩, fun j b o2 r => ?_, fun j j' b o1 o2 r1 r2 => ?_⟩
  · rcases at' r with ⟨rfl, rfl, rfl⟩ | ⟨hj, r'⟩
    · exact ⟨H.ge q, F⟩
    · exact ⟨H.ge r', (H.at r').other W fun e => hj (by subst e; exact H.2.2 _ _ _ _ _ r' q)⟩
  · rcases at' r1 with ⟨rfl, rfl, rfl⟩ | ⟨n1, r1'⟩ <;> rcases at' r2 with ⟨rfl, e2, -⟩ | ⟨n2, r2'⟩
    · rfl
    · exact absurd (H.2.2 _ _ _ _ _ r2' q) n2
    · subst e2; exact absurd (H.2.2 _ _ _ _ _ r1' q) n1
    · exact H.2.2 _ _ _ _ _ r1' r2'
theorem Is.field {C : String} {fs : List FldE} {j : Nat} {O n d : String} {v w : Value} (F : Is Z h a (.inl (C, fs))) (q : fs[j]? = some (O, n, d, w)) (W : Wr h h' a (RoadKit.slotOf Z O n d) v) : Is Z h' a (.inl (C, fs.set j (O, n, d, v))) := by
  obtain ⟨E, A, D⟩ := F
  obtain ⟨hj, e⟩ := List.getElem?_eq_some_iff.mp q
  have nth : ∀ k g, k ≠ j → fs[k]? = some g → RoadKit.slotOf Z g.1 g.2.1 g.2.2.1 ≠ RoadKit.slotOf Z O n d := by
    intro k g hk r
    obtain ⟨hk', e'⟩ := List.getElem?_eq_some_iff.mp r
    rw [List.pairwise_iff_getElem] at D
    rcases Nat.lt_or_gt_of_ne hk with u | u
    · have := D k j hk' hj u; rw [e, e'] at this; exact this
    · have := D j k hj hk' u; rw [e, e'] at this; exact Ne.symm this
  refine ⟨E.wr W, fun f hf => ?_, ?_⟩
  · obtain ⟨k, hk, ek⟩ := List.mem_iff_getElem.mp hf
    by_cases hkj : k = j
    · subst hkj
      have : f = (O, n, d, v) := by rw [← ek]; simp
      subst this
      exact (A (O, n, d, w) (List.mem_of_getElem? q)).same W
    · have r : fs[k]? = some f := by
        have : (fs.set j (O, n, d, v))[k]? = some f := List.getElem?_eq_some_iff.mpr ⟨hk, ek⟩
        rwa [List.getElem?_set_ne (Ne.symm hkj)] at this
      exact (A f (List.mem_of_getElem? r)).other W (Or.inr (nth k f hkj r))
  · have em : (fs.set j (O, n, d, v)).map (fun f => RoadKit.slotOf Z f.1 f.2.1 f.2.2.1) = fs.map (fun f => RoadKit.slotOf Z f.1 f.2.1 f.2.2.1) := by
      rw [List.map_set]
      refine List.ext_getElem? fun k => ?_
      by_cases hkj : j = k
      · subst hkj
        rw [List.getElem?_set_self (by simpa using hj)]
        simp [q]
      · rw [List.getElem?_set_ne hkj]
    have D' : (fs.map (fun f => RoadKit.slotOf Z f.1 f.2.1 f.2.2.1)).Pairwise (· ≠ ·) := List.pairwise_map.mpr D
    rw [← em] at D'
    exact List.pairwise_map.mp D'
theorem Is.elem {ty : FieldType} {vs : List Value} {v : Value} {c : Cell} (A : Arr Z h a c ty) (X : Exa Z h a ("[" ++ ty.toString)) (e : c.slots.toList = vs) (hl : vs.length < 2 ^ 31) {j : Nat} (W : Wr h h' a j v) : Is Z h' a (.inr (ty, vs.set j v)) :=
  ⟨c.setSlot j v, A.same W, X.wr W, by subst e; simp [Cell.setSlot], by simpa using hl⟩
/-- the fields of a fresh object -/
def FOk (Z : State) (a0 : Array Value) (C : String) : List FldE → Prop
  | [] => True
  | (O, n, d, v) :: r => Laid Z a0 C O n d ∧ (∃ ty, parseFieldDescriptor d = some ty ∧ v = defaultValue ty) ∧ FOk Z a0 C r
theorem FOk.cons {C O n d : String} {v : Value} {ty : FieldType} {r : List FldE} (l : Laid Z a0 C O n d) (p : parseFieldDescriptor d = some ty) (e : v = defaultValue ty) (k : FOk Z a0 C r) : FOk Z a0 C ((O, n, d, v) :: r) := ⟨l, ⟨ty, p, e⟩, k⟩
theorem FOk.mem {C : String} : ∀ {fs : List FldE}, FOk Z a0 C fs → ∀ f ∈ fs, Laid Z a0 C f.1 f.2.1 f.2.2.1 ∧ ∃ ty, parseFieldDescriptor f.2.2.1 = some ty ∧ f.2.2.2 = defaultValue ty
  | [], _, _, hf => by simp at hf
  | (O, n, d, v) :: r, k, f, hf => by
    rcases List.mem_cons.mp hf with rfl | hf
    · exact ⟨k.1, k.2.1⟩
    · exact FOk.mem k.2.2 f hf
theorem FOk.pw {C : String} {fs : List FldE} (k : FOk Z a0 C fs) (hn : (fs.map fun f => f.2.1).Nodup) : fs.Pairwise fun f g => RoadKit.slotOf Z f.1 f.2.1 f.2.2.1 ≠ RoadKit.slotOf Z g.1 g.2.1 g.2.2.1 := by
  have hn' : fs.Pairwise fun f g => f.2.1 ≠ g.2.1 := List.pairwise_map.mp hn
  refine List.Pairwise.imp_of_mem ?_ hn'
  intro f g hf hg q
  obtain ⟨l1, t1, p1, -⟩ := k.mem f hf
  obtain ⟨l2, t2, p2, -⟩ := k.mem g hg
  exact slot_ne l1 l2 q p1 p2
theorem set_at {L : HL} {i : Nat} {q r : Addr × Obj} (h : L[i]? = some q) : (L.set i r)[i]? = some r := List.getElem?_set_self (List.getElem?_eq_some_iff.mp h).1
theorem set_ne {L : HL} {i j : Nat} {q r : Addr × Obj} (n : i ≠ j) (h : L[j]? = some q) : (L.set i r)[j]? = some q := (List.getElem?_set_ne n).trans h
end Heaps
/-! ## the walk: where it stands, and that it comes to its end -/
def Wd (p : Program) (l : Launch) (e : Env) (R : Room) (s : State) (m : MethodId) (args : Array Value) (below : List Frame) (meth : Method) (c : Code) (Z : State) (a0 : Array Value) (n0 kb : Nat) (ws : List Cond)
    (y : MethodName) (bytes : ByteArray) (ml : Nat) (ret : Option FieldType) (T : State) (L : HL) (cells slots : Nat) : Prop :=
  (∃ locs, Stand p l e R s m args below meth c T locs cells slots ∧ Fr n0 locs) ∧ Hp Z n0 kb T.heap L ∧ p.tables.exec = Jvm.exec ∧ Z.Warmed39 s.vm ∧ s.vm.findClass y.cls = some m.cls ∧ c.code = bytes ∧ c.maxLocals = ml ∧
    meth.sig.returnType = ret ∧ meth.locks = false ∧ meth.name = y.name ∧ ∀ d ∈ ws, d.before a0 Z = true
/-- how a narrow walk ends: nothing of the tables has changed but what has been resolved -/
def EndN (s : State) (kc ks : Nat) (v : Option Value) (t : State) (Lc : List Loc) : Prop := FrameEnd s (.returned v) t Lc kc ks
def Go (p : Program) (e : Env) (below : List Frame) (Z : State) (n0 kg : Nat) (E : Option Value → State → List Loc → Prop) (P : Option Value → HL → Prop) (T : State) (g : JFrame) : Prop :=
  ∃ s₂ o, Steps p.tables e below (T.setTop g) s₂ ∧ s₂.status = .running ∧ Ended s₂ below o ∧ ∃ v Lc, o = .returned v ∧ (Fr n0 Lc ∧ ∃ L', Hp Z n0 kg s₂.heap L' ∧ P v L') ∧ E v s₂ Lc
/-- a method's contract: at these arguments and these cells it returns, with P of what it returns and of the cells -/
def Con (l : Launch) (y : MethodName) (bytes : ByteArray) (ml : Nat) (ret : Option FieldType) (rm : Room) (Z : State) (n0 : Nat) (as' : Array Value) (L : HL) (P : Option Value → HL → Prop) : Prop :=
  ∀ (wx : List Cond) (kb : Nat) (h : Heap), Hp Z n0 kb h L → MetFree l y (head1 (Cond.code y bytes ml ret :: wx) rm) (fun a U => a = as' ∧ Z.Warmed39 U.vm ∧ U.heap = h) (fun _ _ _ _ _ => True)
    (fun _ U o U' => ∃ v Lc, o = .returned v ∧ (Fr n0 Lc ∧ ∃ L', Hp Z n0 kb U'.heap L' ∧ P v L') ∧ FrameEnd U o U' Lc rm.cells rm.slots)
/-- what a call leaves on the stack -/
def pushV : Option Value → List Value → List Value
  | some v, r => v :: r
  | none, r => r
theorem pushV_eq (v : Option Value) (r : List Value) : v.toList ++ r = pushV v r := by cases v <;> rfl
section Walk
variable {p : Program} {l : Launch} {e : Env} {R : Room} {s : State} {m : MethodId} {args : Array Value} {below : List Frame} {meth : Method} {c : Code} {Z : State} {a0 : Array Value} {n0 kb kg : Nat} {ws : List Cond} {y : MethodName} {bytes : ByteArray} {ml : Nat} {ret : Option FieldType} {T T' : State} {L : HL} {cells slots : Nat} {P : Option Value → HL → Prop} {E : Option Value → State → List Loc → Prop} {kc ks : Nat}
theorem Go.pre {g g' : JFrame} (k : Go p e below Z n0 kg E P T' g') (f : ∀ t, Steps p.tables e below (T'.setTop g') t → Steps p.tables e below (T.setTop g) t) : Go p e below Z n0 kg E P T g := by
  obtain ⟨s₂, o, h1, r⟩ := k
  exact ⟨s₂, o, f _ h1, r⟩
theorem Go.mono {g : JFrame} {P' : Option Value → HL → Prop} (k : Go p e below Z n0 kg E P' T g) (f : ∀ v L, P' v L → P v L) : Go p e below Z n0 kg E P T g := by
  obtain ⟨s₂, o, h1, h2, h3, v, Lc, h4, ⟨h5, L', h6, h7⟩, h8⟩ := k
  exact ⟨s₂, o, h1, h2, h3, v, Lc, h4, ⟨h5, L', h6, f _ _ h7⟩, h8⟩
section Wds
variable (w : Wd p l e R s m args below meth c Z a0 n0 kb ws y bytes ml ret T L cells slots)
theorem Wd.here (w : Wd p l e R s m args below meth c Z a0 n0 kb ws y bytes ml ret T L cells slots) : At T m c below := by obtain ⟨⟨_, X, -⟩, -⟩ := w; exact X.here
theorem Wd.hx (w : Wd p l e R s m args below meth c Z a0 n0 kb ws y bytes ml ret T L cells slots) : p.tables.exec = Jvm.exec := w.2.2.1
theorem Wd.hby (w : Wd p l e R s m args below meth c Z a0 n0 kb ws y bytes ml ret T L cells slots) : c.code = bytes := w.2.2.2.2.2.1
theorem Wd.hp (w : Wd p l e R s m args below meth c Z a0 n0 kb ws y bytes ml ret T L cells slots) : Hp Z n0 kb T.heap L := w.2.1
theorem Wd.hw (w : Wd p l e R s m args below meth c Z a0 n0 kb ws y bytes ml ret T L cells slots) {k : Nat} {d : Cond} (h : ws[k]? = some d) : d.before a0 Z = true := w.2.2.2.2.2.2.2.2.2.2 _ (List.mem_of_getElem? h)
theorem Wd.to {L' : HL} (w : Wd p l e R s m args below meth c Z a0 n0 kb ws y bytes ml ret T L cells slots) (q : L = L') : Wd p l e R s m args below meth c Z a0 n0 kb ws y bytes ml ret T L' cells slots := q ▸ w
end Wds
theorem Con.of {rm : Room} {as' : Array Value} (hpl : plainFor y = true) (hws : ∀ d ∈ ws, d.before a0 Z = true)
    (body : ∀ {p : Program} {e : Env} {s : State} {m : MethodId} {below : List Frame} {meth : Method} {c : Code} {T : State} {kb : Nat}, Wd p l e rm s m as' below meth c Z a0 n0 kb ws y bytes ml ret T L 0 0 → Go p e below Z n0 kb (EndN s rm.cells rm.slots) P T (entryFrame m as' ml)) :
    Con l y bytes ml ret rm Z n0 as' L P := by
  intro wx kb h hH
  refine MetFree.of_bodySF hpl hisR ?_
  intro p e s m args below meth c s₁ Bd hml hP hK
  obtain ⟨rfl, hZ, hh⟩ := hP
  have X0 : Stand p l e rm s m args below meth c s₁ [] 0 0 := Stand.of_body Bd
  have e0 : s₁.heap = h := by rw [← hh, Bd.state]; rfl
  obtain ⟨s₂, o, h1, h2, h3, v, Lc, rfl, h5, h6⟩ := body ⟨⟨[], X0, Fr.nil n0⟩, by rw [e0]; exact hH, Bd.exec, hZ, findClass_of_methodNamed Bd.named, Bd.bytes, hml, Bd.returns, Bd.notSynchronized, (name_of_methodNamed Bd.named Bd.method).1, hws⟩
  obtain ⟨h5a, L', h5b, h5c⟩ := h5
  exact ⟨s₂, _, h1, h2, h3, v, Lc, rfl, ⟨h5a, L', h5b, h5c⟩, h6⟩
theorem g_entry {as' : Array Value} (Ls : Array Slot) (q : entryFrame m as' ml = mkF m 0 Ls []) (k : Go p e below Z n0 kg E P T (mkF m 0 Ls [])) : Go p e below Z n0 kg E P T (entryFrame m as' ml) := by rw [q]; exact k
theorem g_int {pc : Nat} {Ls : Array Slot} {x x' : Int32} {st : List Value} (q : x = x') (k : Go p e below Z n0 kg E P T (mkF m pc Ls (.int x' :: st))) : Go p e below Z n0 kg E P T (mkF m pc Ls (.int x :: st)) := by rw [q]; exact k
theorem g_long {pc : Nat} {Ls : Array Slot} {x x' : Int64} {st : List Value} (q : x = x') (k : Go p e below Z n0 kg E P T (mkF m pc Ls (.long x' :: st))) : Go p e below Z n0 kg E P T (mkF m pc Ls (.long x :: st)) := by rw [q]; exact k
theorem g_end {f : State → State} {fs : List Frame} {v : Option Value} {g : JFrame} {locs : List Loc} (X : Stand p l e R s m args below meth c T locs cells slots) (N : Fr n0 locs) (H : Hp Z n0 kb T.heap L) (hc : cells ≤ kc) (hs : slots ≤ ks) (hP : P v L)
    (st : Steps p.tables e below (T.setTop g) (T.setFrames fs)) (h1 : (T.setFrames fs).status = .running) (h2 : Ended (T.setFrames fs) below (.returned v)) (h3 : s.WarmedH (T.setFrames fs).vm) (h4 : s.sameButNew ({ T.setFrames fs with vm := s.vm } : State) locs cells slots) :
    Go p e below Z n0 kb (EndN s kc ks) P T g :=
  ⟨_, _, st, h1, h2, v, locs, rfl, ⟨N, L, H, hP⟩, ⟨_, rfl⟩, h3, h4.mono hc hs⟩
theorem g_ret (w : Wd p l e R s m args below meth c Z a0 n0 kb ws y bytes ml none T L cells slots) {pc : Nat} {Ls : Array Slot} (hd : decode bytes pc = .ok (.return_, 1)) (hc : cells ≤ kc) (hs : slots ≤ ks) (hP : P none L) :
    Go p e below Z n0 kb (EndN s kc ks) P T (mkF m pc Ls []) := by
  obtain ⟨⟨locs, X, N⟩, H, hx, hZ, hown, hby, hml, hret, hlk, hnm, hws⟩ := w
  obtain ⟨fs, hr, h1, h2, h3, h4⟩ := X.leave (v := none) (fun _ => rfl) hlk
  exact g_end (f := id) X N H hc hs hP (X.returnOut hx hret (hb hby hd) hr) h1 h2 h3 h4
theorem g_retW {t : FieldType} {i : Instr} (w : Wd p l e R s m args below meth c Z a0 n0 kb ws y bytes ml (some t) T L cells slots) {pc : Nat} {Ls : Array Slot} {v : Value} {st : List Value} (hd : decode bytes pc = .ok (i, 1)) (hn : narrow t v = v)
    (hi : (i = .ireturn ∧ (t = .int ∨ t = .boolean ∨ t = .byte ∨ t = .char ∨ t = .short) ∧ ∃ z, v = .int z) ∨ (i = .lreturn ∧ t = .long ∧ ∃ z, v = .long z) ∨ (i = .dreturn ∧ t = .double ∧ ∃ z, v = .double z) ∨ (i = .freturn ∧ t = .float ∧ ∃ z, v = .float z) ∨ (i = .areturn ∧ t.isReference = true ∧ v.isRef = true))
    (hc : cells ≤ kc) (hs : slots ≤ ks) (hP : P (some v) L) : Go p e below Z n0 kb (EndN s kc ks) P T (mkF m pc Ls (v :: st)) := by
  obtain ⟨⟨locs, X, N⟩, H, hx, hZ, hown, hby, hml, hret, hlk, hnm, hws⟩ := w
  obtain ⟨fs, hr, h1, h2, h3, h4⟩ := X.leave (v := some v) (fun q => by rw [hret] at q; cases q) hlk
  exact g_end (f := id) X N H hc hs hP (retOut X hx hret hn hi (hb hby hd) hr) h1 h2 h3 h4
theorem g_ireti (w : Wd p l e R s m args below meth c Z a0 n0 kb ws y bytes ml (some .int) T L cells slots) {pc : Nat} {Ls : Array Slot} {z : Int32} {st : List Value} (hd : decode bytes pc = .ok (.ireturn, 1)) (hc : cells ≤ kc) (hs : slots ≤ ks) (hP : P (some (.int z)) L) :
    Go p e below Z n0 kb (EndN s kc ks) P T (mkF m pc Ls (.int z :: st)) := g_retW w hd rfl (Or.inl ⟨rfl, Or.inl rfl, z, rfl⟩) hc hs hP
theorem g_lret (w : Wd p l e R s m args below meth c Z a0 n0 kb ws y bytes ml (some .long) T L cells slots) {pc : Nat} {Ls : Array Slot} {z : Int64} {st : List Value} (hd : decode bytes pc = .ok (.lreturn, 1)) (hc : cells ≤ kc) (hs : slots ≤ ks) (hP : P (some (.long z)) L) :
    Go p e below Z n0 kb (EndN s kc ks) P T (mkF m pc Ls (.long z :: st)) := g_retW w hd rfl (Or.inr (Or.inl ⟨rfl, rfl, z, rfl⟩)) hc hs hP
theorem g_aret {t : FieldType} (w : Wd p l e R s m args below meth c Z a0 n0 kb ws y bytes ml (some t) T L cells slots) {pc : Nat} {Ls : Array Slot} {v : Value} {st : List Value} (hd : decode bytes pc = .ok (.areturn, 1)) (ht : t.isReference = true) (hv : v.isRef = true) (hn : narrow t v = v) (hc : cells ≤ kc) (hs : slots ≤ ks) (hP : P (some v) L) :
    Go p e below Z n0 kb (EndN s kc ks) P T (mkF m pc Ls (v :: st)) := g_retW w hd hn (Or.inr (Or.inr (Or.inr (Or.inr ⟨rfl, ht, hv⟩)))) hc hs hP
/-- a boolean, byte, char or short: narrowed -/
theorem g_iretn {t : FieldType} (w : Wd p l e R s m args below meth c Z a0 n0 kb ws y bytes ml (some t) T L cells slots) (ht : t = .boolean ∨ t = .byte ∨ t = .char ∨ t = .short) {pc : Nat} {Ls : Array Slot} {z : Int32} {st : List Value} (hd : decode bytes pc = .ok (.ireturn, 1)) (hc : cells ≤ kc) (hs : slots ≤ ks) (hP : P (some (.int (nar t z))) L) :
    Go p e below Z n0 kb (EndN s kc ks) P T (mkF m pc Ls (.int z :: st)) := by
  obtain ⟨⟨locs, X, N⟩, H, hx, hZ, hown, hby, hml, hret, hlk, hnm, hws⟩ := w
  obtain ⟨fs, hr, h1, h2, h3, h4⟩ := X.leave (v := some (.int (nar t z))) (fun q => by rw [hret] at q; cases q) hlk
  exact g_end (f := id) X N H hc hs hP (retN X hx hret ht (hb hby hd) hr) h1 h2 h3 h4
/-! ## constants of the pool -/
theorem g_ldci (w : Wd p l e R s m args below meth c Z a0 n0 kb ws y bytes ml ret T L cells slots) {pc : Nat} {Ls : Array Slot} {st : List Value} {idx : Nat} (hd : decode bytes pc = .ok (.ldc idx, 2)) (k : Nat) {v : Int32} (hk : ws[k]? = some (.constant y.cls idx v)) (pc' : Nat) (hp : pc + 2 = pc')
    (kt : Go p e below Z n0 kg E P T (mkF m pc' Ls (.int v :: st))) : Go p e below Z n0 kg E P T (mkF m pc Ls st) := by
  subst hp
  have hk' := w.hw hk
  obtain ⟨⟨locs, X, N⟩, H, hx, hZ, hown, hby, hml, hret, hlk, hnm, hws⟩ := w
  exact kt.pre fun t q => X.ldcInt hx hown (mvT hZ hk') (g := mkF m pc Ls st) rfl (hb hby hd) t q
theorem g_ldcl (w : Wd p l e R s m args below meth c Z a0 n0 kb ws y bytes ml ret T L cells slots) {pc : Nat} {Ls : Array Slot} {st : List Value} {idx : Nat} (hd : decode bytes pc = .ok (.ldc2_w idx, 3)) (k : Nat) {v : Int64} (hk : ws[k]? = some (.constantLong y.cls idx v)) (pc' : Nat) (hp : pc + 3 = pc')
    (kt : Go p e below Z n0 kg E P T (mkF m pc' Ls (.long v :: st))) : Go p e below Z n0 kg E P T (mkF m pc Ls st) := by
  subst hp
  have hk' := w.hw hk
  obtain ⟨⟨locs, X, N⟩, H, hx, hZ, hown, hby, hml, hret, hlk, hnm, hws⟩ := w
  exact kt.pre fun t q => X.ldc2Long hx hown (mvT hZ hk') (g := mkF m pc Ls st) rfl (hb hby hd) t q
/-! ## fields -/
theorem g_getf (w : Wd p l e R s m args below meth c Z a0 n0 kb ws y bytes ml ret T L cells slots) {pc : Nat} {Ls : Array Slot} {st : List Value} {idx : Nat} {a : Addr} {C R0 O n d : String} {fs : List FldE} {v : Value} (hd : decode bytes pc = .ok (.getfield idx, 3)) (i : Nat) (hi : L[i]? = some (a, .inl (C, fs))) (j : Nat) (hj : fs[j]? = some (O, n, d, v))
    (k : Nat) (hk : ws[k]? = some (.fieldLink y.cls idx R0 n d)) (via : Via Z R0 O n d) (pc' : Nat) (hp : pc + 3 = pc')
    (kt : ∀ T', Wd p l e R s m args below meth c Z a0 n0 kb ws y bytes ml ret T' L cells slots → Go p e below Z n0 kg E P T' (mkF m pc' Ls (v :: st))) : Go p e below Z n0 kg E P T (mkF m pc Ls (.ref a :: st)) := by
  subst hp
  have hk' := w.hw hk
  obtain ⟨⟨locs, X, N⟩, H, hx, hZ, hown, hby, hml, hret, hlk, hnm, hws⟩ := w
  have F := (H.obj hi).2.1 _ (List.mem_of_getElem? hj)
  obtain ⟨T', X', e', st'⟩ := getF X hx hZ hown (host := "") (Or.inl hk') via rfl F (g := mkF m pc Ls (.ref a :: st)) rfl rfl (hb hby hd)
  exact (kt T' ⟨⟨locs, X', N⟩, by rw [e']; exact H, hx, hZ, hown, hby, hml, hret, hlk, hnm, hws⟩).pre st'
theorem g_putf (w : Wd p l e R s m args below meth c Z a0 n0 kb ws y bytes ml ret T L cells slots) {pc : Nat} {Ls : Array Slot} {st : List Value} {idx kk : Nat} {a : Addr} {C R0 O n d : String} {fs : List FldE} {u v : Value} {ty : FieldType} (hd : decode bytes pc = .ok (.putfield idx, 3)) (i : Nat) (hi : L[i]? = some (a, .inl (C, fs))) (j : Nat) (hj : fs[j]? = some (O, n, d, u))
    (k : Nat) (hk : ws[k]? = some (.fieldLink y.cls idx R0 n d)) (via : Via Z R0 O n d) (k2 : Nat) (hk2 : ws[k2]? = some (.lays C O n d) ∨ (ws[k2]? = some (.laysFinal C O n d) ∧ y.cls = O ∧ y.name = "<init>")) (k3 : Nat) (hk3 : ws[k3]? = some (.instantiable C kk)) (hty : parseFieldDescriptor d = some ty) (hn : narrow ty v = v) (hf : fits ty v = true) (pc' : Nat) (hp : pc + 3 = pc')
    (kt : ∀ T', Wd p l e R s m args below meth c Z a0 n0 kb ws y bytes ml ret T' (L.set i (a, .inl (C, fs.set j (O, n, d, v)))) cells slots → Go p e below Z n0 kg E P T' (mkF m pc' Ls st)) : Go p e below Z n0 kg E P T (mkF m pc Ls (v :: .ref a :: st)) := by
  subst hp
  have hk' := w.hw hk
  have hk3' := w.hw hk3
  have hk2' : (Cond.lays C O n d).before a0 Z = true ∨ ((Cond.laysFinal C O n d).before a0 Z = true ∧ y.cls = O ∧ y.name = "<init>") := hk2.imp (fun q => w.hw q) fun q => ⟨w.hw q.1, q.2⟩
  obtain ⟨⟨locs, X, N⟩, H, hx, hZ, hown, hby, hml, hret, hlk, hnm, hws⟩ := w
  have I := H.obj hi
  have F := I.2.1 _ (List.mem_of_getElem? hj)
  obtain ⟨T', h', X', e', W, st'⟩ := putF X hx hZ hown (host := "") (Or.inl hk') via rfl F I.1 (hk2'.imp id fun q => ⟨q.1, q.2.1, hnm.trans q.2.2⟩) hk3' hty hn hf (g := mkF m pc Ls (v :: .ref a :: st)) rfl rfl (hb hby hd)
  refine (kt T' ⟨⟨_, X', Fr.snoc X' N (H.ge hi)⟩, ?_, hx, hZ, hown, hby, hml, hret, hlk, hnm, hws⟩).pre st'
  rw [e']
  exact H.put hi W (Is.field (H.at hi) hj W)
/-! ## new objects and arrays -/
theorem g_new (w : Wd p l e R s m args below meth c Z a0 n0 kb ws y bytes ml ret T L cells slots) {pc : Nat} {Ls : Array Slot} {st : List Value} {idx n : Nat} {C : String} (fs : List FldE) (hd : decode bytes pc = .ok (.new idx, 3)) (k1 : Nat) (hk1 : ws[k1]? = some (.classLink y.cls idx C)) (k2 : Nat) (hk2 : ws[k2]? = some (.instantiable C n)) (k3 : Nat) (hk3 : ws[k3]? = some (.initialized C))
    (hfs : FOk Z a0 C fs) (hnd : (fs.map fun f => f.2.1).Nodup) (hc : cells + 1 ≤ R.cells) (hs : slots + n ≤ R.slots) (pc' : Nat) (hp : pc + 3 = pc')
    (kt : ∀ T' a, Wd p l e R s m args below meth c Z a0 n0 kb ws y bytes ml ret T' (L ++ [(a, .inl (C, fs))]) (cells + 1) (slots + n) → Go p e below Z n0 kg E P T' (mkF m pc' Ls (.ref a :: st))) : Go p e below Z n0 kg E P T (mkF m pc Ls st) := by
  subst hp
  have hk1' := w.hw hk1
  have hk2' := w.hw hk2
  have hk3' := w.hw hk3
  obtain ⟨⟨locs, X, N⟩, H, hx, hZ, hown, hby, hml, hret, hlk, hnm, hws⟩ := w
  obtain ⟨T', h', X', e', E, A, D, -, st'⟩ := newO X hx hZ hown hk1' hk2' hk3' rfl (g := mkF m pc Ls st) rfl (hb hby hd) hc hs
  refine (kt T' T.heap.size ⟨⟨_, X', N⟩, ?_, hx, hZ, hown, hby, hml, hret, hlk, hnm, hws⟩).pre st'
  rw [e']
  refine H.push E H.size (show Exa _ _ _ _ ∧ _ ∧ _ from ⟨A, fun f hf => ?_, hfs.pw hnd⟩)
  obtain ⟨l1, t1, p1, v1⟩ := hfs.mem f hf
  rw [v1]
  exact D l1 p1
theorem g_newarr (w : Wd p l e R s m args below meth c Z a0 n0 kb ws y bytes ml ret T L cells slots) {pc : Nat} {Ls : Array Slot} {st : List Value} {aty : ArrayType} {n : Int32} (hd : decode bytes pc = .ok (.newarray aty, 2)) (k1 : Nat) (hk1 : ws[k1]? = some (.arrayClass (newarray.typeOf aty))) (nn cap : Nat) (hn : n.toInt = (nn : Int)) (hcap : nn ≤ cap) (hb8 : cap * 8 ≤ 536870912)
    (vs : List Value) (hvs : vs = List.replicate nn (defaultValue (newarray.typeOf aty))) (hc : cells + 1 ≤ R.cells) (hs : slots + cap ≤ R.slots) (pc' : Nat) (hp : pc + 2 = pc')
    (kt : ∀ T' a, Wd p l e R s m args below meth c Z a0 n0 kb ws y bytes ml ret T' (L ++ [(a, .inr (newarray.typeOf aty, vs))]) (cells + 1) (slots + cap) → Go p e below Z n0 kg E P T' (mkF m pc' Ls (.ref a :: st))) : Go p e below Z n0 kg E P T (mkF m pc Ls (.int n :: st)) := by
  subst hp hvs
  have hk1' := w.hw hk1
  obtain ⟨⟨locs, X, N⟩, H, hx, hZ, hown, hby, hml, hret, hlk, hnm, hws⟩ := w
  have q0 : ¬ n < 0 := by rw [Int32.lt_iff_toInt_lt, hn]; show ¬ ((nn : Int) < 0); omega
  have q1 : n.toNatClampNeg = nn := by have := nat_of q0; rw [hn] at this; exact (Int.ofNat.inj this).symm
  obtain ⟨T', h', cA, X', e', E, A, XA, st'⟩ := newPE X hx hZ hk1' rfl (g := mkF m pc Ls (.int n :: st)) rfl (hb hby hd) rfl q0 (cap := cap) (by rw [q1]; exact hcap) hb8 hc hs (ad := "[" ++ (newarray.typeOf aty).toString) rfl
  refine (kt T' T.heap.size ⟨⟨_, X', N⟩, ?_, hx, hZ, hown, hby, hml, hret, hlk, hnm, hws⟩).pre st'
  rw [e']
  refine H.push E H.size (show ∃ c : Cell, _ from ⟨_, A, XA, by simp [newA, q1], ?_⟩)
  have := Int32.toInt_lt n
  rw [hn] at this
  simp only [List.length_replicate]
  omega
theorem inb {j : Int32} {jn : Nat} {cl : Cell} {vs : List Value} (hj : j.toInt = (jn : Int)) (e : cl.slots.toList = vs) (hl : jn < vs.length) : ¬ (j < 0 ∨ cl.slots.size ≤ j.toNatClampNeg) ∧ j.toNatClampNeg = jn := by
  have q0 : ¬ j < 0 := by rw [Int32.lt_iff_toInt_lt, hj]; show ¬ ((jn : Int) < 0); omega
  have q1 : j.toNatClampNeg = jn := by have := nat_of q0; rw [hj] at this; exact (Int.ofNat.inj this).symm
  refine ⟨fun q => q.elim q0 fun r => ?_, q1⟩
  rw [q1] at r
  have : cl.slots.size = vs.length := by rw [← e]; simp
  omega
theorem g_alen (w : Wd p l e R s m args below meth c Z a0 n0 kb ws y bytes ml ret T L cells slots) {pc : Nat} {Ls : Array Slot} {st : List Value} {a : Addr} {ty : FieldType} {vs : List Value} (hd : decode bytes pc = .ok (.arraylength, 1)) (i : Nat) (hi : L[i]? = some (a, .inr (ty, vs))) (z : Int32) (hz : z.toInt = (vs.length : Int)) (pc' : Nat) (hp : pc + 1 = pc')
    (kt : Go p e below Z n0 kg E P T (mkF m pc' Ls (.int z :: st))) : Go p e below Z n0 kg E P T (mkF m pc Ls (.ref a :: st)) := by
  subst hp
  obtain ⟨⟨locs, X, N⟩, H, hx, hZ, hown, hby, hml, hret, hlk, hnm, hws⟩ := w
  obtain ⟨cl, A, -, ev, hl⟩ := H.arr hi
  refine kt.pre fun t q => X.arraylength hx A.1 (State.isArrayOf_alike hZ.alike A.2.1) (g := mkF m pc Ls (.ref a :: st)) rfl rfl (hb hby hd) t ?_
  have : cl.slots.size.toInt32 = z := by
    apply Int32.toInt_inj.mp
    have e1 : cl.slots.size = vs.length := by rw [← ev]; simp
    rw [hz, e1]
    exact len_toInt hl
  rw [this]
  exact q
theorem g_castA (w : Wd p l e R s m args below meth c Z a0 n0 kb ws y bytes ml ret T L cells slots) {pc : Nat} {Ls : Array Slot} {st : List Value} {a : Addr} {ty : FieldType} {vs : List Value} {idx : Nat} {K : String} (hd : decode bytes pc = .ok (.checkcast idx, 3)) (i : Nat) (hi : L[i]? = some (a, .inr (ty, vs))) (k : Nat) (hk : ws[k]? = some (.classLink y.cls idx K)) (hK : "[" ++ ty.toString = K) (pc' : Nat) (hp : pc + 3 = pc')
    (kt : ∀ T', Wd p l e R s m args below meth c Z a0 n0 kb ws y bytes ml ret T' L cells slots → Go p e below Z n0 kg E P T' (mkF m pc' Ls (.ref a :: st))) : Go p e below Z n0 kg E P T (mkF m pc Ls (.ref a :: st)) := by
  subst hp hK
  have hk' := w.hw hk
  obtain ⟨⟨locs, X, N⟩, H, hx, hZ, hown, hby, hml, hret, hlk, hnm, hws⟩ := w
  obtain ⟨cl, A, XA, ev, hl⟩ := H.arr hi
  obtain ⟨T', X', e', st'⟩ := castY X hx hZ hown hk' rfl (Ins.self XA) (g := mkF m pc Ls (.ref a :: st)) rfl rfl (hb hby hd)
  exact (kt T' ⟨⟨locs, X', N⟩, by rw [e']; exact H, hx, hZ, hown, hby, hml, hret, hlk, hnm, hws⟩).pre st'
theorem g_cloneA (w : Wd p l e R s m args below meth c Z a0 n0 kb ws y bytes ml ret T L cells slots) {pc : Nat} {Ls : Array Slot} {st : List Value} {a : Addr} {ty : FieldType} {vs : List Value} {idx : Nat} {ad : String} (hd : decode bytes pc = .ok (.invokevirtual idx, 3)) (i : Nat) (hi : L[i]? = some (a, .inr (ty, vs))) (had : "[" ++ ty.toString = ad)
    (k1 : Nat) (hk1 : ws[k1]? = some (.methodLink y.cls idx ⟨ad, "clone", "()Ljava/lang/Object;"⟩)) (k2 : Nat) (hk2 : ws[k2]? = some (.sameMethod ad "java/lang/Object" "clone" "()Ljava/lang/Object;")) (k3 : Nat) (hk3 : ws[k3]? = some (.native ⟨"java/lang/Object", "clone", "()Ljava/lang/Object;"⟩)) (k4 : Nat) (hk4 : ws[k4]? = some (.instanceMethod ⟨"java/lang/Object", "clone", "()Ljava/lang/Object;"⟩))
    (k5 : Nat) (hk5 : ws[k5]? = some (.selects ad ⟨ad, "clone", "()Ljava/lang/Object;"⟩ ⟨"java/lang/Object", "clone", "()Ljava/lang/Object;"⟩)) (k6 : Nat) (hk6 : ws[k6]? = some (.castable ad "java/lang/Cloneable")) (hfit : ∀ v ∈ vs, fits ty v = true) (hsz : Ls.size = ml) (hf : 1 ≤ R.frames) (W cap : Nat) (hW : (st.map fun v => v.category).sum = W) (hl : W + 14 ≤ R.locals) (hcap : vs.length ≤ cap) (hc : cells + 1 ≤ R.cells) (hs : slots + cap ≤ R.slots) (pc' : Nat) (hp : pc + 3 = pc')
    (kt : ∀ T' a', Wd p l e R s m args below meth c Z a0 n0 kb ws y bytes ml ret T' (L ++ [(a', .inr (ty, vs))]) (cells + 1) (slots + cap) → Go p e below Z n0 kg E P T' (mkF m pc' Ls (.ref a' :: st))) : Go p e below Z n0 kg E P T (mkF m pc Ls (.ref a :: st)) := by
  subst hp had
  have hk1' := w.hw hk1
  have hk2' := w.hw hk2
  have hk3' := w.hw hk3
  have hk4' := w.hw hk4
  have hk5' := w.hw hk5
  have hk6' := w.hw hk6
  obtain ⟨⟨locs, X, N⟩, H, hx, hZ, hown, hby, hml, hret, hlk, hnm, hws⟩ := w
  obtain ⟨cl, A, XA, ev, hL⟩ := H.arr hi
  have FC : FitC Z cl := fitC_of A fun i hi v hv => hfit v (by rw [← ev]; exact Array.mem_toList_iff.mpr (Array.mem_of_getElem? hv))
  have hlen : cl.slots.size = vs.length := by rw [← ev]; simp
  obtain ⟨T', h', X', e', E, A', XA', st'⟩ := cloneA X hx hZ hown hk1' hk2' hk3' hk4' hk5' hk6' rfl A XA FC (g := mkF m pc Ls (.ref a :: st)) rfl (by rw [hml]; exact hsz) rfl (hb hby hd) hf (W := W) (cap := cap) (by show 2 * 0 + _ ≤ _; rw [hW]; omega) hl (by rw [hlen]; exact hcap) hc hs
  refine (kt T' T.heap.size ⟨⟨_, X', N⟩, ?_, hx, hZ, hown, hby, hml, hret, hlk, hnm, hws⟩).pre st'
  rw [e']
  exact H.push E H.size ⟨_, A', XA', ev, hL⟩
/-! ## what stood at the start: statics and old objects (never written) -/
theorem Hp.old (H : Hp Z n0 kb T.heap L) : Ext Z.heap T.heap := H.1.1.2
theorem g_gets (w : Wd p l e R s m args below meth c Z a0 n0 kb ws y bytes ml ret T L cells slots) {pc : Nat} {Ls : Array Slot} {st : List Value} {idx : Nat} {O n d : String} {v : Value} (F : Sta Z Z.heap O n d v) (hd : decode bytes pc = .ok (.getstatic idx, 3)) (k : Nat) (hk : ws[k]? = some (.fieldLink y.cls idx O n d)) (pc' : Nat) (hp : pc + 3 = pc')
    (kt : ∀ T', Wd p l e R s m args below meth c Z a0 n0 kb ws y bytes ml ret T' L cells slots → Go p e below Z n0 kg E P T' (mkF m pc' Ls (v :: st))) : Go p e below Z n0 kg E P T (mkF m pc Ls st) := by
  subst hp
  have hk' := w.hw hk
  obtain ⟨⟨locs, X, N⟩, H, hx, hZ, hown, hby, hml, hret, hlk, hnm, hws⟩ := w
  obtain ⟨T', X', e', st'⟩ := getS X hx hZ hown (host := "") hk' Via.refl rfl (F.ext H.old) (g := mkF m pc Ls st) rfl (hb hby hd)
  exact (kt T' ⟨⟨locs, X', N⟩, by rw [e']; exact H, hx, hZ, hown, hby, hml, hret, hlk, hnm, hws⟩).pre st'
theorem g_getfO (w : Wd p l e R s m args below meth c Z a0 n0 kb ws y bytes ml ret T L cells slots) {pc : Nat} {Ls : Array Slot} {st : List Value} {idx : Nat} {a : Addr} {O n d : String} {v : Value} (F : Fld Z Z.heap a O n d v) (hd : decode bytes pc = .ok (.getfield idx, 3)) (k : Nat) (hk : ws[k]? = some (.fieldLink y.cls idx O n d)) (pc' : Nat) (hp : pc + 3 = pc')
    (kt : ∀ T', Wd p l e R s m args below meth c Z a0 n0 kb ws y bytes ml ret T' L cells slots → Go p e below Z n0 kg E P T' (mkF m pc' Ls (v :: st))) : Go p e below Z n0 kg E P T (mkF m pc Ls (.ref a :: st)) := by
  subst hp
  have hk' := w.hw hk
  obtain ⟨⟨locs, X, N⟩, H, hx, hZ, hown, hby, hml, hret, hlk, hnm, hws⟩ := w
  obtain ⟨T', X', e', st'⟩ := getF X hx hZ hown (host := "") (Or.inl hk') Via.refl rfl (F.ext H.old) (g := mkF m pc Ls (.ref a :: st)) rfl rfl (hb hby hd)
  exact (kt T' ⟨⟨locs, X', N⟩, by rw [e']; exact H, hx, hZ, hown, hby, hml, hret, hlk, hnm, hws⟩).pre st'
theorem g_iaload (w : Wd p l e R s m args below meth c Z a0 n0 kb ws y bytes ml ret T L cells slots) {pc : Nat} {Ls : Array Slot} {st : List Value} {a : Addr} {vs : List Value} {j : Int32} {v : Value} (hd : decode bytes pc = .ok (.iaload, 1)) (i : Nat) (hi : L[i]? = some (a, .inr (.int, vs))) (jn : Nat) (hj : j.toInt = (jn : Int)) (hv : vs[jn]? = some v) (pc' : Nat) (hp : pc + 1 = pc')
    (kt : Go p e below Z n0 kg E P T (mkF m pc' Ls (v :: st))) : Go p e below Z n0 kg E P T (mkF m pc Ls (.int j :: .ref a :: st)) := by
  subst hp
  obtain ⟨⟨locs, X, N⟩, H, hx, hZ, hown, hby, hml, hret, hlk, hnm, hws⟩ := w
  obtain ⟨cl, A, -, ev, hl⟩ := H.arr hi
  obtain ⟨q1, q2⟩ := inb hj ev (List.getElem?_eq_some_iff.mp hv).1
  exact kt.pre fun t q => X.iaload hx (j := j) (v := v) A.1 (State.isArrayOf_alike hZ.alike A.2.1) A.2.2 q1 (by rw [q2, ← hv, ← ev]; simp) (g := mkF m pc Ls (.int j :: .ref a :: st)) rfl rfl (hb hby hd) t q
theorem g_laload (w : Wd p l e R s m args below meth c Z a0 n0 kb ws y bytes ml ret T L cells slots) {pc : Nat} {Ls : Array Slot} {st : List Value} {a : Addr} {vs : List Value} {j : Int32} {v : Value} (hd : decode bytes pc = .ok (.laload, 1)) (i : Nat) (hi : L[i]? = some (a, .inr (.long, vs))) (jn : Nat) (hj : j.toInt = (jn : Int)) (hv : vs[jn]? = some v) (pc' : Nat) (hp : pc + 1 = pc')
    (kt : Go p e below Z n0 kg E P T (mkF m pc' Ls (v :: st))) : Go p e below Z n0 kg E P T (mkF m pc Ls (.int j :: .ref a :: st)) := by
  subst hp
  obtain ⟨⟨locs, X, N⟩, H, hx, hZ, hown, hby, hml, hret, hlk, hnm, hws⟩ := w
  obtain ⟨cl, A, -, ev, hl⟩ := H.arr hi
  obtain ⟨q1, q2⟩ := inb hj ev (List.getElem?_eq_some_iff.mp hv).1
  exact kt.pre fun t q => X.laload hx (j := j) (v := v) A.1 (State.isArrayOf_alike hZ.alike A.2.1) A.2.2 q1 (by rw [q2, ← hv, ← ev]; simp) (g := mkF m pc Ls (.int j :: .ref a :: st)) rfl rfl (hb hby hd) t q
theorem g_caload (w : Wd p l e R s m args below meth c Z a0 n0 kb ws y bytes ml ret T L cells slots) {pc : Nat} {Ls : Array Slot} {st : List Value} {a : Addr} {vs : List Value} {j : Int32} {v : Value} (hd : decode bytes pc = .ok (.caload, 1)) (i : Nat) (hi : L[i]? = some (a, .inr (.char, vs))) (jn : Nat) (hj : j.toInt = (jn : Int)) (hv : vs[jn]? = some v) (pc' : Nat) (hp : pc + 1 = pc')
    (kt : Go p e below Z n0 kg E P T (mkF m pc' Ls (v :: st))) : Go p e below Z n0 kg E P T (mkF m pc Ls (.int j :: .ref a :: st)) := by
  subst hp
  obtain ⟨⟨locs, X, N⟩, H, hx, hZ, hown, hby, hml, hret, hlk, hnm, hws⟩ := w
  obtain ⟨cl, A, -, ev, hl⟩ := H.arr hi
  obtain ⟨q1, q2⟩ := inb hj ev (List.getElem?_eq_some_iff.mp hv).1
  exact kt.pre fun t q => X.caload hx (j := j) (v := v) A.1 (State.isArrayOf_alike hZ.alike A.2.1) A.2.2 q1 (by rw [q2, ← hv, ← ev]; simp) (g := mkF m pc Ls (.int j :: .ref a :: st)) rfl rfl (hb hby hd) t q
theorem g_baload (w : Wd p l e R s m args below meth c Z a0 n0 kb ws y bytes ml ret T L cells slots) {pc : Nat} {Ls : Array Slot} {st : List Value} {a : Addr} {vs : List Value} {j : Int32} {v : Value} (hd : decode bytes pc = .ok (.baload, 1)) (i : Nat) (hi : L[i]? = some (a, .inr (.byte, vs))) (jn : Nat) (hj : j.toInt = (jn : Int)) (hv : vs[jn]? = some v) (pc' : Nat) (hp : pc + 1 = pc')
    (kt : Go p e below Z n0 kg E P T (mkF m pc' Ls (v :: st))) : Go p e below Z n0 kg E P T (mkF m pc Ls (.int j :: .ref a :: st)) := by
  subst hp
  obtain ⟨⟨locs, X, N⟩, H, hx, hZ, hown, hby, hml, hret, hlk, hnm, hws⟩ := w
  obtain ⟨cl, A, -, ev, hl⟩ := H.arr hi
  obtain ⟨q1, q2⟩ := inb hj ev (List.getElem?_eq_some_iff.mp hv).1
  exact kt.pre fun t q => X.baloadBytes hx (j := j) (v := v) A.1 (State.isArrayOf_alike hZ.alike A.2.1) A.2.2 q1 (by rw [q2, ← hv, ← ev]; simp) (g := mkF m pc Ls (.int j :: .ref a :: st)) rfl rfl (hb hby hd) t q
theorem g_zaload (w : Wd p l e R s m args below meth c Z a0 n0 kb ws y bytes ml ret T L cells slots) {pc : Nat} {Ls : Array Slot} {st : List Value} {a : Addr} {vs : List Value} {j : Int32} {v : Value} (hd : decode bytes pc = .ok (.baload, 1)) (i : Nat) (hi : L[i]? = some (a, .inr (.boolean, vs))) (jn : Nat) (hj : j.toInt = (jn : Int)) (hv : vs[jn]? = some v) (pc' : Nat) (hp : pc + 1 = pc')
    (kt : Go p e below Z n0 kg E P T (mkF m pc' Ls (v :: st))) : Go p e below Z n0 kg E P T (mkF m pc Ls (.int j :: .ref a :: st)) := by
  subst hp
  obtain ⟨⟨locs, X, N⟩, H, hx, hZ, hown, hby, hml, hret, hlk, hnm, hws⟩ := w
  obtain ⟨cl, A, -, ev, hl⟩ := H.arr hi
  obtain ⟨q1, q2⟩ := inb hj ev (List.getElem?_eq_some_iff.mp hv).1
  exact kt.pre fun t q => X.baloadBooleans hx (j := j) (v := v) A.1 (State.isArrayOf_alike hZ.alike A.2.1) A.2.2 q1 (by rw [q2, ← hv, ← ev]; simp) (g := mkF m pc Ls (.int j :: .ref a :: st)) rfl rfl (hb hby hd) t q
theorem g_iastore (w : Wd p l e R s m args below meth c Z a0 n0 kb ws y bytes ml ret T L cells slots) {pc : Nat} {Ls : Array Slot} {st : List Value} {a : Addr} {vs : List Value} {j : Int32} {x : Int32} (hd : decode bytes pc = .ok (.iastore, 1)) (i : Nat) (hi : L[i]? = some (a, .inr (.int, vs))) (jn : Nat) (hj : j.toInt = (jn : Int)) (hl : jn < vs.length) (v : Value) (hv : (.int x) = v) (pc' : Nat) (hp : pc + 1 = pc')
    (kt : ∀ T', Wd p l e R s m args below meth c Z a0 n0 kb ws y bytes ml ret T' (L.set i (a, .inr (.int, vs.set jn v))) cells slots → Go p e below Z n0 kg E P T' (mkF m pc' Ls st)) : Go p e below Z n0 kg E P T (mkF m pc Ls (.int x :: .int j :: .ref a :: st)) := by
  subst hp hv
  obtain ⟨⟨locs, X, N⟩, H, hx, hZ, hown, hby, hml, hret, hlk, hnm, hws⟩ := w
  obtain ⟨cl, A, XA, ev, hL⟩ := H.arr hi
  obtain ⟨q1, q2⟩ := inb hj ev hl
  obtain ⟨T', h', X', e', W, st'⟩ := stI X hx hZ rfl A (j := j) (x := x) q1 (g := mkF m pc Ls (.int x :: .int j :: .ref a :: st)) rfl rfl (hb hby hd)
  rw [q2] at W
  refine (kt T' ⟨⟨_, X', Fr.snoc X' N (H.ge hi)⟩, ?_, hx, hZ, hown, hby, hml, hret, hlk, hnm, hws⟩).pre st'
  rw [e']
  exact H.put hi W (Is.elem A XA ev hL W)
theorem g_lastore (w : Wd p l e R s m args below meth c Z a0 n0 kb ws y bytes ml ret T L cells slots) {pc : Nat} {Ls : Array Slot} {st : List Value} {a : Addr} {vs : List Value} {j : Int32} {x : Int64} (hd : decode bytes pc = .ok (.lastore, 1)) (i : Nat) (hi : L[i]? = some (a, .inr (.long, vs))) (jn : Nat) (hj : j.toInt = (jn : Int)) (hl : jn < vs.length) (v : Value) (hv : (.long x) = v) (pc' : Nat) (hp : pc + 1 = pc')
    (kt : ∀ T', Wd p l e R s m args below meth c Z a0 n0 kb ws y bytes ml ret T' (L.set i (a, .inr (.long, vs.set jn v))) cells slots → Go p e below Z n0 kg E P T' (mkF m pc' Ls st)) : Go p e below Z n0 kg E P T (mkF m pc Ls (.long x :: .int j :: .ref a :: st)) := by
  subst hp hv
  obtain ⟨⟨locs, X, N⟩, H, hx, hZ, hown, hby, hml, hret, hlk, hnm, hws⟩ := w
  obtain ⟨cl, A, XA, ev, hL⟩ := H.arr hi
  obtain ⟨q1, q2⟩ := inb hj ev hl
  obtain ⟨T', h', X', e', W, st'⟩ := stJ X hx hZ rfl A (j := j) (x := x) q1 (g := mkF m pc Ls (.long x :: .int j :: .ref a :: st)) rfl rfl (hb hby hd)
  rw [q2] at W
  refine (kt T' ⟨⟨_, X', Fr.snoc X' N (H.ge hi)⟩, ?_, hx, hZ, hown, hby, hml, hret, hlk, hnm, hws⟩).pre st'
  rw [e']
  exact H.put hi W (Is.elem A XA ev hL W)
theorem g_castore (w : Wd p l e R s m args below meth c Z a0 n0 kb ws y bytes ml ret T L cells slots) {pc : Nat} {Ls : Array Slot} {st : List Value} {a : Addr} {vs : List Value} {j : Int32} {x : Int32} (hd : decode bytes pc = .ok (.castore, 1)) (i : Nat) (hi : L[i]? = some (a, .inr (.char, vs))) (jn : Nat) (hj : j.toInt = (jn : Int)) (hl : jn < vs.length) (v : Value) (hv : (.int (nar .char x)) = v) (pc' : Nat) (hp : pc + 1 = pc')
    (kt : ∀ T', Wd p l e R s m args below meth c Z a0 n0 kb ws y bytes ml ret T' (L.set i (a, .inr (.char, vs.set jn v))) cells slots → Go p e below Z n0 kg E P T' (mkF m pc' Ls st)) : Go p e below Z n0 kg E P T (mkF m pc Ls (.int x :: .int j :: .ref a :: st)) := by
  subst hp hv
  obtain ⟨⟨locs, X, N⟩, H, hx, hZ, hown, hby, hml, hret, hlk, hnm, hws⟩ := w
  obtain ⟨cl, A, XA, ev, hL⟩ := H.arr hi
  obtain ⟨q1, q2⟩ := inb hj ev hl
  obtain ⟨T', h', X', e', W, st'⟩ := stC X hx hZ rfl A (j := j) (x := x) q1 (g := mkF m pc Ls (.int x :: .int j :: .ref a :: st)) rfl rfl (hb hby hd)
  rw [q2] at W
  refine (kt T' ⟨⟨_, X', Fr.snoc X' N (H.ge hi)⟩, ?_, hx, hZ, hown, hby, hml, hret, hlk, hnm, hws⟩).pre st'
  rw [e']
  exact H.put hi W (Is.elem A XA ev hL W)
theorem g_bastore (w : Wd p l e R s m args below meth c Z a0 n0 kb ws y bytes ml ret T L cells slots) {pc : Nat} {Ls : Array Slot} {st : List Value} {a : Addr} {vs : List Value} {j : Int32} {x : Int32} (hd : decode bytes pc = .ok (.bastore, 1)) (i : Nat) (hi : L[i]? = some (a, .inr (.byte, vs))) (jn : Nat) (hj : j.toInt = (jn : Int)) (hl : jn < vs.length) (v : Value) (hv : (.int (nar .byte x)) = v) (pc' : Nat) (hp : pc + 1 = pc')
    (kt : ∀ T', Wd p l e R s m args below meth c Z a0 n0 kb ws y bytes ml ret T' (L.set i (a, .inr (.byte, vs.set jn v))) cells slots → Go p e below Z n0 kg E P T' (mkF m pc' Ls st)) : Go p e below Z n0 kg E P T (mkF m pc Ls (.int x :: .int j :: .ref a :: st)) := by
  subst hp hv
  obtain ⟨⟨locs, X, N⟩, H, hx, hZ, hown, hby, hml, hret, hlk, hnm, hws⟩ := w
  obtain ⟨cl, A, XA, ev, hL⟩ := H.arr hi
  obtain ⟨q1, q2⟩ := inb hj ev hl
  obtain ⟨T', h', X', e', W, st'⟩ := stB X hx hZ rfl A (j := j) (x := x) q1 (g := mkF m pc Ls (.int x :: .int j :: .ref a :: st)) rfl rfl (hb hby hd)
  rw [q2] at W
  refine (kt T' ⟨⟨_, X', Fr.snoc X' N (H.ge hi)⟩, ?_, hx, hZ, hown, hby, hml, hret, hlk, hnm, hws⟩).pre st'
  rw [e']
  exact H.put hi W (Is.elem A XA ev hL W)
theorem g_zastore (w : Wd p l e R s m args below meth c Z a0 n0 kb ws y bytes ml ret T L cells slots) {pc : Nat} {Ls : Array Slot} {st : List Value} {a : Addr} {vs : List Value} {j : Int32} {x : Int32} (hd : decode bytes pc = .ok (.bastore, 1)) (i : Nat) (hi : L[i]? = some (a, .inr (.boolean, vs))) (jn : Nat) (hj : j.toInt = (jn : Int)) (hl : jn < vs.length) (v : Value) (hv : (.int (nar .boolean x)) = v) (pc' : Nat) (hp : pc + 1 = pc')
    (kt : ∀ T', Wd p l e R s m args below meth c Z a0 n0 kb ws y bytes ml ret T' (L.set i (a, .inr (.boolean, vs.set jn v))) cells slots → Go p e below Z n0 kg E P T' (mkF m pc' Ls st)) : Go p e below Z n0 kg E P T (mkF m pc Ls (.int x :: .int j :: .ref a :: st)) := by
  subst hp hv
  obtain ⟨⟨locs, X, N⟩, H, hx, hZ, hown, hby, hml, hret, hlk, hnm, hws⟩ := w
  obtain ⟨cl, A, XA, ev, hL⟩ := H.arr hi
  obtain ⟨q1, q2⟩ := inb hj ev hl
  obtain ⟨T', h', X', e', W, st'⟩ := stZ X hx hZ rfl A (j := j) (x := x) q1 (g := mkF m pc Ls (.int x :: .int j :: .ref a :: st)) rfl rfl (hb hby hd)
  rw [q2] at W
  refine (kt T' ⟨⟨_, X', Fr.snoc X' N (H.ge hi)⟩, ?_, hx, hZ, hown, hby, hml, hret, hlk, hnm, hws⟩).pre st'
  rw [e']
  exact H.put hi W (Is.elem A XA ev hL W)
theorem g_iadd (w : Wd p l e R s m args below meth c Z a0 n0 kb ws y bytes ml ret T L cells slots) {pc : Nat} {Ls : Array Slot} {x y : Int32} {st : List Value} (hd : decode bytes pc = .ok (.iadd, 1)) (pc' : Nat) (hp : pc + 1 = pc')
    (k : Go p e below Z n0 kg E P T (mkF m pc' Ls (.int (x + y) :: st))) : Go p e below Z n0 kg E P T (mkF m pc Ls (.int y :: .int x :: st)) := by
  subst hp
  exact k.pre fun t q => XS.iadd w.here w.hx rfl (hb w.hby hd) rfl q
theorem g_isub (w : Wd p l e R s m args below meth c Z a0 n0 kb ws y bytes ml ret T L cells slots) {pc : Nat} {Ls : Array Slot} {x y : Int32} {st : List Value} (hd : decode bytes pc = .ok (.isub, 1)) (pc' : Nat) (hp : pc + 1 = pc')
    (k : Go p e below Z n0 kg E P T (mkF m pc' Ls (.int (x - y) :: st))) : Go p e below Z n0 kg E P T (mkF m pc Ls (.int y :: .int x :: st)) := by
  subst hp
  exact k.pre fun t q => XS.isub w.here w.hx rfl (hb w.hby hd) rfl q
theorem g_imul (w : Wd p l e R s m args below meth c Z a0 n0 kb ws y bytes ml ret T L cells slots) {pc : Nat} {Ls : Array Slot} {x y : Int32} {st : List Value} (hd : decode bytes pc = .ok (.imul, 1)) (pc' : Nat) (hp : pc + 1 = pc')
    (k : Go p e below Z n0 kg E P T (mkF m pc' Ls (.int (x * y) :: st))) : Go p e below Z n0 kg E P T (mkF m pc Ls (.int y :: .int x :: st)) := by
  subst hp
  exact k.pre fun t q => XS.imul w.here w.hx rfl (hb w.hby hd) rfl q
theorem g_iand (w : Wd p l e R s m args below meth c Z a0 n0 kb ws y bytes ml ret T L cells slots) {pc : Nat} {Ls : Array Slot} {x y : Int32} {st : List Value} (hd : decode bytes pc = .ok (.iand, 1)) (pc' : Nat) (hp : pc + 1 = pc')
    (k : Go p e below Z n0 kg E P T (mkF m pc' Ls (.int (x &&& y) :: st))) : Go p e below Z n0 kg E P T (mkF m pc Ls (.int y :: .int x :: st)) := by
  subst hp
  exact k.pre fun t q => XS.iand w.here w.hx rfl (hb w.hby hd) rfl q
theorem g_ior (w : Wd p l e R s m args below meth c Z a0 n0 kb ws y bytes ml ret T L cells slots) {pc : Nat} {Ls : Array Slot} {x y : Int32} {st : List Value} (hd : decode bytes pc = .ok (.ior, 1)) (pc' : Nat) (hp : pc + 1 = pc')
    (k : Go p e below Z n0 kg E P T (mkF m pc' Ls (.int (x ||| y) :: st))) : Go p e below Z n0 kg E P T (mkF m pc Ls (.int y :: .int x :: st)) := by
  subst hp
  exact k.pre fun t q => XT.ior w.here w.hx rfl (hb w.hby hd) rfl q
theorem g_ixor (w : Wd p l e R s m args below meth c Z a0 n0 kb ws y bytes ml ret T L cells slots) {pc : Nat} {Ls : Array Slot} {x y : Int32} {st : List Value} (hd : decode bytes pc = .ok (.ixor, 1)) (pc' : Nat) (hp : pc + 1 = pc')
    (k : Go p e below Z n0 kg E P T (mkF m pc' Ls (.int (x ^^^ y) :: st))) : Go p e below Z n0 kg E P T (mkF m pc Ls (.int y :: .int x :: st)) := by
  subst hp
  exact k.pre fun t q => XT.ixor w.here w.hx rfl (hb w.hby hd) rfl q
theorem g_ishl (w : Wd p l e R s m args below meth c Z a0 n0 kb ws y bytes ml ret T L cells slots) {pc : Nat} {Ls : Array Slot} {x y : Int32} {st : List Value} (hd : decode bytes pc = .ok (.ishl, 1)) (pc' : Nat) (hp : pc + 1 = pc')
    (k : Go p e below Z n0 kg E P T (mkF m pc' Ls (.int (x <<< (y &&& 31)) :: st))) : Go p e below Z n0 kg E P T (mkF m pc Ls (.int y :: .int x :: st)) := by
  subst hp
  exact k.pre fun t q => XS.ishl w.here w.hx rfl (hb w.hby hd) rfl q
theorem g_ishr (w : Wd p l e R s m args below meth c Z a0 n0 kb ws y bytes ml ret T L cells slots) {pc : Nat} {Ls : Array Slot} {x y : Int32} {st : List Value} (hd : decode bytes pc = .ok (.ishr, 1)) (pc' : Nat) (hp : pc + 1 = pc')
    (k : Go p e below Z n0 kg E P T (mkF m pc' Ls (.int (x >>> (y &&& 31)) :: st))) : Go p e below Z n0 kg E P T (mkF m pc Ls (.int y :: .int x :: st)) := by
  subst hp
  exact k.pre fun t q => XS.ishr w.here w.hx rfl (hb w.hby hd) rfl q
theorem g_iushr (w : Wd p l e R s m args below meth c Z a0 n0 kb ws y bytes ml ret T L cells slots) {pc : Nat} {Ls : Array Slot} {x y : Int32} {st : List Value} (hd : decode bytes pc = .ok (.iushr, 1)) (pc' : Nat) (hp : pc + 1 = pc')
    (k : Go p e below Z n0 kg E P T (mkF m pc' Ls (.int (ushrI x y) :: st))) : Go p e below Z n0 kg E P T (mkF m pc Ls (.int y :: .int x :: st)) := by
  subst hp
  exact k.pre fun t q => XS.iushr w.here w.hx rfl (hb w.hby hd) rfl q
theorem g_ladd (w : Wd p l e R s m args below meth c Z a0 n0 kb ws y bytes ml ret T L cells slots) {pc : Nat} {Ls : Array Slot} {x y : Int64} {st : List Value} (hd : decode bytes pc = .ok (.ladd, 1)) (pc' : Nat) (hp : pc + 1 = pc')
    (k : Go p e below Z n0 kg E P T (mkF m pc' Ls (.long (x + y) :: st))) : Go p e below Z n0 kg E P T (mkF m pc Ls (.long y :: .long x :: st)) := by
  subst hp
  exact k.pre fun t q => XT.ladd w.here w.hx rfl (hb w.hby hd) rfl q
theorem g_lsub (w : Wd p l e R s m args below meth c Z a0 n0 kb ws y bytes ml ret T L cells slots) {pc : Nat} {Ls : Array Slot} {x y : Int64} {st : List Value} (hd : decode bytes pc = .ok (.lsub, 1)) (pc' : Nat) (hp : pc + 1 = pc')
    (k : Go p e below Z n0 kg E P T (mkF m pc' Ls (.long (x - y) :: st))) : Go p e below Z n0 kg E P T (mkF m pc Ls (.long y :: .long x :: st)) := by
  subst hp
  exact k.pre fun t q => XT.lsub w.here w.hx rfl (hb w.hby hd) rfl q
theorem g_lmul (w : Wd p l e R s m args below meth c Z a0 n0 kb ws y bytes ml ret T L cells slots) {pc : Nat} {Ls : Array Slot} {x y : Int64} {st : List Value} (hd : decode bytes pc = .ok (.lmul, 1)) (pc' : Nat) (hp : pc + 1 = pc')
    (k : Go p e below Z n0 kg E P T (mkF m pc' Ls (.long (x * y) :: st))) : Go p e below Z n0 kg E P T (mkF m pc Ls (.long y :: .long x :: st)) := by
  subst hp
  exact k.pre fun t q => XT.lmul w.here w.hx rfl (hb w.hby hd) rfl q
theorem g_land (w : Wd p l e R s m args below meth c Z a0 n0 kb ws y bytes ml ret T L cells slots) {pc : Nat} {Ls : Array Slot} {x y : Int64} {st : List Value} (hd : decode bytes pc = .ok (.land, 1)) (pc' : Nat) (hp : pc + 1 = pc')
    (k : Go p e below Z n0 kg E P T (mkF m pc' Ls (.long (x &&& y) :: st))) : Go p e below Z n0 kg E P T (mkF m pc Ls (.long y :: .long x :: st)) := by
  subst hp
  exact k.pre fun t q => XT.land w.here w.hx rfl (hb w.hby hd) rfl q
theorem g_lor (w : Wd p l e R s m args below meth c Z a0 n0 kb ws y bytes ml ret T L cells slots) {pc : Nat} {Ls : Array Slot} {x y : Int64} {st : List Value} (hd : decode bytes pc = .ok (.lor, 1)) (pc' : Nat) (hp : pc + 1 = pc')
    (k : Go p e below Z n0 kg E P T (mkF m pc' Ls (.long (x ||| y) :: st))) : Go p e below Z n0 kg E P T (mkF m pc Ls (.long y :: .long x :: st)) := by
  subst hp
  exact k.pre fun t q => XT.lor w.here w.hx rfl (hb w.hby hd) rfl q
theorem g_lxor (w : Wd p l e R s m args below meth c Z a0 n0 kb ws y bytes ml ret T L cells slots) {pc : Nat} {Ls : Array Slot} {x y : Int64} {st : List Value} (hd : decode bytes pc = .ok (.lxor, 1)) (pc' : Nat) (hp : pc + 1 = pc')
    (k : Go p e below Z n0 kg E P T (mkF m pc' Ls (.long (x ^^^ y) :: st))) : Go p e below Z n0 kg E P T (mkF m pc Ls (.long y :: .long x :: st)) := by
  subst hp
  exact k.pre fun t q => XT.lxor w.here w.hx rfl (hb w.hby hd) rfl q
theorem g_lshl (w : Wd p l e R s m args below meth c Z a0 n0 kb ws y bytes ml ret T L cells slots) {pc : Nat} {Ls : Array Slot} {x : Int64} {y : Int32} {st : List Value} (hd : decode bytes pc = .ok (.lshl, 1)) (pc' : Nat) (hp : pc + 1 = pc')
    (k : Go p e below Z n0 kg E P T (mkF m pc' Ls (.long (shlL x y) :: st))) : Go p e below Z n0 kg E P T (mkF m pc Ls (.int y :: .long x :: st)) := by
  subst hp
  exact k.pre fun t q => XS.lshl w.here w.hx rfl (hb w.hby hd) rfl q
theorem g_lshr (w : Wd p l e R s m args below meth c Z a0 n0 kb ws y bytes ml ret T L cells slots) {pc : Nat} {Ls : Array Slot} {x : Int64} {y : Int32} {st : List Value} (hd : decode bytes pc = .ok (.lshr, 1)) (pc' : Nat) (hp : pc + 1 = pc')
    (k : Go p e below Z n0 kg E P T (mkF m pc' Ls (.long (shrL x y) :: st))) : Go p e below Z n0 kg E P T (mkF m pc Ls (.int y :: .long x :: st)) := by
  subst hp
  exact k.pre fun t q => XS.lshr w.here w.hx rfl (hb w.hby hd) rfl q
theorem g_lushr (w : Wd p l e R s m args below meth c Z a0 n0 kb ws y bytes ml ret T L cells slots) {pc : Nat} {Ls : Array Slot} {x : Int64} {y : Int32} {st : List Value} (hd : decode bytes pc = .ok (.lushr, 1)) (pc' : Nat) (hp : pc + 1 = pc')
    (k : Go p e below Z n0 kg E P T (mkF m pc' Ls (.long (ushrL x y) :: st))) : Go p e below Z n0 kg E P T (mkF m pc Ls (.int y :: .long x :: st)) := by
  subst hp
  exact k.pre fun t q => XS.lushr w.here w.hx rfl (hb w.hby hd) rfl q
theorem g_lcmp (w : Wd p l e R s m args below meth c Z a0 n0 kb ws y bytes ml ret T L cells slots) {pc : Nat} {Ls : Array Slot} {x y : Int64} {st : List Value} (hd : decode bytes pc = .ok (.lcmp, 1)) (pc' : Nat) (hp : pc + 1 = pc')
    (k : Go p e below Z n0 kg E P T (mkF m pc' Ls (.int (XT.cmpL x y) :: st))) : Go p e below Z n0 kg E P T (mkF m pc Ls (.long y :: .long x :: st)) := by
  subst hp
  exact k.pre fun t q => XT.lcmp w.here w.hx rfl (hb w.hby hd) rfl q
theorem g_idiv (w : Wd p l e R s m args below meth c Z a0 n0 kb ws y bytes ml ret T L cells slots) {pc : Nat} {Ls : Array Slot} {x y : Int32} {st : List Value} (hd : decode bytes pc = .ok (.idiv, 1)) (hy : y ≠ 0) (pc' : Nat) (hp : pc + 1 = pc')
    (k : Go p e below Z n0 kg E P T (mkF m pc' Ls (.int (x / y) :: st))) : Go p e below Z n0 kg E P T (mkF m pc Ls (.int y :: .int x :: st)) := by
  subst hp
  exact k.pre fun t q => XS.idiv w.here w.hx rfl (hb w.hby hd) rfl hy q
theorem g_ldiv (w : Wd p l e R s m args below meth c Z a0 n0 kb ws y bytes ml ret T L cells slots) {pc : Nat} {Ls : Array Slot} {x y : Int64} {st : List Value} (hd : decode bytes pc = .ok (.ldiv, 1)) (hy : y ≠ 0) (pc' : Nat) (hp : pc + 1 = pc')
    (k : Go p e below Z n0 kg E P T (mkF m pc' Ls (.long (x / y) :: st))) : Go p e below Z n0 kg E P T (mkF m pc Ls (.long y :: .long x :: st)) := by
  subst hp
  exact k.pre fun t q => XT.ldiv w.here w.hx rfl (hb w.hby hd) rfl hy q
theorem g_irem (w : Wd p l e R s m args below meth c Z a0 n0 kb ws y bytes ml ret T L cells slots) {pc : Nat} {Ls : Array Slot} {x y : Int32} {st : List Value} (hd : decode bytes pc = .ok (.irem, 1)) (hy : y ≠ 0) (pc' : Nat) (hp : pc + 1 = pc')
    (k : Go p e below Z n0 kg E P T (mkF m pc' Ls (.int (x % y) :: st))) : Go p e below Z n0 kg E P T (mkF m pc Ls (.int y :: .int x :: st)) := by
  subst hp
  exact k.pre fun t q => XS.irem w.here w.hx rfl (hb w.hby hd) rfl hy (by rw [irem_eq_mod]; exact q)
theorem g_lrem (w : Wd p l e R s m args below meth c Z a0 n0 kb ws y bytes ml ret T L cells slots) {pc : Nat} {Ls : Array Slot} {x y : Int64} {st : List Value} (hd : decode bytes pc = .ok (.lrem, 1)) (hy : y ≠ 0) (pc' : Nat) (hp : pc + 1 = pc')
    (k : Go p e below Z n0 kg E P T (mkF m pc' Ls (.long (x % y) :: st))) : Go p e below Z n0 kg E P T (mkF m pc Ls (.long y :: .long x :: st)) := by
  subst hp
  exact k.pre fun t q => XT.lrem w.here w.hx rfl (hb w.hby hd) rfl hy (by rw [lrem_mod]; exact q)
theorem g_ineg (w : Wd p l e R s m args below meth c Z a0 n0 kb ws y bytes ml ret T L cells slots) {pc : Nat} {Ls : Array Slot} {x : Int32} {st : List Value} (hd : decode bytes pc = .ok (.ineg, 1)) (pc' : Nat) (hp : pc + 1 = pc')
    (k : Go p e below Z n0 kg E P T (mkF m pc' Ls (.int (-x) :: st))) : Go p e below Z n0 kg E P T (mkF m pc Ls (.int x :: st)) := by
  subst hp
  exact k.pre fun t q => XS.ineg w.here w.hx rfl (hb w.hby hd) rfl q
theorem g_lneg (w : Wd p l e R s m args below meth c Z a0 n0 kb ws y bytes ml ret T L cells slots) {pc : Nat} {Ls : Array Slot} {x : Int64} {st : List Value} (hd : decode bytes pc = .ok (.lneg, 1)) (pc' : Nat) (hp : pc + 1 = pc')
    (k : Go p e below Z n0 kg E P T (mkF m pc' Ls (.long (-x) :: st))) : Go p e below Z n0 kg E P T (mkF m pc Ls (.long x :: st)) := by
  subst hp
  exact k.pre fun t q => XT.lneg w.here w.hx rfl (hb w.hby hd) rfl q
theorem g_i2l (w : Wd p l e R s m args below meth c Z a0 n0 kb ws y bytes ml ret T L cells slots) {pc : Nat} {Ls : Array Slot} {x : Int32} {st : List Value} (hd : decode bytes pc = .ok (.i2l, 1)) (pc' : Nat) (hp : pc + 1 = pc')
    (k : Go p e below Z n0 kg E P T (mkF m pc' Ls (.long (x.toInt64) :: st))) : Go p e below Z n0 kg E P T (mkF m pc Ls (.int x :: st)) := by
  subst hp
  exact k.pre fun t q => XT.i2l w.here w.hx rfl (hb w.hby hd) rfl q
theorem g_l2i (w : Wd p l e R s m args below meth c Z a0 n0 kb ws y bytes ml ret T L cells slots) {pc : Nat} {Ls : Array Slot} {x : Int64} {st : List Value} (hd : decode bytes pc = .ok (.l2i, 1)) (pc' : Nat) (hp : pc + 1 = pc')
    (k : Go p e below Z n0 kg E P T (mkF m pc' Ls (.int (x.toInt32) :: st))) : Go p e below Z n0 kg E P T (mkF m pc Ls (.long x :: st)) := by
  subst hp
  exact k.pre fun t q => XT.l2i w.here w.hx rfl (hb w.hby hd) rfl q
theorem g_i2b (w : Wd p l e R s m args below meth c Z a0 n0 kb ws y bytes ml ret T L cells slots) {pc : Nat} {Ls : Array Slot} {x : Int32} {st : List Value} (hd : decode bytes pc = .ok (.i2b, 1)) (pc' : Nat) (hp : pc + 1 = pc')
    (k : Go p e below Z n0 kg E P T (mkF m pc' Ls (.int (x.toInt8.toInt32) :: st))) : Go p e below Z n0 kg E P T (mkF m pc Ls (.int x :: st)) := by
  subst hp
  exact k.pre fun t q => XT.i2b w.here w.hx rfl (hb w.hby hd) rfl q
theorem g_i2c (w : Wd p l e R s m args below meth c Z a0 n0 kb ws y bytes ml ret T L cells slots) {pc : Nat} {Ls : Array Slot} {x : Int32} {st : List Value} (hd : decode bytes pc = .ok (.i2c, 1)) (pc' : Nat) (hp : pc + 1 = pc')
    (k : Go p e below Z n0 kg E P T (mkF m pc' Ls (.int (x.toUInt32.toUInt16.toUInt32.toInt32) :: st))) : Go p e below Z n0 kg E P T (mkF m pc Ls (.int x :: st)) := by
  subst hp
  exact k.pre fun t q => XT.i2c w.here w.hx rfl (hb w.hby hd) rfl q
theorem g_i2s (w : Wd p l e R s m args below meth c Z a0 n0 kb ws y bytes ml ret T L cells slots) {pc : Nat} {Ls : Array Slot} {x : Int32} {st : List Value} (hd : decode bytes pc = .ok (.i2s, 1)) (pc' : Nat) (hp : pc + 1 = pc')
    (k : Go p e below Z n0 kg E P T (mkF m pc' Ls (.int (x.toInt16.toInt32) :: st))) : Go p e below Z n0 kg E P T (mkF m pc Ls (.int x :: st)) := by
  subst hp
  exact k.pre fun t q => XT.i2s w.here w.hx rfl (hb w.hby hd) rfl q
theorem g_iload (w : Wd p l e R s m args below meth c Z a0 n0 kb ws y bytes ml ret T L cells slots) {pc : Nat} {Ls : Array Slot} {i : Nat} {v : Int32} {st : List Value} (hd : decode bytes pc = .ok (.iload i, 2)) (hl : Ls[i]? = some (.val (.int v))) (pc' : Nat) (hp : pc + 2 = pc')
    (k : Go p e below Z n0 kg E P T (mkF m pc' Ls (.int v :: st))) : Go p e below Z n0 kg E P T (mkF m pc Ls (st)) := by
  subst hp
  exact k.pre fun t q => XS.iload w.here w.hx rfl (hb w.hby hd) hl q
theorem g_iloadN (w : Wd p l e R s m args below meth c Z a0 n0 kb ws y bytes ml ret T L cells slots) {pc : Nat} {Ls : Array Slot} {i : Fin 4} {v : Int32} {st : List Value} (hd : decode bytes pc = .ok (.iload_n i, 1)) (hl : Ls[i.val]? = some (.val (.int v))) (pc' : Nat) (hp : pc + 1 = pc')
    (k : Go p e below Z n0 kg E P T (mkF m pc' Ls (.int v :: st))) : Go p e below Z n0 kg E P T (mkF m pc Ls (st)) := by
  subst hp
  exact k.pre fun t q => XS.iloadN w.here w.hx rfl (hb w.hby hd) hl q
theorem g_lload (w : Wd p l e R s m args below meth c Z a0 n0 kb ws y bytes ml ret T L cells slots) {pc : Nat} {Ls : Array Slot} {i : Nat} {v : Int64} {st : List Value} (hd : decode bytes pc = .ok (.lload i, 2)) (hl : Ls[i]? = some (.val (.long v))) (pc' : Nat) (hp : pc + 2 = pc')
    (k : Go p e below Z n0 kg E P T (mkF m pc' Ls (.long v :: st))) : Go p e below Z n0 kg E P T (mkF m pc Ls (st)) := by
  subst hp
  exact k.pre fun t q => XT.lload w.here w.hx rfl (hb w.hby hd) hl q
theorem g_lloadN (w : Wd p l e R s m args below meth c Z a0 n0 kb ws y bytes ml ret T L cells slots) {pc : Nat} {Ls : Array Slot} {i : Fin 4} {v : Int64} {st : List Value} (hd : decode bytes pc = .ok (.lload_n i, 1)) (hl : Ls[i.val]? = some (.val (.long v))) (pc' : Nat) (hp : pc + 1 = pc')
    (k : Go p e below Z n0 kg E P T (mkF m pc' Ls (.long v :: st))) : Go p e below Z n0 kg E P T (mkF m pc Ls (st)) := by
  subst hp
  exact k.pre fun t q => XT.lloadN w.here w.hx rfl (hb w.hby hd) hl q
theorem g_aload (w : Wd p l e R s m args below meth c Z a0 n0 kb ws y bytes ml ret T L cells slots) {pc : Nat} {Ls : Array Slot} {i : Nat} {v : Value} {st : List Value} (hd : decode bytes pc = .ok (.aload i, 2)) (hl : Ls[i]? = some (.val v)) (hv : v.isRef = true) (pc' : Nat) (hp : pc + 2 = pc')
    (k : Go p e below Z n0 kg E P T (mkF m pc' Ls (v :: st))) : Go p e below Z n0 kg E P T (mkF m pc Ls (st)) := by
  subst hp
  exact k.pre fun t q => XS.aload w.here w.hx rfl (hb w.hby hd) hl hv q
theorem g_aloadN (w : Wd p l e R s m args below meth c Z a0 n0 kb ws y bytes ml ret T L cells slots) {pc : Nat} {Ls : Array Slot} {i : Fin 4} {v : Value} {st : List Value} (hd : decode bytes pc = .ok (.aload_n i, 1)) (hl : Ls[i.val]? = some (.val v)) (hv : v.isRef = true) (pc' : Nat) (hp : pc + 1 = pc')
    (k : Go p e below Z n0 kg E P T (mkF m pc' Ls (v :: st))) : Go p e below Z n0 kg E P T (mkF m pc Ls (st)) := by
  subst hp
  exact k.pre fun t q => XS.aloadN w.here w.hx rfl (hb w.hby hd) hl hv q
theorem g_iconst (w : Wd p l e R s m args below meth c Z a0 n0 kb ws y bytes ml ret T L cells slots) {pc : Nat} {Ls : Array Slot} {i : Int} {st : List Value} (hd : decode bytes pc = .ok (.iconst i, 1)) (z : Int32) (hz : Int32.ofInt i = z) (pc' : Nat) (hp : pc + 1 = pc')
    (k : Go p e below Z n0 kg E P T (mkF m pc' Ls (.int z :: st))) : Go p e below Z n0 kg E P T (mkF m pc Ls (st)) := by
  subst hp
  exact k.pre fun t q => XS.iconst w.here w.hx rfl (hb w.hby hd) (by rw [hz]; exact q)
theorem g_bipush (w : Wd p l e R s m args below meth c Z a0 n0 kb ws y bytes ml ret T L cells slots) {pc : Nat} {Ls : Array Slot} {i : Int} {st : List Value} (hd : decode bytes pc = .ok (.bipush i, 2)) (z : Int32) (hz : (Int8.ofInt i).toInt32 = z) (pc' : Nat) (hp : pc + 2 = pc')
    (k : Go p e below Z n0 kg E P T (mkF m pc' Ls (.int z :: st))) : Go p e below Z n0 kg E P T (mkF m pc Ls (st)) := by
  subst hp
  exact k.pre fun t q => XS.bipush w.here w.hx rfl (hb w.hby hd) (by rw [hz]; exact q)
theorem g_sipush (w : Wd p l e R s m args below meth c Z a0 n0 kb ws y bytes ml ret T L cells slots) {pc : Nat} {Ls : Array Slot} {i : Int} {st : List Value} (hd : decode bytes pc = .ok (.sipush i, 3)) (z : Int32) (hz : (Int16.ofInt i).toInt32 = z) (pc' : Nat) (hp : pc + 3 = pc')
    (k : Go p e below Z n0 kg E P T (mkF m pc' Ls (.int z :: st))) : Go p e below Z n0 kg E P T (mkF m pc Ls (st)) := by
  subst hp
  exact k.pre fun t q => XS.sipush w.here w.hx rfl (hb w.hby hd) (by rw [hz]; exact q)
theorem g_lconst (w : Wd p l e R s m args below meth c Z a0 n0 kb ws y bytes ml ret T L cells slots) {pc : Nat} {Ls : Array Slot} {i : Fin 2} {st : List Value} (hd : decode bytes pc = .ok (.lconst i, 1)) (z : Int64) (hz : Int64.ofNat i = z) (pc' : Nat) (hp : pc + 1 = pc')
    (k : Go p e below Z n0 kg E P T (mkF m pc' Ls (.long z :: st))) : Go p e below Z n0 kg E P T (mkF m pc Ls (st)) := by
  subst hp
  exact k.pre fun t q => XT.lconst w.here w.hx rfl (hb w.hby hd) (by rw [hz]; exact q)
theorem g_anull (w : Wd p l e R s m args below meth c Z a0 n0 kb ws y bytes ml ret T L cells slots) {pc : Nat} {Ls : Array Slot} {st : List Value} (hd : decode bytes pc = .ok (.aconst_null, 1)) (pc' : Nat) (hp : pc + 1 = pc')
    (k : Go p e below Z n0 kg E P T (mkF m pc' Ls (.null :: st))) : Go p e below Z n0 kg E P T (mkF m pc Ls (st)) := by
  subst hp
  exact k.pre fun t q => XS.aconstNull w.here w.hx rfl (hb w.hby hd) q
theorem g_dup (w : Wd p l e R s m args below meth c Z a0 n0 kb ws y bytes ml ret T L cells slots) {pc : Nat} {Ls : Array Slot} {x : Value} {st : List Value} (hd : decode bytes pc = .ok (.dup, 1)) (hc : x.category = 1) (pc' : Nat) (hp : pc + 1 = pc')
    (k : Go p e below Z n0 kg E P T (mkF m pc' Ls (x :: x :: st))) : Go p e below Z n0 kg E P T (mkF m pc Ls (x :: st)) := by
  subst hp
  exact k.pre fun t q => XS.dup w.here w.hx rfl (hb w.hby hd) rfl hc q
theorem g_pop (w : Wd p l e R s m args below meth c Z a0 n0 kb ws y bytes ml ret T L cells slots) {pc : Nat} {Ls : Array Slot} {x : Value} {st : List Value} (hd : decode bytes pc = .ok (.pop, 1)) (hc : x.category = 1) (pc' : Nat) (hp : pc + 1 = pc')
    (k : Go p e below Z n0 kg E P T (mkF m pc' Ls (st))) : Go p e below Z n0 kg E P T (mkF m pc Ls (x :: st)) := by
  subst hp
  exact k.pre fun t q => XT.pop w.here w.hx rfl (hb w.hby hd) rfl hc q
theorem g_dup_x1 (w : Wd p l e R s m args below meth c Z a0 n0 kb ws y bytes ml ret T L cells slots) {pc : Nat} {Ls : Array Slot} {x x' : Value} {st : List Value} (hd : decode bytes pc = .ok (.dup_x1, 1)) (hc : x.category = 1) (hc' : x'.category = 1) (pc' : Nat) (hp : pc + 1 = pc')
    (k : Go p e below Z n0 kg E P T (mkF m pc' Ls (x :: x' :: x :: st))) : Go p e below Z n0 kg E P T (mkF m pc Ls (x :: x' :: st)) := by
  subst hp
  exact k.pre fun t q => XT.dupX1 w.here w.hx rfl (hb w.hby hd) rfl hc hc' q
theorem g_dup2 (w : Wd p l e R s m args below meth c Z a0 n0 kb ws y bytes ml ret T L cells slots) {pc : Nat} {Ls : Array Slot} {x x' : Value} {st : List Value} (hd : decode bytes pc = .ok (.dup2, 1)) (hc : x.category = 1) (hc' : x'.category = 1) (pc' : Nat) (hp : pc + 1 = pc')
    (k : Go p e below Z n0 kg E P T (mkF m pc' Ls (x :: x' :: x :: x' :: st))) : Go p e below Z n0 kg E P T (mkF m pc Ls (x :: x' :: st)) := by
  subst hp
  exact k.pre fun t q => XT.dup2 w.here w.hx rfl (hb w.hby hd) rfl hc hc' q
theorem g_istore (w : Wd p l e R s m args below meth c Z a0 n0 kb ws y bytes ml ret T L cells slots) {pc : Nat} {Ls : Array Slot} {i : Nat} {x x' : Int32} {st : List Value} (hd : decode bytes pc = .ok (.istore i, 2)) (pc' : Nat) (hp : pc + 2 = pc') (e1 : x = x') (Ls' : Array Slot) (hl : storeLocals Ls i (.int x') = some Ls')
    (k : Go p e below Z n0 kg E P T (mkF m pc' Ls' st)) : Go p e below Z n0 kg E P T (mkF m pc Ls (.int x :: st)) := by
  subst hp e1
  exact k.pre fun t q => XS.istore w.here w.hx rfl (hb w.hby hd) rfl hl q
theorem g_istoreN (w : Wd p l e R s m args below meth c Z a0 n0 kb ws y bytes ml ret T L cells slots) {pc : Nat} {Ls : Array Slot} {i : Fin 4} {x x' : Int32} {st : List Value} (hd : decode bytes pc = .ok (.istore_n i, 1)) (pc' : Nat) (hp : pc + 1 = pc') (e1 : x = x') (Ls' : Array Slot) (hl : storeLocals Ls i.val (.int x') = some Ls')
    (k : Go p e below Z n0 kg E P T (mkF m pc' Ls' st)) : Go p e below Z n0 kg E P T (mkF m pc Ls (.int x :: st)) := by
  subst hp e1
  exact k.pre fun t q => XS.istoreN w.here w.hx rfl (hb w.hby hd) rfl hl q
theorem g_lstore (w : Wd p l e R s m args below meth c Z a0 n0 kb ws y bytes ml ret T L cells slots) {pc : Nat} {Ls : Array Slot} {i : Nat} {x x' : Int64} {st : List Value} (hd : decode bytes pc = .ok (.lstore i, 2)) (pc' : Nat) (hp : pc + 2 = pc') (e1 : x = x') (Ls' : Array Slot) (hl : storeLocals Ls i (.long x') = some Ls')
    (k : Go p e below Z n0 kg E P T (mkF m pc' Ls' st)) : Go p e below Z n0 kg E P T (mkF m pc Ls (.long x :: st)) := by
  subst hp e1
  exact k.pre fun t q => XT.lstore w.here w.hx rfl (hb w.hby hd) rfl hl q
theorem g_lstoreN (w : Wd p l e R s m args below meth c Z a0 n0 kb ws y bytes ml ret T L cells slots) {pc : Nat} {Ls : Array Slot} {i : Fin 4} {x x' : Int64} {st : List Value} (hd : decode bytes pc = .ok (.lstore_n i, 1)) (pc' : Nat) (hp : pc + 1 = pc') (e1 : x = x') (Ls' : Array Slot) (hl : storeLocals Ls i.val (.long x') = some Ls')
    (k : Go p e below Z n0 kg E P T (mkF m pc' Ls' st)) : Go p e below Z n0 kg E P T (mkF m pc Ls (.long x :: st)) := by
  subst hp e1
  exact k.pre fun t q => XT.lstoreN w.here w.hx rfl (hb w.hby hd) rfl hl q
theorem g_astore (w : Wd p l e R s m args below meth c Z a0 n0 kb ws y bytes ml ret T L cells slots) {pc : Nat} {Ls : Array Slot} {i : Nat} {x : Value} {st : List Value} (hd : decode bytes pc = .ok (.astore i, 2)) (pc' : Nat) (hp : pc + 2 = pc') (hv : x.isRef = true) (Ls' : Array Slot) (hl : storeLocals Ls i x = some Ls')
    (k : Go p e below Z n0 kg E P T (mkF m pc' Ls' st)) : Go p e below Z n0 kg E P T (mkF m pc Ls (x :: st)) := by
  subst hp
  exact k.pre fun t q => XS.astore w.here w.hx rfl (hb w.hby hd) rfl hv hl q
theorem g_astoreN (w : Wd p l e R s m args below meth c Z a0 n0 kb ws y bytes ml ret T L cells slots) {pc : Nat} {Ls : Array Slot} {i : Fin 4} {x : Value} {st : List Value} (hd : decode bytes pc = .ok (.astore_n i, 1)) (pc' : Nat) (hp : pc + 1 = pc') (hv : x.isRef = true) (Ls' : Array Slot) (hl : storeLocals Ls i.val x = some Ls')
    (k : Go p e below Z n0 kg E P T (mkF m pc' Ls' st)) : Go p e below Z n0 kg E P T (mkF m pc Ls (x :: st)) := by
  subst hp
  exact k.pre fun t q => XS.astoreN w.here w.hx rfl (hb w.hby hd) rfl hv hl q
theorem g_iinc (w : Wd p l e R s m args below meth c Z a0 n0 kb ws y bytes ml ret T L cells slots) {pc : Nat} {Ls : Array Slot} {i : Nat} {cst : Int} {x x' : Int32} {st : List Value} (hd : decode bytes pc = .ok (.iinc i cst, 3)) (pc' : Nat) (hp : pc + 3 = pc') (hl0 : Ls[i]? = some (.val (.int x))) (e1 : x + Int32.ofInt cst = x') (Ls' : Array Slot) (hl : storeLocals Ls i (.int x') = some Ls')
    (k : Go p e below Z n0 kg E P T (mkF m pc' Ls' st)) : Go p e below Z n0 kg E P T (mkF m pc Ls st) := by
  subst hp e1
  exact k.pre fun t q => XS.iinc w.here w.hx rfl (hb w.hby hd) hl0 hl q
theorem g_goto (w : Wd p l e R s m args below meth c Z a0 n0 kb ws y bytes ml ret T L cells slots) {pc : Nat} {Ls : Array Slot} {o : Int} {st : List Value} (hd : decode bytes pc = .ok (.goto o, 3)) (pc' : Nat) (ho : 0 ≤ (pc : Int) + o) (hp : ((pc : Int) + o).toNat = pc')
    (k : Go p e below Z n0 kg E P T (mkF m pc' Ls st)) : Go p e below Z n0 kg E P T (mkF m pc Ls st) := k.pre fun t q => XS.goto w.here w.hx rfl rfl (hb w.hby hd) ho hp q
theorem g_icmp_eq (w : Wd p l e R s m args below meth c Z a0 n0 kb ws y bytes ml ret T L cells slots) {pc : Nat} {Ls : Array Slot} {x y' : Int32} {o : Int} {st : List Value} (hd : decode bytes pc = .ok (.if_icmp .eq o, 3)) (pcT : Nat) (ho : 0 ≤ (pc : Int) + o) (hT : ((pc : Int) + o).toNat = pcT) (pcF : Nat) (hF : pc + 3 = pcF)
    (k1 : x = y' → Go p e below Z n0 kg E P T (mkF m pcT Ls st)) (k2 : ¬ x = y' → Go p e below Z n0 kg E P T (mkF m pcF Ls st)) : Go p e below Z n0 kg E P T (mkF m pc Ls (.int y' :: .int x :: st)) := by
  subst hF
  by_cases h : x = y'
  · exact (k1 h).pre fun t q => XS.icmpYes w.here w.hx rfl rfl (hb w.hby hd) rfl (XT.ii_eq_t h) ho hT q
  · exact (k2 h).pre fun t q => XS.icmpNo w.here w.hx rfl (hb w.hby hd) rfl (XT.ii_eq_f h) q
theorem g_if_eq (w : Wd p l e R s m args below meth c Z a0 n0 kb ws y bytes ml ret T L cells slots) {pc : Nat} {Ls : Array Slot} {x : Int32} {o : Int} {st : List Value} (hd : decode bytes pc = .ok (.ifCond .eq o, 3)) (pcT : Nat) (ho : 0 ≤ (pc : Int) + o) (hT : ((pc : Int) + o).toNat = pcT) (pcF : Nat) (hF : pc + 3 = pcF)
    (k1 : x = 0 → Go p e below Z n0 kg E P T (mkF m pcT Ls st)) (k2 : ¬ x = 0 → Go p e below Z n0 kg E P T (mkF m pcF Ls st)) : Go p e below Z n0 kg E P T (mkF m pc Ls (.int x :: st)) := by
  subst hF
  by_cases h : x = 0
  · exact (k1 h).pre fun t q => XS.ifYes w.here w.hx rfl rfl (hb w.hby hd) rfl (XT.i0_eq_t h) ho hT q
  · exact (k2 h).pre fun t q => XS.ifNo w.here w.hx rfl (hb w.hby hd) rfl (XT.i0_eq_f h) q
theorem g_lif_eq (w : Wd p l e R s m args below meth c Z a0 n0 kb ws y bytes ml ret T L cells slots) {pc : Nat} {Ls : Array Slot} {x y' : Int64} {o : Int} {st : List Value} (hd : decode bytes pc = .ok (.ifCond .eq o, 3)) (pcT : Nat) (ho : 0 ≤ (pc : Int) + o) (hT : ((pc : Int) + o).toNat = pcT) (pcF : Nat) (hF : pc + 3 = pcF)
    (k1 : x = y' → Go p e below Z n0 kg E P T (mkF m pcT Ls st)) (k2 : ¬ x = y' → Go p e below Z n0 kg E P T (mkF m pcF Ls st)) : Go p e below Z n0 kg E P T (mkF m pc Ls (.int (XT.cmpL x y') :: st)) := by
  subst hF
  by_cases h : x = y'
  · exact (k1 h).pre fun t q => XS.ifYes w.here w.hx rfl rfl (hb w.hby hd) rfl (XT.ll_eq_t h) ho hT q
  · exact (k2 h).pre fun t q => XS.ifNo w.here w.hx rfl (hb w.hby hd) rfl (XT.ll_eq_f h) q
theorem g_icmp_ne (w : Wd p l e R s m args below meth c Z a0 n0 kb ws y bytes ml ret T L cells slots) {pc : Nat} {Ls : Array Slot} {x y' : Int32} {o : Int} {st : List Value} (hd : decode bytes pc = .ok (.if_icmp .ne o, 3)) (pcT : Nat) (ho : 0 ≤ (pc : Int) + o) (hT : ((pc : Int) + o).toNat = pcT) (pcF : Nat) (hF : pc + 3 = pcF)
    (k1 : ¬ x = y' → Go p e below Z n0 kg E P T (mkF m pcT Ls st)) (k2 : x = y' → Go p e below Z n0 kg E P T (mkF m pcF Ls st)) : Go p e below Z n0 kg E P T (mkF m pc Ls (.int y' :: .int x :: st)) := by
  subst hF
  by_cases h : x = y'
  · exact (k2 h).pre fun t q => XS.icmpNo w.here w.hx rfl (hb w.hby hd) rfl (XT.ii_ne_f h) q
  · exact (k1 h).pre fun t q => XS.icmpYes w.here w.hx rfl rfl (hb w.hby hd) rfl (XT.ii_ne_t h) ho hT q
theorem g_if_ne (w : Wd p l e R s m args below meth c Z a0 n0 kb ws y bytes ml ret T L cells slots) {pc : Nat} {Ls : Array Slot} {x : Int32} {o : Int} {st : List Value} (hd : decode bytes pc = .ok (.ifCond .ne o, 3)) (pcT : Nat) (ho : 0 ≤ (pc : Int) + o) (hT : ((pc : Int) + o).toNat = pcT) (pcF : Nat) (hF : pc + 3 = pcF)
    (k1 : ¬ x = 0 → Go p e below Z n0 kg E P T (mkF m pcT Ls st)) (k2 : x = 0 → Go p e below Z n0 kg E P T (mkF m pcF Ls st)) : Go p e below Z n0 kg E P T (mkF m pc Ls (.int x :: st)) := by
  subst hF
  by_cases h : x = 0
  · exact (k2 h).pre fun t q => XS.ifNo w.here w.hx rfl (hb w.hby hd) rfl (XT.i0_ne_f h) q
  · exact (k1 h).pre fun t q => XS.ifYes w.here w.hx rfl rfl (hb w.hby hd) rfl (XT.i0_ne_t h) ho hT q
theorem g_lif_ne (w : Wd p l e R s m args below meth c Z a0 n0 kb ws y bytes ml ret T L cells slots) {pc : Nat} {Ls : Array Slot} {x y' : Int64} {o : Int} {st : List Value} (hd : decode bytes pc = .ok (.ifCond .ne o, 3)) (pcT : Nat) (ho : 0 ≤ (pc : Int) + o) (hT : ((pc : Int) + o).toNat = pcT) (pcF : Nat) (hF : pc + 3 = pcF)
    (k1 : ¬ x = y' → Go p e below Z n0 kg E P T (mkF m pcT Ls st)) (k2 : x = y' → Go p e below Z n0 kg E P T (mkF m pcF Ls st)) : Go p e below Z n0 kg E P T (mkF m pc Ls (.int (XT.cmpL x y') :: st)) := by
  subst hF
  by_cases h : x = y'
  · exact (k2 h).pre fun t q => XS.ifNo w.here w.hx rfl (hb w.hby hd) rfl (XT.ll_ne_f h) q
  · exact (k1 h).pre fun t q => XS.ifYes w.here w.hx rfl rfl (hb w.hby hd) rfl (XT.ll_ne_t h) ho hT q
theorem g_icmp_lt (w : Wd p l e R s m args below meth c Z a0 n0 kb ws y bytes ml ret T L cells slots) {pc : Nat} {Ls : Array Slot} {x y' : Int32} {o : Int} {st : List Value} (hd : decode bytes pc = .ok (.if_icmp .lt o, 3)) (pcT : Nat) (ho : 0 ≤ (pc : Int) + o) (hT : ((pc : Int) + o).toNat = pcT) (pcF : Nat) (hF : pc + 3 = pcF)
    (k1 : x < y' → Go p e below Z n0 kg E P T (mkF m pcT Ls st)) (k2 : ¬ x < y' → Go p e below Z n0 kg E P T (mkF m pcF Ls st)) : Go p e below Z n0 kg E P T (mkF m pc Ls (.int y' :: .int x :: st)) := by
  subst hF
  by_cases h : x < y'
  · exact (k1 h).pre fun t q => XS.icmpYes w.here w.hx rfl rfl (hb w.hby hd) rfl (XT.ii_lt_t h) ho hT q
  · exact (k2 h).pre fun t q => XS.icmpNo w.here w.hx rfl (hb w.hby hd) rfl (XT.ii_lt_f h) q
theorem g_if_lt (w : Wd p l e R s m args below meth c Z a0 n0 kb ws y bytes ml ret T L cells slots) {pc : Nat} {Ls : Array Slot} {x : Int32} {o : Int} {st : List Value} (hd : decode bytes pc = .ok (.ifCond .lt o, 3)) (pcT : Nat) (ho : 0 ≤ (pc : Int) + o) (hT : ((pc : Int) + o).toNat = pcT) (pcF : Nat) (hF : pc + 3 = pcF)
    (k1 : x < 0 → Go p e below Z n0 kg E P T (mkF m pcT Ls st)) (k2 : ¬ x < 0 → Go p e below Z n0 kg E P T (mkF m pcF Ls st)) : Go p e below Z n0 kg E P T (mkF m pc Ls (.int x :: st)) := by
  subst hF
  by_cases h : x < 0
  · exact (k1 h).pre fun t q => XS.ifYes w.here w.hx rfl rfl (hb w.hby hd) rfl (XT.i0_lt_t h) ho hT q
  · exact (k2 h).pre fun t q => XS.ifNo w.here w.hx rfl (hb w.hby hd) rfl (XT.i0_lt_f h) q
theorem g_lif_lt (w : Wd p l e R s m args below meth c Z a0 n0 kb ws y bytes ml ret T L cells slots) {pc : Nat} {Ls : Array Slot} {x y' : Int64} {o : Int} {st : List Value} (hd : decode bytes pc = .ok (.ifCond .lt o, 3)) (pcT : Nat) (ho : 0 ≤ (pc : Int) + o) (hT : ((pc : Int) + o).toNat = pcT) (pcF : Nat) (hF : pc + 3 = pcF)
    (k1 : x < y' → Go p e below Z n0 kg E P T (mkF m pcT Ls st)) (k2 : ¬ x < y' → Go p e below Z n0 kg E P T (mkF m pcF Ls st)) : Go p e below Z n0 kg E P T (mkF m pc Ls (.int (XT.cmpL x y') :: st)) := by
  subst hF
  by_cases h : x < y'
  · exact (k1 h).pre fun t q => XS.ifYes w.here w.hx rfl rfl (hb w.hby hd) rfl (XT.ll_lt_t h) ho hT q
  · exact (k2 h).pre fun t q => XS.ifNo w.here w.hx rfl (hb w.hby hd) rfl (XT.ll_lt_f h) q
theorem g_icmp_ge (w : Wd p l e R s m args below meth c Z a0 n0 kb ws y bytes ml ret T L cells slots) {pc : Nat} {Ls : Array Slot} {x y' : Int32} {o : Int} {st : List Value} (hd : decode bytes pc = .ok (.if_icmp .ge o, 3)) (pcT : Nat) (ho : 0 ≤ (pc : Int) + o) (hT : ((pc : Int) + o).toNat = pcT) (pcF : Nat) (hF : pc + 3 = pcF)
    (k1 : ¬ x < y' → Go p e below Z n0 kg E P T (mkF m pcT Ls st)) (k2 : x < y' → Go p e below Z n0 kg E P T (mkF m pcF Ls st)) : Go p e below Z n0 kg E P T (mkF m pc Ls (.int y' :: .int x :: st)) := by
  subst hF
  by_cases h : x < y'
  · exact (k2 h).pre fun t q => XS.icmpNo w.here w.hx rfl (hb w.hby hd) rfl (XT.ii_ge_f h) q
  · exact (k1 h).pre fun t q => XS.icmpYes w.here w.hx rfl rfl (hb w.hby hd) rfl (XT.ii_ge_t h) ho hT q
theorem g_if_ge (w : Wd p l e R s m args below meth c Z a0 n0 kb ws y bytes ml ret T L cells slots) {pc : Nat} {Ls : Array Slot} {x : Int32} {o : Int} {st : List Value} (hd : decode bytes pc = .ok (.ifCond .ge o, 3)) (pcT : Nat) (ho : 0 ≤ (pc : Int) + o) (hT : ((pc : Int) + o).toNat = pcT) (pcF : Nat) (hF : pc + 3 = pcF)
    (k1 : ¬ x < 0 → Go p e below Z n0 kg E P T (mkF m pcT Ls st)) (k2 : x < 0 → Go p e below Z n0 kg E P T (mkF m pcF Ls st)) : Go p e below Z n0 kg E P T (mkF m pc Ls (.int x :: st)) := by
  subst hF
  by_cases h : x < 0
  · exact (k2 h).pre fun t q => XS.ifNo w.here w.hx rfl (hb w.hby hd) rfl (XT.i0_ge_f h) q
  · exact (k1 h).pre fun t q => XS.ifYes w.here w.hx rfl rfl (hb w.hby hd) rfl (XT.i0_ge_t h) ho hT q
theorem g_lif_ge (w : Wd p l e R s m args below meth c Z a0 n0 kb ws y bytes ml ret T L cells slots) {pc : Nat} {Ls : Array Slot} {x y' : Int64} {o : Int} {st : List Value} (hd : decode bytes pc = .ok (.ifCond .ge o, 3)) (pcT : Nat) (ho : 0 ≤ (pc : Int) + o) (hT : ((pc : Int) + o).toNat = pcT) (pcF : Nat) (hF : pc + 3 = pcF)
    (k1 : ¬ x < y' → Go p e below Z n0 kg E P T (mkF m pcT Ls st)) (k2 : x < y' → Go p e below Z n0 kg E P T (mkF m pcF Ls st)) : Go p e below Z n0 kg E P T (mkF m pc Ls (.int (XT.cmpL x y') :: st)) := by
  subst hF
  by_cases h : x < y'
  · exact (k2 h).pre fun t q => XS.ifNo w.here w.hx rfl (hb w.hby hd) rfl (XT.ll_ge_f h) q
  · exact (k1 h).pre fun t q => XS.ifYes w.here w.hx rfl rfl (hb w.hby hd) rfl (XT.ll_ge_t h) ho hT q
theorem g_icmp_gt (w : Wd p l e R s m args below meth c Z a0 n0 kb ws y bytes ml ret T L cells slots) {pc : Nat} {Ls : Array Slot} {x y' : Int32} {o : Int} {st : List Value} (hd : decode bytes pc = .ok (.if_icmp .gt o, 3)) (pcT : Nat) (ho : 0 ≤ (pc : Int) + o) (hT : ((pc : Int) + o).toNat = pcT) (pcF : Nat) (hF : pc + 3 = pcF)
    (k1 : y' < x → Go p e below Z n0 kg E P T (mkF m pcT Ls st)) (k2 : ¬ y' < x → Go p e below Z n0 kg E P T (mkF m pcF Ls st)) : Go p e below Z n0 kg E P T (mkF m pc Ls (.int y' :: .int x :: st)) := by
  subst hF
  by_cases h : y' < x
  · exact (k1 h).pre fun t q => XS.icmpYes w.here w.hx rfl rfl (hb w.hby hd) rfl (XT.ii_gt_t h) ho hT q
  · exact (k2 h).pre fun t q => XS.icmpNo w.here w.hx rfl (hb w.hby hd) rfl (XT.ii_gt_f h) q
theorem g_if_gt (w : Wd p l e R s m args below meth c Z a0 n0 kb ws y bytes ml ret T L cells slots) {pc : Nat} {Ls : Array Slot} {x : Int32} {o : Int} {st : List Value} (hd : decode bytes pc = .ok (.ifCond .gt o, 3)) (pcT : Nat) (ho : 0 ≤ (pc : Int) + o) (hT : ((pc : Int) + o).toNat = pcT) (pcF : Nat) (hF : pc + 3 = pcF)
    (k1 : 0 < x → Go p e below Z n0 kg E P T (mkF m pcT Ls st)) (k2 : ¬ 0 < x → Go p e below Z n0 kg E P T (mkF m pcF Ls st)) : Go p e below Z n0 kg E P T (mkF m pc Ls (.int x :: st)) := by
  subst hF
  by_cases h : 0 < x
  · exact (k1 h).pre fun t q => XS.ifYes w.here w.hx rfl rfl (hb w.hby hd) rfl (XT.i0_gt_t h) ho hT q
  · exact (k2 h).pre fun t q => XS.ifNo w.here w.hx rfl (hb w.hby hd) rfl (XT.i0_gt_f h) q
theorem g_lif_gt (w : Wd p l e R s m args below meth c Z a0 n0 kb ws y bytes ml ret T L cells slots) {pc : Nat} {Ls : Array Slot} {x y' : Int64} {o : Int} {st : List Value} (hd : decode bytes pc = .ok (.ifCond .gt o, 3)) (pcT : Nat) (ho : 0 ≤ (pc : Int) + o) (hT : ((pc : Int) + o).toNat = pcT) (pcF : Nat) (hF : pc + 3 = pcF)
    (k1 : y' < x → Go p e below Z n0 kg E P T (mkF m pcT Ls st)) (k2 : ¬ y' < x → Go p e below Z n0 kg E P T (mkF m pcF Ls st)) : Go p e below Z n0 kg E P T (mkF m pc Ls (.int (XT.cmpL x y') :: st)) := by
  subst hF
  by_cases h : y' < x
  · exact (k1 h).pre fun t q => XS.ifYes w.here w.hx rfl rfl (hb w.hby hd) rfl (XT.ll_gt_t h) ho hT q
  · exact (k2 h).pre fun t q => XS.ifNo w.here w.hx rfl (hb w.hby hd) rfl (XT.ll_gt_f h) q
theorem g_icmp_le (w : Wd p l e R s m args below meth c Z a0 n0 kb ws y bytes ml ret T L cells slots) {pc : Nat} {Ls : Array Slot} {x y' : Int32} {o : Int} {st : List Value} (hd : decode bytes pc = .ok (.if_icmp .le o, 3)) (pcT : Nat) (ho : 0 ≤ (pc : Int) + o) (hT : ((pc : Int) + o).toNat = pcT) (pcF : Nat) (hF : pc + 3 = pcF)
    (k1 : ¬ y' < x → Go p e below Z n0 kg E P T (mkF m pcT Ls st)) (k2 : y' < x → Go p e below Z n0 kg E P T (mkF m pcF Ls st)) : Go p e below Z n0 kg E P T (mkF m pc Ls (.int y' :: .int x :: st)) := by
  subst hF
  by_cases h : y' < x
  · exact (k2 h).pre fun t q => XS.icmpNo w.here w.hx rfl (hb w.hby hd) rfl (XT.ii_le_f h) q
  · exact (k1 h).pre fun t q => XS.icmpYes w.here w.hx rfl rfl (hb w.hby hd) rfl (XT.ii_le_t h) ho hT q
theorem g_if_le (w : Wd p l e R s m args below meth c Z a0 n0 kb ws y bytes ml ret T L cells slots) {pc : Nat} {Ls : Array Slot} {x : Int32} {o : Int} {st : List Value} (hd : decode bytes pc = .ok (.ifCond .le o, 3)) (pcT : Nat) (ho : 0 ≤ (pc : Int) + o) (hT : ((pc : Int) + o).toNat = pcT) (pcF : Nat) (hF : pc + 3 = pcF)
    (k1 : ¬ 0 < x → Go p e below Z n0 kg E P T (mkF m pcT Ls st)) (k2 : 0 < x → Go p e below Z n0 kg E P T (mkF m pcF Ls st)) : Go p e below Z n0 kg E P T (mkF m pc Ls (.int x :: st)) := by
  subst hF
  by_cases h : 0 < x
  · exact (k2 h).pre fun t q => XS.ifNo w.here w.hx rfl (hb w.hby hd) rfl (XT.i0_le_f h) q
  · exact (k1 h).pre fun t q => XS.ifYes w.here w.hx rfl rfl (hb w.hby hd) rfl (XT.i0_le_t h) ho hT q
theorem g_lif_le (w : Wd p l e R s m args below meth c Z a0 n0 kb ws y bytes ml ret T L cells slots) {pc : Nat} {Ls : Array Slot} {x y' : Int64} {o : Int} {st : List Value} (hd : decode bytes pc = .ok (.ifCond .le o, 3)) (pcT : Nat) (ho : 0 ≤ (pc : Int) + o) (hT : ((pc : Int) + o).toNat = pcT) (pcF : Nat) (hF : pc + 3 = pcF)
    (k1 : ¬ y' < x → Go p e below Z n0 kg E P T (mkF m pcT Ls st)) (k2 : y' < x → Go p e below Z n0 kg E P T (mkF m pcF Ls st)) : Go p e below Z n0 kg E P T (mkF m pc Ls (.int (XT.cmpL x y') :: st)) := by
  subst hF
  by_cases h : y' < x
  · exact (k2 h).pre fun t q => XS.ifNo w.here w.hx rfl (hb w.hby hd) rfl (XT.ll_le_f h) q
  · exact (k1 h).pre fun t q => XS.ifYes w.here w.hx rfl rfl (hb w.hby hd) rfl (XT.ll_le_t h) ho hT q
theorem g_acmp_eq (w : Wd p l e R s m args below meth c Z a0 n0 kb ws y bytes ml ret T L cells slots) {pc : Nat} {Ls : Array Slot} {x y' : Value} {o : Int} {st : List Value} (hd : decode bytes pc = .ok (.if_acmp .eq o, 3)) (hx' : x.isRef = true) (hy' : y'.isRef = true) (pcT : Nat) (ho : 0 ≤ (pc : Int) + o) (hT : ((pc : Int) + o).toNat = pcT) (pcF : Nat) (hF : pc + 3 = pcF)
    (k1 : x = y' → Go p e below Z n0 kg E P T (mkF m pcT Ls st)) (k2 : ¬ x = y' → Go p e below Z n0 kg E P T (mkF m pcF Ls st)) : Go p e below Z n0 kg E P T (mkF m pc Ls (y' :: x :: st)) := by
  subst hF
  by_cases h : x = y'
  · exact (k1 h).pre fun t q => XT.acmpYes w.here w.hx rfl rfl (hb w.hby hd) rfl hx' hy' (XT.aa_eq_t h) ho hT q
  · exact (k2 h).pre fun t q => XT.acmpNo w.here w.hx rfl (hb w.hby hd) rfl hx' hy' (XT.aa_eq_f h) q
theorem g_acmp_ne (w : Wd p l e R s m args below meth c Z a0 n0 kb ws y bytes ml ret T L cells slots) {pc : Nat} {Ls : Array Slot} {x y' : Value} {o : Int} {st : List Value} (hd : decode bytes pc = .ok (.if_acmp .ne o, 3)) (hx' : x.isRef = true) (hy' : y'.isRef = true) (pcT : Nat) (ho : 0 ≤ (pc : Int) + o) (hT : ((pc : Int) + o).toNat = pcT) (pcF : Nat) (hF : pc + 3 = pcF)
    (k1 : ¬ x = y' → Go p e below Z n0 kg E P T (mkF m pcT Ls st)) (k2 : x = y' → Go p e below Z n0 kg E P T (mkF m pcF Ls st)) : Go p e below Z n0 kg E P T (mkF m pc Ls (y' :: x :: st)) := by
  subst hF
  by_cases h : x = y'
  · exact (k2 h).pre fun t q => XT.acmpNo w.here w.hx rfl (hb w.hby hd) rfl hx' hy' (XT.aa_ne_f h) q
  · exact (k1 h).pre fun t q => XT.acmpYes w.here w.hx rfl rfl (hb w.hby hd) rfl hx' hy' (XT.aa_ne_t h) ho hT q
theorem g_ifnullT (w : Wd p l e R s m args below meth c Z a0 n0 kb ws y bytes ml ret T L cells slots) {pc : Nat} {Ls : Array Slot} {o : Int} {st : List Value} (hd : decode bytes pc = .ok (.ifnull o, 3)) (pcT : Nat) (ho : 0 ≤ (pc : Int) + o) (hT : ((pc : Int) + o).toNat = pcT) (k : Go p e below Z n0 kg E P T (mkF m pcT Ls st)) : Go p e below Z n0 kg E P T (mkF m pc Ls (.null :: st)) := k.pre fun t q => XS.ifnullYes w.here w.hx rfl rfl (hb w.hby hd) rfl ho hT q
theorem g_ifnullF (w : Wd p l e R s m args below meth c Z a0 n0 kb ws y bytes ml ret T L cells slots) {pc : Nat} {Ls : Array Slot} {r : Addr} {o : Int} {st : List Value} (hd : decode bytes pc = .ok (.ifnull o, 3)) (pcF : Nat) (hF : pc + 3 = pcF) (k : Go p e below Z n0 kg E P T (mkF m pcF Ls st)) : Go p e below Z n0 kg E P T (mkF m pc Ls (.ref r :: st)) := by
  subst hF
  exact k.pre fun t q => XS.ifnullNo w.here w.hx rfl (hb w.hby hd) rfl q
theorem g_ifnonnullT (w : Wd p l e R s m args below meth c Z a0 n0 kb ws y bytes ml ret T L cells slots) {pc : Nat} {Ls : Array Slot} {r : Addr} {o : Int} {st : List Value} (hd : decode bytes pc = .ok (.ifnonnull o, 3)) (pcT : Nat) (ho : 0 ≤ (pc : Int) + o) (hT : ((pc : Int) + o).toNat = pcT) (k : Go p e below Z n0 kg E P T (mkF m pcT Ls st)) : Go p e below Z n0 kg E P T (mkF m pc Ls (.ref r :: st)) := k.pre fun t q => XT.ifnonnullYes w.here w.hx rfl rfl (hb w.hby hd) rfl ho hT q
theorem g_ifnonnullF (w : Wd p l e R s m args below meth c Z a0 n0 kb ws y bytes ml ret T L cells slots) {pc : Nat} {Ls : Array Slot} {o : Int} {st : List Value} (hd : decode bytes pc = .ok (.ifnonnull o, 3)) (pcF : Nat) (hF : pc + 3 = pcF) (k : Go p e below Z n0 kg E P T (mkF m pcF Ls st)) : Go p e below Z n0 kg E P T (mkF m pc Ls (.null :: st)) := by
  subst hF
  exact k.pre fun t q => XT.ifnonnullNo w.here w.hx rfl (hb w.hby hd) rfl q
/-! ## calls -/
theorem g_initO (w : Wd p l e R s m args below meth c Z a0 n0 kb ws y bytes ml ret T L cells slots) {pc : Nat} {Ls : Array Slot} {st : List Value} {idx : Nat} {a : Addr} (hd : decode bytes pc = .ok (.invokespecial idx, 3)) (k1 : Nat) (hk1 : ws[k1]? = some (.methodLink y.cls idx Lib.objectInit)) (k2 : Nat) (hk2 : ws[k2]? = some (.instanceMethod Lib.objectInit)) (k3 : Nat) (hk3 : ws[k3]? = some (.code Lib.objectInit ⟨#[0xb1]⟩ 1 none))
    (hsz : Ls.size = ml) (hf : 1 ≤ R.frames) (W : Nat) (hW : (st.map fun v => v.category).sum = W) (hl : W + 12 ≤ R.locals) (pc' : Nat) (hp : pc + 3 = pc')
    (kt : ∀ T', Wd p l e R s m args below meth c Z a0 n0 kb ws y bytes ml ret T' L cells slots → Go p e below Z n0 kg E P T' (mkF m pc' Ls st)) : Go p e below Z n0 kg E P T (mkF m pc Ls (.ref a :: st)) := by
  subst hp
  have hk1' := w.hw hk1
  have hk2' := w.hw hk2
  have hk3' := w.hw hk3
  obtain ⟨⟨locs, X, N⟩, H, hx, hZ, hown, hby, hml, hret, hlk, hnm, hws⟩ := w
  obtain ⟨T', X', e', st'⟩ := initO X hx hZ hown hk1' hk2' hk3' rfl (g := mkF m pc Ls (.ref a :: st)) rfl (by rw [hml]; exact hsz) rfl (hb hby hd) hf (W := W) (by show 2 * 0 + _ ≤ _; rw [hW]; omega) hl
  exact (kt T' ⟨⟨locs, X', N⟩, by rw [e']; exact H, hx, hZ, hown, hby, hml, hret, hlk, hnm, hws⟩).pre st'
theorem Con.back {y' : MethodName} {bytes' : ByteArray} {ml' : Nat} {ret' : Option FieldType} {rm : Room} {as' : Array Value} {P' : Option Value → HL → Prop} {h : Heap} {len W : Nat} (C : Con l y' bytes' ml' ret' rm Z n0 as' L P') (H : Hp Z n0 kb h L) (hZ : Z.Warmed39 s.vm) (wc : (Cond.code y' bytes' ml' ret').before a0 Z = true) (wz : (Cond.initialized y'.cls).before a0 Z = true) (hf : rm.frames + 1 ≤ R.frames) (hl : W + (ml' + 11) + rm.locals ≤ R.locals) :
    Back l R p e below s args y' len W (fun A a => a = as' ∧ A.U.heap = h ∧ A.cells + rm.cells ≤ R.cells ∧ A.slots + rm.slots ≤ R.slots)
      (fun A _ v B => ∃ Lc, (Fr n0 Lc ∧ ∃ L', Hp Z n0 kb B.U.heap L' ∧ P' v L') ∧ B.locs = A.locs ++ Lc ∧ B.cells = A.cells + rm.cells ∧ B.slots = A.slots + rm.slots) :=
  backOf (Q := fun v hh Lc => Fr n0 Lc ∧ ∃ L', Hp Z n0 kb hh L' ∧ P' v L') (C [] kb h H) hZ wc wz hf hl
/-- behind a call -/
theorem g_behind {rm : Room} {P' : Option Value → HL → Prop} {pc : Nat} {Ls : Array Slot} {rest : List Value} {v : Option Value} {B : Pt} {locs : List Loc}
    (N : Fr n0 locs) (hx : p.tables.exec = Jvm.exec) (hZ : Z.Warmed39 s.vm) (hown : s.vm.findClass y.cls = some m.cls) (hby : c.code = bytes) (hml : c.maxLocals = ml) (hret : meth.sig.returnType = ret) (hlk : meth.locks = false) (hnm : meth.name = y.name) (hws : ∀ d ∈ ws, d.before a0 Z = true)
    (X' : Stand p l e R s m args below meth c B.U B.locs B.cells B.slots)
    (hQ : ∃ Lc, (Fr n0 Lc ∧ ∃ L', Hp Z n0 kb B.U.heap L' ∧ P' v L') ∧ Pt.locs B = locs ++ Lc ∧ Pt.cells B = cells + rm.cells ∧ Pt.slots B = slots + rm.slots)
    (kt : ∀ T' v L', Wd p l e R s m args below meth c Z a0 n0 kb ws y bytes ml ret T' L' (cells + rm.cells) (slots + rm.slots) → P' v L' → Go p e below Z n0 kg E P T' (mkF m pc Ls (pushV v rest))) :
    Go p e below Z n0 kg E P B.U (mkF m pc Ls (v.toList ++ rest)) := by
  obtain ⟨Lc, ⟨N', L', H', hP⟩, h1, h2, h3⟩ := hQ
  obtain ⟨U, bl, bc, bs⟩ := B
  dsimp only [Pt.U, Pt.locs, Pt.cells, Pt.slots] at h1 h2 h3 X' H' ⊢
  subst h1 h2 h3
  rw [pushV_eq]
  exact kt U v L' ⟨⟨_, X', Fr.app N N'⟩, H', hx, hZ, hown, hby, hml, hret, hlk, hnm, hws⟩ hP
theorem g_static (w : Wd p l e R s m args below meth c Z a0 n0 kb ws y bytes ml ret T L cells slots) {pc : Nat} {Ls : Array Slot} {st : List Value} {idx : Nat} {y' : MethodName} {bytes' : ByteArray} {ml' : Nat} {ret' : Option FieldType} {rm : Room} {P' : Option Value → HL → Prop} {ps : List FieldType} {rt : Option FieldType} {argsL rest : List Value}
    (C : Con l y' bytes' ml' ret' rm Z n0 argsL.toArray L P') (hd : decode bytes pc = .ok (.invokestatic idx, 3)) (k1 : Nat) (hk1 : ws[k1]? = some (.methodLink y.cls idx y')) (k2 : Nat) (hk2 : ws[k2]? = some (.static y')) (k3 : Nat) (hk3 : ws[k3]? = some (.initialized y'.cls)) (k4 : Nat) (hk4 : ws[k4]? = some (.code y' bytes' ml' ret'))
    (hy : y'.cls ≠ "java/lang/invoke/MethodHandle" ∧ y'.cls ≠ "java/lang/invoke/VarHandle") (hpd : parseMethodDescriptor y'.desc = some ⟨ps, rt⟩) (hlen : argsL.length = ps.length) (hst : st = argsL.reverse ++ rest) (hsz : Ls.size = ml) (W : Nat) (hW : (rest.map fun v => v.category).sum = W) (hf : rm.frames + 1 ≤ R.frames) (hl : W + (ml' + 11) + rm.locals ≤ R.locals)
    (hc : cells + rm.cells ≤ R.cells) (hs : slots + rm.slots ≤ R.slots) (pc' : Nat) (hp : pc + 3 = pc')
    (kt : ∀ T' v L', Wd p l e R s m args below meth c Z a0 n0 kb ws y bytes ml ret T' L' (cells + rm.cells) (slots + rm.slots) → P' v L' → Go p e below Z n0 kg E P T' (mkF m pc' Ls (pushV v rest))) : Go p e below Z n0 kg E P T (mkF m pc Ls st) := by
  subst hp hst
  have hk1' := w.hw hk1
  have hk2' := w.hw hk2
  have hk3' := w.hw hk3
  have hk4' := w.hw hk4
  obtain ⟨⟨locs, X, N⟩, H, hx, hZ, hown, hby, hml, hret, hlk, hnm, hws⟩ := w
  obtain ⟨v, vm₁, B, -, X', hQ, st'⟩ := Jvm.LawKit.callS X hx hown (mvT hZ hk1') (mvT hZ hk2') (mvT hZ hk3') (mvT hZ hk4') hy (Con.back C H hZ hk4' hk3' hf hl) (g := mkF m pc Ls (argsL.reverse ++ rest)) rfl (by rw [hml]; exact hsz) (argsL := argsL) (rest := rest) (lenOf hpd hlen) rfl (by show 2 * 0 + _ ≤ _; rw [hW]; omega) (hb hby hd) (fun _ _ => ⟨rfl, rfl, hc, hs⟩)
  exact (g_behind (rm := rm) (P' := P') N hx hZ hown hby hml hret hlk hnm hws X' hQ kt).pre st'
theorem g_ctor (w : Wd p l e R s m args below meth c Z a0 n0 kb ws y bytes ml ret T L cells slots) {pc : Nat} {Ls : Array Slot} {st : List Value} {idx : Nat} {y' : MethodName} {bytes' : ByteArray} {ml' : Nat} {rm : Room} {P' : Option Value → HL → Prop} {ps : List FieldType} {rt : Option FieldType} {a : Addr} {argsL rest : List Value}
    (C : Con l y' bytes' ml' none rm Z n0 (Value.ref a :: argsL).toArray L P') (hd : decode bytes pc = .ok (.invokespecial idx, 3)) (k1 : Nat) (hk1 : ws[k1]? = some (.methodLink y.cls idx y')) (k2 : Nat) (hk2 : ws[k2]? = some (.instanceMethod y')) (k3 : Nat) (hk3 : ws[k3]? = some (.initialized y'.cls)) (k4 : Nat) (hk4 : ws[k4]? = some (.code y' bytes' ml' none))
    (hyn : y'.name = "<init>") (hy : y'.cls ≠ "java/lang/invoke/MethodHandle" ∧ y'.cls ≠ "java/lang/invoke/VarHandle") (hpd : parseMethodDescriptor y'.desc = some ⟨ps, rt⟩) (hlen : argsL.length = ps.length) (hst : st = argsL.reverse ++ .ref a :: rest) (hsz : Ls.size = ml) (W : Nat) (hW : (rest.map fun v => v.category).sum = W) (hf : rm.frames + 1 ≤ R.frames) (hl : W + (ml' + 11) + rm.locals ≤ R.locals)
    (hc : cells + rm.cells ≤ R.cells) (hs : slots + rm.slots ≤ R.slots) (pc' : Nat) (hp : pc + 3 = pc')
    (kt : ∀ T' v L', Wd p l e R s m args below meth c Z a0 n0 kb ws y bytes ml ret T' L' (cells + rm.cells) (slots + rm.slots) → P' v L' → Go p e below Z n0 kg E P T' (mkF m pc' Ls (pushV v rest))) : Go p e below Z n0 kg E P T (mkF m pc Ls st) := by
  subst hp hst
  have hk1' := w.hw hk1
  have hk2' := w.hw hk2
  have hk3' := w.hw hk3
  have hk4' := w.hw hk4
  obtain ⟨⟨locs, X, N⟩, H, hx, hZ, hown, hby, hml, hret, hlk, hnm, hws⟩ := w
  obtain ⟨v, vm₁, B, -, X', hQ, st'⟩ := X.specialBack hx hyn hown (mvT hZ hk1') (mvT hZ hk2') (mvT hZ hk4') hy (Con.back C H hZ hk4' hk3' hf hl) (g := mkF m pc Ls (argsL.reverse ++ .ref a :: rest)) rfl (by rw [hml]; exact hsz) (Steps.refl _) (a := a) (argsL := argsL) (rest := rest) (lenOf hpd hlen) rfl (by show 2 * 0 + _ ≤ _; rw [hW]; omega) (hb hby hd) (fun _ _ => ⟨rfl, rfl, hc, hs⟩)
  exact (g_behind (rm := rm) (P' := P') N hx hZ hown hby hml hret hlk hnm hws X' hQ kt).pre fun t q => st'.trans q
theorem g_virt (w : Wd p l e R s m args below meth c Z a0 n0 kb ws y bytes ml ret T L cells slots) {pc : Nat} {Ls : Array Slot} {st : List Value} {idx : Nat} {y' : MethodName} {bytes' : ByteArray} {ml' : Nat} {ret' : Option FieldType} {rm : Room} {P' : Option Value → HL → Prop} {ps : List FieldType} {rt : Option FieldType} {a : Addr} {Cn : String} {fs : List FldE} {argsL rest : List Value}
    (C : Con l y' bytes' ml' ret' rm Z n0 (Value.ref a :: argsL).toArray L P') (hd : decode bytes pc = .ok (.invokevirtual idx, 3)) (i : Nat) (hi : L[i]? = some (a, .inl (Cn, fs))) (k1 : Nat) (hk1 : ws[k1]? = some (.methodLink y.cls idx y')) (k2 : Nat) (hk2 : ws[k2]? = some (.declares y')) (k3 : Nat) (hk3 : ws[k3]? = some (.initialized y'.cls)) (k4 : Nat) (hk4 : ws[k4]? = some (.code y' bytes' ml' ret'))
    (k5 : Nat) (hk5 : ws[k5]? = some (.selects Cn y' y')) (k6 : Nat) (hk6 : ws[k6]? = some (.instanceMethod y'))
    (hy : y'.cls ≠ "java/lang/invoke/MethodHandle" ∧ y'.cls ≠ "java/lang/invoke/VarHandle") (hpd : parseMethodDescriptor y'.desc = some ⟨ps, rt⟩) (hlen : argsL.length = ps.length) (hst : st = argsL.reverse ++ .ref a :: rest) (hsz : Ls.size = ml) (W : Nat) (hW : (rest.map fun v => v.category).sum = W) (hf : rm.frames + 1 ≤ R.frames) (hl : W + (ml' + 11) + rm.locals ≤ R.locals)
    (hc : cells + rm.cells ≤ R.cells) (hs : slots + rm.slots ≤ R.slots) (pc' : Nat) (hp : pc + 3 = pc')
    (kt : ∀ T' v L', Wd p l e R s m args below meth c Z a0 n0 kb ws y bytes ml ret T' L' (cells + rm.cells) (slots + rm.slots) → P' v L' → Go p e below Z n0 kg E P T' (mkF m pc' Ls (pushV v rest))) : Go p e below Z n0 kg E P T (mkF m pc Ls st) := by
  subst hp hst
  have hk1' := w.hw hk1
  have hk2' := w.hw hk2
  have hk3' := w.hw hk3
  have hk4' := w.hw hk4
  have hk5' := w.hw hk5
  have hk6' := w.hw hk6
  obtain ⟨⟨locs, X, N⟩, H, hx, hZ, hown, hby, hml, hret, hlk, hnm, hws⟩ := w
  obtain ⟨cq, kq, qa, qb, qc⟩ := isOf hZ rfl (H.obj hi).1
  obtain ⟨v, vm₁, B, -, X', hQ, st'⟩ := X.virtualBack hx (y := y') (z := y') hown (mvT hZ hk1') (mvT hZ hk2') (notFace_of_selects (args := #[]) (mvT hZ hk5')) (mvT hZ hk5') (mvT hZ hk6') hy (Con.back C H hZ hk4' hk3' hf hl) qa qc (g := mkF m pc Ls (argsL.reverse ++ .ref a :: rest)) rfl (by rw [hml]; exact hsz) (Steps.refl _) (argsL := argsL) (rest := rest) (lenOf hpd hlen) rfl (by show 2 * 0 + _ ≤ _; rw [hW]; omega) (hb hby hd) (fun _ _ => ⟨rfl, rfl, hc, hs⟩)
  exact (g_behind (rm := rm) (P' := P') N hx hZ hown hby hml hret hlk hnm hws X' hQ kt).pre fun t q => st'.trans q
theorem g_virtO (w : Wd p l e R s m args below meth c Z a0 n0 kb ws y bytes ml ret T L cells slots) {pc : Nat} {Ls : Array Slot} {st : List Value} {idx : Nat} {y' : MethodName} {bytes' : ByteArray} {ml' : Nat} {ret' : Option FieldType} {rm : Room} {P' : Option Value → HL → Prop} {ps : List FieldType} {rt : Option FieldType} {a : Addr} {Cn : String} {argsL rest : List Value}
    (C : Con l y' bytes' ml' ret' rm Z n0 (Value.ref a :: argsL).toArray L P') (hd : decode bytes pc = .ok (.invokevirtual idx, 3)) (EO : Exa Z Z.heap a Cn) (k1 : Nat) (hk1 : ws[k1]? = some (.methodLink y.cls idx y')) (k2 : Nat) (hk2 : ws[k2]? = some (.declares y')) (k3 : Nat) (hk3 : ws[k3]? = some (.initialized y'.cls)) (k4 : Nat) (hk4 : ws[k4]? = some (.code y' bytes' ml' ret'))
    (k5 : Nat) (hk5 : ws[k5]? = some (.selects Cn y' y')) (k6 : Nat) (hk6 : ws[k6]? = some (.instanceMethod y'))
    (hy : y'.cls ≠ "java/lang/invoke/MethodHandle" ∧ y'.cls ≠ "java/lang/invoke/VarHandle") (hpd : parseMethodDescriptor y'.desc = some ⟨ps, rt⟩) (hlen : argsL.length = ps.length) (hst : st = argsL.reverse ++ .ref a :: rest) (hsz : Ls.size = ml) (W : Nat) (hW : (rest.map fun v => v.category).sum = W) (hf : rm.frames + 1 ≤ R.frames) (hl : W + (ml' + 11) + rm.locals ≤ R.locals)
    (hc : cells + rm.cells ≤ R.cells) (hs : slots + rm.slots ≤ R.slots) (pc' : Nat) (hp : pc + 3 = pc')
    (kt : ∀ T' v L', Wd p l e R s m args below meth c Z a0 n0 kb ws y bytes ml ret T' L' (cells + rm.cells) (slots + rm.slots) → P' v L' → Go p e below Z n0 kg E P T' (mkF m pc' Ls (pushV v rest))) : Go p e below Z n0 kg E P T (mkF m pc Ls st) := by
  subst hp hst
  have hk1' := w.hw hk1
  have hk2' := w.hw hk2
  have hk3' := w.hw hk3
  have hk4' := w.hw hk4
  have hk5' := w.hw hk5
  have hk6' := w.hw hk6
  obtain ⟨⟨locs, X, N⟩, H, hx, hZ, hown, hby, hml, hret, hlk, hnm, hws⟩ := w
  obtain ⟨cq, kq, qa, qb, qc⟩ := isOf hZ rfl (EO.ext H.old)
  obtain ⟨v, vm₁, B, -, X', hQ, st'⟩ := X.virtualBack hx (y := y') (z := y') hown (mvT hZ hk1') (mvT hZ hk2') (notFace_of_selects (args := #[]) (mvT hZ hk5')) (mvT hZ hk5') (mvT hZ hk6') hy (Con.back C H hZ hk4' hk3' hf hl) qa qc (g := mkF m pc Ls (argsL.reverse ++ .ref a :: rest)) rfl (by rw [hml]; exact hsz) (Steps.refl _) (argsL := argsL) (rest := rest) (lenOf hpd hlen) rfl (by show 2 * 0 + _ ≤ _; rw [hW]; omega) (hb hby hd) (fun _ _ => ⟨rfl, rfl, hc, hs⟩)
  exact (g_behind (rm := rm) (P' := P') N hx hZ hown hby hml hret hlk hnm hws X' hQ kt).pre fun t q => st'.trans q
theorem g_priv (w : Wd p l e R s m args below meth c Z a0 n0 kb ws y bytes ml ret T L cells slots) {pc : Nat} {Ls : Array Slot} {st : List Value} {idx nI : Nat} {y' : MethodName} {bytes' : ByteArray} {ml' : Nat} {ret' : Option FieldType} {rm : Room} {P' : Option Value → HL → Prop} {ps : List FieldType} {rt : Option FieldType} {a : Addr} {Cn : String} {fs : List FldE} {argsL rest : List Value}
    (C : Con l y' bytes' ml' ret' rm Z n0 (Value.ref a :: argsL).toArray L P') (hd : decode bytes pc = .ok (.invokevirtual idx, 3)) (i : Nat) (hi : L[i]? = some (a, .inl (Cn, fs))) (k1 : Nat) (hk1 : ws[k1]? = some (.methodLink y.cls idx y')) (k2 : Nat) (hk2 : ws[k2]? = some (.instanceMethod y')) (k3 : Nat) (hk3 : ws[k3]? = some (.initialized y'.cls)) (k4 : Nat) (hk4 : ws[k4]? = some (.code y' bytes' ml' ret'))
    (k5 : Nat) (hk5 : ws[k5]? = some (.privateMethod y')) (k6 : Nat) (hk6 : ws[k6]? = some (.instantiable y'.cls nI))
    (hy : y'.cls ≠ "java/lang/invoke/MethodHandle" ∧ y'.cls ≠ "java/lang/invoke/VarHandle") (hpd : parseMethodDescriptor y'.desc = some ⟨ps, rt⟩) (hlen : argsL.length = ps.length) (hst : st = argsL.reverse ++ .ref a :: rest) (hsz : Ls.size = ml) (W : Nat) (hW : (rest.map fun v => v.category).sum = W) (hf : rm.frames + 1 ≤ R.frames) (hl : W + (ml' + 11) + rm.locals ≤ R.locals)
    (hc : cells + rm.cells ≤ R.cells) (hs : slots + rm.slots ≤ R.slots) (pc' : Nat) (hp : pc + 3 = pc')
    (kt : ∀ T' v L', Wd p l e R s m args below meth c Z a0 n0 kb ws y bytes ml ret T' L' (cells + rm.cells) (slots + rm.slots) → P' v L' → Go p e below Z n0 kg E P T' (mkF m pc' Ls (pushV v rest))) : Go p e below Z n0 kg E P T (mkF m pc Ls st) := by
  subst hp hst
  have hk1' := w.hw hk1
  have hk2' := w.hw hk2
  have hk3' := w.hw hk3
  have hk4' := w.hw hk4
  have hk5' := w.hw hk5
  have hk6' := w.hw hk6
  obtain ⟨⟨locs, X, N⟩, H, hx, hZ, hown, hby, hml, hret, hlk, hnm, hws⟩ := w
  obtain ⟨cl, hcl, hst0⟩ := (H.obj hi).1.cell
  have hpa : s.PrivateAt y' := Cond.privateMethod_at (mvP hZ hk5' (args := #[]))
  have hin : (Cond.instanceMethod y').before args s = true := mvT hZ hk2'
  have hic : (Cond.instantiable y'.cls nI).before args s = true := mvT hZ hk6'
  obtain ⟨cI, kI, i1, i2, i3, i4, -⟩ := Cond.instantiable_spec hic
  have hsel : (Cond.selects y'.cls y' y').before args s = true := selects_self_of_private i1 i2 (Bool.or_eq_false_iff.mp i4).1 hpa hin hy
  obtain ⟨v, vm₁, B, -, X', hQ, st'⟩ := X.privateBack hx (y := y') hown (mvT hZ hk1') hin hsel hpa (mvT hZ hk4') hy (Con.back C H hZ hk4' hk3' hf hl) (g := mkF m pc Ls (argsL.reverse ++ .ref a :: rest)) rfl (by rw [hml]; exact hsz) (Steps.refl _) (a := a) hcl hst0 (argsL := argsL) (rest := rest) (lenOf hpd hlen) rfl (by show 2 * 0 + _ ≤ _; rw [hW]; omega) (hb hby hd) (fun _ _ => ⟨rfl, rfl, hc, hs⟩)
  exact (g_behind (rm := rm) (P' := P') N hx hZ hown hby hml hret hlk hnm hws X' hQ kt).pre fun t q => st'.trans q
/-! ## from the case's words to the contract of the law -/
theorem fr_end {Lc : List Loc} {v : Option Value} {u : State} (N : Fr s.heap.size Lc) (hq : FrameEnd s (.returned v) u Lc kc ks) (L0 : List Loc) {kc' ks' : Nat} (h1 : kc ≤ kc') (h2 : ks ≤ ks') : FrameEnd s (.returned v) u L0 kc' ks' :=
  ⟨hq.1, hq.2.1, (hq.2.2.sift fun y hy => Or.inr (N y hy)).mono h1 h2⟩
end Walk
end Jvm.OwnW
namespace Jvm.Pilot.@@N@@
open Jvm Jvm.ClassFile Sem Op Lib Jvm.Free Jvm.Stand Jvm.LawKit Jvm.RoadKit Bundle Jvm.OwnW Jvm.Pilot.@@N@@.Jvm.D
def own_min (a b : Int32) : Int32 := if b < a then b else a
theorem own_n (a : Int32) : (1 : Int32) <<< ((a &&& 3) &&& 31) = 1 ∨ (1 : Int32) <<< ((a &&& 3) &&& 31) = 2 ∨ (1 : Int32) <<< ((a &&& 3) &&& 31) = 4 ∨ (1 : Int32) <<< ((a &&& 3) &&& 31) = 8 := by
  have h := c_mask a 3 2 (by decide) (by decide)
  have q : (a &&& 3) = 0 ∨ (a &&& 3) = 1 ∨ (a &&& 3) = 2 ∨ (a &&& 3) = 3 := by
    have k0 : (0 : Int32).toInt = 0 := rfl
    have k1 : (1 : Int32).toInt = 1 := rfl
    have k2 : (2 : Int32).toInt = 2 := rfl
    have k3 : (3 : Int32).toInt = 3 := rfl
    simp only [← Int32.toInt_inj, k0, k1, k2, k3]
    omega
  rcases q with q | q | q | q <;> rw [q] <;> decide
theorem own_b (b : Int32) : ∃ k : Int32, k = 1 + (b &&& 7) ∧ (k = 1 ∨ k = 2 ∨ k = 3 ∨ k = 4 ∨ k = 5 ∨ k = 6 ∨ k = 7 ∨ k = 8) := by
  have h := c_mask b 7 3 (by decide) (by decide)
  have h2 := c_iadd 1 (b &&& 7)
  have b1 := (1 + (b &&& 7)).toInt_lt
  have b2 := (1 + (b &&& 7)).le_toInt
  refine ⟨_, rfl, ?_⟩
  have k1 : (1 : Int32).toInt = 1 := rfl
  have k2 : (2 : Int32).toInt = 2 := rfl
  have k3 : (3 : Int32).toInt = 3 := rfl
  have k4 : (4 : Int32).toInt = 4 := rfl
  have k5 : (5 : Int32).toInt = 5 := rfl
  have k6 : (6 : Int32).toInt = 6 := rfl
  have k7 : (7 : Int32).toInt = 7 := rfl
  have k8 : (8 : Int32).toInt = 8 := rfl
  simp only [← Int32.toInt_inj, k1, k2, k3, k4, k5, k6, k7, k8] at *
  omega
theorem own_c1 (b : Int32) : own_min (own_min (1 + (b &&& 7)) 1) 5 = 1 := by
  obtain ⟨k, e, q⟩ := own_b b
  rw [← e]
  rcases q with q | q | q | q | q | q | q | q <;> rw [q] <;> decide
theorem own_c2 (b : Int32) : own_min (own_min (1 + (b &&& 7)) 2) 5 = 1 ∨ own_min (own_min (1 + (b &&& 7)) 2) 5 = 2 := by
  obtain ⟨k, e, q⟩ := own_b b
  rw [← e]
  rcases q with q | q | q | q | q | q | q | q <;> rw [q] <;> decide
theorem own_c4 (b : Int32) : own_min (own_min (1 + (b &&& 7)) 4) 5 = 1 ∨ own_min (own_min (1 + (b &&& 7)) 4) 5 = 2 ∨ own_min (own_min (1 + (b &&& 7)) 4) 5 = 3 ∨ own_min (own_min (1 + (b &&& 7)) 4) 5 = 4 := by
  obtain ⟨k, e, q⟩ := own_b b
  rw [← e]
  rcases q with q | q | q | q | q | q | q | q <;> rw [q] <;> decide
theorem own_c8 (b : Int32) : own_min (own_min (1 + (b &&& 7)) 8) 5 = 1 ∨ own_min (own_min (1 + (b &&& 7)) 8) 5 = 2 ∨ own_min (own_min (1 + (b &&& 7)) 8) 5 = 3 ∨ own_min (own_min (1 + (b &&& 7)) 8) 5 = 4 ∨ own_min (own_min (1 + (b &&& 7)) 8) 5 = 5 := by
  obtain ⟨k, e, q⟩ := own_b b
  rw [← e]
  rcases q with q | q | q | q | q | q | q | q <;> rw [q] <;> decide
theorem own_odd (u : Int32) : (u ||| 1).toInt % 2 = 1 := by
  have e3 : (u ||| 1).toBitVec.toNat = u.toBitVec.toNat ||| 1 := by rw [Int32.toBitVec_or, BitVec.toNat_or]; rfl
  have h2 : (u.toBitVec.toNat ||| 1) % 2 = (u.toBitVec.toNat % 2) ||| 1 := Nat.or_mod_two_pow (a := u.toBitVec.toNat) (b := 1) (n := 1)
  have h3 : ∀ r, r < 2 → r ||| 1 = 1 := by decide
  have h4 := h3 _ (Nat.mod_lt u.toBitVec.toNat (by decide : 0 < 2))
  have e1 : (u ||| 1).toInt = (u ||| 1).toBitVec.toInt := rfl
  rw [e1, BitVec.toInt_eq_toNat_cond, e3]
  split <;> omega
theorem own_s1 (b st i : Int32) : ((b + i * st) &&& 0).toInt = (b.toInt + i.toInt * st.toInt) % 1 := by
  have h1 := c_mask (b + i * st) 0 0 (by decide) (by decide)
  have h2 := c_iadd b (i * st)
  have h3 := c_imul i st
  omega
theorem own_t1 (b st : Int32) : ((b + st) &&& 0).toInt = (b.toInt + st.toInt) % 1 := by
  have h1 := c_mask (b + st) 0 0 (by decide) (by decide)
  have h2 := c_iadd b st
  omega
theorem own_s2 (b st i : Int32) : ((b + i * st) &&& 1).toInt = (b.toInt + i.toInt * st.toInt) % 2 := by
  have h1 := c_mask (b + i * st) 1 1 (by decide) (by decide)
  have h2 := c_iadd b (i * st)
  have h3 := c_imul i st
  omega
theorem own_t2 (b st : Int32) : ((b + st) &&& 1).toInt = (b.toInt + st.toInt) % 2 := by
  have h1 := c_mask (b + st) 1 1 (by decide) (by decide)
  have h2 := c_iadd b st
  omega
theorem own_s4 (b st i : Int32) : ((b + i * st) &&& 3).toInt = (b.toInt + i.toInt * st.toInt) % 4 := by
  have h1 := c_mask (b + i * st) 3 2 (by decide) (by decide)
  have h2 := c_iadd b (i * st)
  have h3 := c_imul i st
  omega
theorem own_t4 (b st : Int32) : ((b + st) &&& 3).toInt = (b.toInt + st.toInt) % 4 := by
  have h1 := c_mask (b + st) 3 2 (by decide) (by decide)
  have h2 := c_iadd b st
  omega
theorem own_s8 (b st i : Int32) : ((b + i * st) &&& 7).toInt = (b.toInt + i.toInt * st.toInt) % 8 := by
  have h1 := c_mask (b + i * st) 7 3 (by decide) (by decide)
  have h2 := c_iadd b (i * st)
  have h3 := c_imul i st
  omega
theorem own_t8 (b st : Int32) : ((b + st) &&& 7).toInt = (b.toInt + st.toInt) % 8 := by
  have h1 := c_mask (b + st) 7 3 (by decide) (by decide)
  have h2 := c_iadd b st
  omega
abbrev O_HashSlots (f0 : Value) (f1 : Value) : Obj := .inl ("tidestone/parquet/HashSlots", [("tidestone/parquet/HashSlots", "slots", "[I", f0), ("tidestone/parquet/HashSlots", "taken", "I", f1)])
theorem d1_0 : decode jdk_29_method_69_code 0 = .ok (.iload_n 0, 1) := by decide +kernel
theorem d1_1 : decode jdk_29_method_69_code 1 = .ok (.iload_n 1, 1) := by decide +kernel
theorem d1_2 : decode jdk_29_method_69_code 2 = .ok (.if_icmp .gt 7, 3) := by decide +kernel
theorem d1_5 : decode jdk_29_method_69_code 5 = .ok (.iload_n 0, 1) := by decide +kernel
theorem d1_6 : decode jdk_29_method_69_code 6 = .ok (.goto 4, 3) := by decide +kernel
theorem d1_9 : decode jdk_29_method_69_code 9 = .ok (.iload_n 1, 1) := by decide +kernel
theorem d1_10 : decode jdk_29_method_69_code 10 = .ok (.ireturn, 1) := by decide +kernel
theorem pn_1 : plainFor (⟨"java/lang/Math", "min", "(II)I"⟩ : MethodName) = true := Jvm.Free.JP.mathPlain rfl (by decide +kernel)
set_option maxRecDepth 65536 in
set_option maxHeartbeats 40000000 in
theorem rm1 (l : Launch) (Z : State) (a0 : Array Value) (hw : ∀ d ∈ tables_1, d.before a0 Z = true) (n0 : Nat) (u r : Int32) (L : HL)  :
    Con l (⟨"java/lang/Math", "min", "(II)I"⟩ : MethodName) jdk_29_method_69_code 2 (some .int) ({ frames := 0, cells := 0, slots := 0, locals := 0 } : Room) Z n0 #[(.int u), (.int r)] L (fun v L' => v = some (.int (own_min u r)) ∧ L' = L) := by
  refine Con.of (ws := tables_1) (a0 := a0) pn_1 hw ?_
  intro p e s m below meth cde T kb w
  refine g_entry #[.val (.int u), .val (.int r)] (by first | (simp [entryFrame, mkF, argsToLocals, Value.category]; done) | rfl) ?_
  refine g_iloadN w d1_0 rfl 1 rfl ?_
  refine g_iloadN w d1_1 rfl 2 rfl ?_
  refine g_icmp_gt w d1_2 9 (by decide) (by decide) 5 rfl (fun hc2 => ?_) (fun hc2 => ?_)
  · -- pc 9 (taken: r < u)
    refine g_iloadN w d1_9 rfl 10 rfl ?_
    exact g_ireti w d1_10 (by decide) (by decide) ⟨congrArg (fun z => some (Value.int z)) (by simp [own_min, *]), rfl⟩
  · -- pc 5 (on: not r < u)
    refine g_iloadN w d1_5 rfl 6 rfl ?_
    refine g_goto w d1_6 10 (by decide) (by decide) ?_
    exact g_ireti w d1_10 (by decide) (by decide) ⟨congrArg (fun z => some (Value.int z)) (by simp [own_min, *]), rfl⟩
theorem d2_0 : decode prog_84_method_1_code 0 = .ok (.aload_n 0, 1) := by decide +kernel
theorem d2_1 : decode prog_84_method_1_code 1 = .ok (.invokespecial 1, 3) := by decide +kernel
theorem d2_4 : decode prog_84_method_1_code 4 = .ok (.aload_n 0, 1) := by decide +kernel
theorem d2_5 : decode prog_84_method_1_code 5 = .ok (.iload_n 1, 1) := by decide +kernel
theorem d2_6 : decode prog_84_method_1_code 6 = .ok (.newarray .int, 2) := by decide +kernel
theorem d2_8 : decode prog_84_method_1_code 8 = .ok (.putfield 7, 3) := by decide +kernel
theorem d2_11 : decode prog_84_method_1_code 11 = .ok (.return_, 1) := by decide +kernel
theorem pn_2 : plainFor (⟨"tidestone/parquet/HashSlots", "<init>", "(I)V"⟩ : MethodName) = true := plainFor_of_name (by first | (simp [plainName, overriddenIn]; done) | decide +kernel)
set_option maxRecDepth 65536 in
set_option maxHeartbeats 40000000 in
theorem rm2 (l : Launch) (Z : State) (a0 : Array Value) (hw : ∀ d ∈ tables_1, d.before a0 Z = true) (n0 : Nat) (t : Addr) (n : Int32) (nn : Nat) (hn : n.toInt = (nn : Int)) (hle : nn ≤ 8) :
    Con l (⟨"tidestone/parquet/HashSlots", "<init>", "(I)V"⟩ : MethodName) prog_84_method_1_code 2 none ({ frames := 1, cells := 1, slots := 8, locals := 12 } : Room) Z n0 #[(.ref t), (.int n)] ([(t, O_HashSlots .null (.int (0 : Int32)))]) (fun v L' => v = none ∧ ∃ ar, L' = [(t, O_HashSlots (.ref ar) (.int (0 : Int32))), (ar, .inr (.int, List.replicate nn (.int (0 : Int32))))]) := by
  refine Con.of (ws := tables_1) (a0 := a0) pn_2 hw ?_
  intro p e s m below meth cde T kb w
  refine g_entry #[.val (.ref t), .val (.int n)] (by first | (simp [entryFrame, mkF, argsToLocals, Value.category]; done) | rfl) ?_
  refine g_aloadN w d2_0 rfl rfl 1 rfl ?_
  refine g_initO w d2_1 10 rfl 11 rfl 12 rfl rfl (by decide) 0 rfl (by decide) 4 rfl (fun T w => ?_)
  refine g_aloadN w d2_4 rfl rfl 5 rfl ?_
  refine g_iloadN w d2_5 rfl 6 rfl ?_
  refine g_newarr w d2_6 13 rfl nn 8 hn hle (by decide) (List.replicate nn (.int (0 : Int32))) rfl (by decide) (by decide) 8 rfl (fun T ar w => ?_)
  replace w := w.to (L' := [(t, O_HashSlots .null (.int (0 : Int32))), (ar, .inr (.int, List.replicate nn (.int (0 : Int32))))]) rfl
  refine g_putf w d2_8 0 rfl 0 rfl 14 rfl Via.refl 15 (Or.inl rfl) 5 rfl (ty := (.array .int)) (by decide) rfl rfl 11 rfl (fun T w => ?_)
  replace w := w.to (L' := [(t, O_HashSlots (.ref ar) (.int (0 : Int32))), (ar, .inr (.int, List.replicate nn (.int (0 : Int32))))]) rfl
  exact g_ret w d2_11 (by decide) (by decide) ⟨rfl, ar, rfl⟩
theorem d4_0 : decode prog_84_method_5_code 0 = .ok (.aload_n 0, 1) := by decide +kernel
theorem d4_1 : decode prog_84_method_5_code 1 = .ok (.getfield 7, 3) := by decide +kernel
theorem d4_4 : decode prog_84_method_5_code 4 = .ok (.iload_n 1, 1) := by decide +kernel
theorem d4_5 : decode prog_84_method_5_code 5 = .ok (.iload_n 2, 1) := by decide +kernel
theorem d4_6 : decode prog_84_method_5_code 6 = .ok (.iconst 1, 1) := by decide +kernel
theorem d4_7 : decode prog_84_method_5_code 7 = .ok (.iadd, 1) := by decide +kernel
theorem d4_8 : decode prog_84_method_5_code 8 = .ok (.iastore, 1) := by decide +kernel
theorem d4_9 : decode prog_84_method_5_code 9 = .ok (.iconst 2, 1) := by decide +kernel
theorem d4_10 : decode prog_84_method_5_code 10 = .ok (.aload_n 0, 1) := by decide +kernel
theorem d4_11 : decode prog_84_method_5_code 11 = .ok (.dup, 1) := by decide +kernel
theorem d4_12 : decode prog_84_method_5_code 12 = .ok (.getfield 13, 3) := by decide +kernel
theorem d4_15 : decode prog_84_method_5_code 15 = .ok (.iconst 1, 1) := by decide +kernel
theorem d4_16 : decode prog_84_method_5_code 16 = .ok (.iadd, 1) := by decide +kernel
theorem d4_17 : decode prog_84_method_5_code 17 = .ok (.dup_x1, 1) := by decide +kernel
theorem d4_18 : decode prog_84_method_5_code 18 = .ok (.putfield 13, 3) := by decide +kernel
theorem d4_21 : decode prog_84_method_5_code 21 = .ok (.imul, 1) := by decide +kernel
theorem d4_22 : decode prog_84_method_5_code 22 = .ok (.aload_n 0, 1) := by decide +kernel
theorem d4_23 : decode prog_84_method_5_code 23 = .ok (.getfield 7, 3) := by decide +kernel
theorem d4_26 : decode prog_84_method_5_code 26 = .ok (.arraylength, 1) := by decide +kernel
theorem d4_27 : decode prog_84_method_5_code 27 = .ok (.if_icmp .le 7, 3) := by decide +kernel
theorem d4_30 : decode prog_84_method_5_code 30 = .ok (.iconst 1, 1) := by decide +kernel
theorem d4_31 : decode prog_84_method_5_code 31 = .ok (.goto 4, 3) := by decide +kernel
theorem d4_34 : decode prog_84_method_5_code 34 = .ok (.iconst 0, 1) := by decide +kernel
theorem d4_35 : decode prog_84_method_5_code 35 = .ok (.ireturn, 1) := by decide +kernel
theorem pn_4 : plainFor (⟨"tidestone/parquet/HashSlots", "put", "(II)Z"⟩ : MethodName) = true := plainFor_of_name (by first | (simp [plainName, overriddenIn]; done) | decide +kernel)
set_option maxRecDepth 65536 in
set_option maxHeartbeats 40000000 in
theorem rm4 (l : Launch) (Z : State) (a0 : Array Value) (hw : ∀ d ∈ tables_1, d.before a0 Z = true) (n0 : Nat) (t ar : Addr) (sl i tk z : Int32) (vs : List Value) (jn : Nat) (hj : sl.toInt = (jn : Int)) (hl : jn < vs.length) (hz : z.toInt = (vs.length : Int)) :
    Con l (⟨"tidestone/parquet/HashSlots", "put", "(II)Z"⟩ : MethodName) prog_84_method_5_code 3 (some .boolean) ({ frames := 0, cells := 0, slots := 0, locals := 0 } : Room) Z n0 #[(.ref t), (.int sl), (.int i)] ([(t, O_HashSlots (.ref ar) (.int tk)), (ar, .inr (.int, vs))]) (fun v L' => v = some (.int (if z < 2 * (tk + 1) then 1 else 0)) ∧ L' = [(t, O_HashSlots (.ref ar) (.int (tk + 1))), (ar, .inr (.int, vs.set jn (.int (i + 1))))]) := by
  refine Con.of (ws := tables_1) (a0 := a0) pn_4 hw ?_
  intro p e s m below meth cde T kb w
  refine g_entry #[.val (.ref t), .val (.int sl), .val (.int i)] (by first | (simp [entryFrame, mkF, argsToLocals, Value.category]; done) | rfl) ?_
  refine g_aloadN w d4_0 rfl rfl 1 rfl ?_
  refine g_getf w d4_1 0 rfl 0 rfl 14 rfl Via.refl 4 rfl (fun T w => ?_)
  refine g_iloadN w d4_4 rfl 5 rfl ?_
  refine g_iloadN w d4_5 rfl 6 rfl ?_
  refine g_iconst w d4_6 (1 : Int32) rfl 7 rfl ?_
  refine g_iadd w d4_7 8 rfl ?_
  refine g_iastore w d4_8 1 rfl jn hj hl (.int (i + 1)) rfl 9 rfl (fun T w => ?_)
  replace w := w.to (L' := [(t, O_HashSlots (.ref ar) (.int tk)), (ar, .inr (.int, vs.set jn (.int (i + 1))))]) rfl
  refine g_iconst w d4_9 (2 : Int32) rfl 10 rfl ?_
  refine g_aloadN w d4_10 rfl rfl 11 rfl ?_
  refine g_dup w d4_11 rfl 12 rfl ?_
  refine g_getf w d4_12 0 rfl 1 rfl 21 rfl Via.refl 15 rfl (fun T w => ?_)
  refine g_iconst w d4_15 (1 : Int32) rfl 16 rfl ?_
  refine g_iadd w d4_16 17 rfl ?_
  refine g_dup_x1 w d4_17 rfl rfl 18 rfl ?_
  refine g_putf w d4_18 0 rfl 1 rfl 21 rfl Via.refl 22 (Or.inl rfl) 5 rfl (ty := .int) (by decide) rfl rfl 21 rfl (fun T w => ?_)
  replace w := w.to (L' := [(t, O_HashSlots (.ref ar) (.int (tk + (1 : Int32)))), (ar, .inr (.int, vs.set jn (.int (i + 1))))]) rfl
  refine g_imul w d4_21 22 rfl ?_
  refine g_aloadN w d4_22 rfl rfl 23 rfl ?_
  refine g_getf w d4_23 0 rfl 0 rfl 14 rfl Via.refl 26 rfl (fun T w => ?_)
  refine g_alen w d4_26 1 rfl z (by simpa using hz) 27 rfl ?_
  refine g_icmp_le w d4_27 34 (by decide) (by decide) 30 rfl (fun hc27 => ?_) (fun hc27 => ?_)
  · -- pc 34 (taken: not z < ((2 : Int32) * (tk + (1 : Int32))))
    refine g_iconst w d4_34 (0 : Int32) rfl 35 rfl ?_
    exact g_iretn w (by simp) d4_35 (by decide) (by decide) ⟨congrArg (fun z => some (Value.int z)) (by simp [*] <;> rfl), rfl⟩
  · -- pc 30 (on: z < ((2 : Int32) * (tk + (1 : Int32))))
    refine g_iconst w d4_30 (1 : Int32) rfl 31 rfl ?_
    refine g_goto w d4_31 35 (by decide) (by decide) ?_
    exact g_iretn w (by simp) d4_35 (by decide) (by decide) ⟨congrArg (fun z => some (Value.int z)) (by simp [*] <;> rfl), rfl⟩
theorem d5_0 : decode prog_84_method_4_code 0 = .ok (.aload_n 0, 1) := by decide +kernel
theorem d5_1 : decode prog_84_method_4_code 1 = .ok (.getfield 7, 3) := by decide +kernel
theorem d5_4 : decode prog_84_method_4_code 4 = .ok (.iload_n 1, 1) := by decide +kernel
theorem d5_5 : decode prog_84_method_4_code 5 = .ok (.iaload, 1) := by decide +kernel
theorem d5_6 : decode prog_84_method_4_code 6 = .ok (.iconst 1, 1) := by decide +kernel
theorem d5_7 : decode prog_84_method_4_code 7 = .ok (.isub, 1) := by decide +kernel
theorem d5_8 : decode prog_84_method_4_code 8 = .ok (.ireturn, 1) := by decide +kernel
theorem pn_5 : plainFor (⟨"tidestone/parquet/HashSlots", "id", "(I)I"⟩ : MethodName) = true := plainFor_of_name (by first | (simp [plainName, overriddenIn]; done) | decide +kernel)
set_option maxRecDepth 65536 in
set_option maxHeartbeats 40000000 in
theorem rm5 (l : Launch) (Z : State) (a0 : Array Value) (hw : ∀ d ∈ tables_1, d.before a0 Z = true) (n0 : Nat) (t ar : Addr) (sl tk q : Int32) (vs : List Value) (jn : Nat) (hj : sl.toInt = (jn : Int)) (hv : vs[jn]? = some (.int q)) :
    Con l (⟨"tidestone/parquet/HashSlots", "id", "(I)I"⟩ : MethodName) prog_84_method_4_code 2 (some .int) ({ frames := 0, cells := 0, slots := 0, locals := 0 } : Room) Z n0 #[(.ref t), (.int sl)] ([(t, O_HashSlots (.ref ar) (.int tk)), (ar, .inr (.int, vs))]) (fun v L' => v = some (.int (q - 1)) ∧ L' = [(t, O_HashSlots (.ref ar) (.int tk)), (ar, .inr (.int, vs))]) := by
  refine Con.of (ws := tables_1) (a0 := a0) pn_5 hw ?_
  intro p e s m below meth cde T kb w
  refine g_entry #[.val (.ref t), .val (.int sl)] (by first | (simp [entryFrame, mkF, argsToLocals, Value.category]; done) | rfl) ?_
  refine g_aloadN w d5_0 rfl rfl 1 rfl ?_
  refine g_getf w d5_1 0 rfl 0 rfl 14 rfl Via.refl 4 rfl (fun T w => ?_)
  refine g_iloadN w d5_4 rfl 5 rfl ?_
  refine g_iaload w d5_5 1 rfl jn hj hv 6 rfl ?_
  refine g_iconst w d5_6 (1 : Int32) rfl 7 rfl ?_
  refine g_isub w d5_7 8 rfl ?_
  exact g_ireti w d5_8 (by decide) (by decide) ⟨rfl, rfl⟩
theorem pd_0 : parseMethodDescriptor "(II)I" = some ⟨[.int, .int], some .int⟩ := by decide +kernel
theorem pd_1 : parseMethodDescriptor "(I)V" = some ⟨[.int], none⟩ := by decide +kernel
theorem pd_2 : parseMethodDescriptor "(II)Z" = some ⟨[.int, .int], some .boolean⟩ := by decide +kernel
theorem pd_3 : parseMethodDescriptor "(I)I" = some ⟨[.int], some .int⟩ := by decide +kernel
theorem pn_0 : plainFor x = true := plainFor_of_name (by first | (simp [plainName, overriddenIn, x]; done) | decide +kernel)
set_option maxRecDepth 65536 in
set_option maxHeartbeats 40000000 in
theorem rm0 (l : Launch) (Z : State) (a0 : Array Value) (hw : ∀ d ∈ tables_1, d.before a0 Z = true) (n0 : Nat) (u0 u1 u2 u3 : Int32)  :
    Con l x code maxLocals ret room_1 Z n0 #[(.int u0), (.int u1), (.int u2), (.int u3)] ([]) (fun v _ => v = some (.int 1)) := by
  refine Con.of (ws := tables_1) (a0 := a0) pn_0 hw ?_
  intro p e s m below meth cde T kb w
  refine g_entry #[.val (.int u0), .val (.int u1), .val (.int u2), .val (.int u3), .unset, .unset, .unset, .unset, .unset, .unset, .unset, .unset, .unset, .unset, .unset, .unset] (by first | (simp [entryFrame, mkF, argsToLocals, Value.category, maxLocals]; done) | rfl) ?_
  refine g_iconst w at_0 (1 : Int32) rfl 1 rfl ?_
  refine g_iloadN w at_1 rfl 2 rfl ?_
  refine g_iconst w at_2 (3 : Int32) rfl 3 rfl ?_
  refine g_iand w at_3 4 rfl ?_
  refine g_ishl w at_4 5 rfl ?_
  rcases own_n u0 with hn | hn | hn | hn
  · -- pc 5 n = 1
    refine g_int (x' := (1 : Int32)) hn ?_
    refine g_istore w at_5 7 rfl rfl #[.val (.int u0), .val (.int u1), .val (.int u2), .val (.int u3), .val (.int (1 : Int32)), .unset, .unset, .unset, .unset, .unset, .unset, .unset, .unset, .unset, .unset, .unset] rfl ?_
    refine g_iload w at_7 rfl 9 rfl ?_
    refine g_iconst w at_9 (1 : Int32) rfl 10 rfl ?_
    refine g_isub w at_10 11 rfl ?_
    refine g_int (x' := (0 : Int32)) (by decide) ?_
    refine g_istore w at_11 13 rfl rfl #[.val (.int u0), .val (.int u1), .val (.int u2), .val (.int u3), .val (.int (1 : Int32)), .val (.int (0 : Int32)), .unset, .unset, .unset, .unset, .unset, .unset, .unset, .unset, .unset, .unset] rfl ?_
    refine g_iconst w at_13 (1 : Int32) rfl 14 rfl ?_
    refine g_iloadN w at_14 rfl 15 rfl ?_
    refine g_bipush w at_15 (7 : Int32) rfl 17 rfl ?_
    refine g_iand w at_17 18 rfl ?_
    refine g_iadd w at_18 19 rfl ?_
    refine g_iload w at_19 rfl 21 rfl ?_
    refine g_static w (argsL := [(.int ((1 : Int32) + (u1 &&& (7 : Int32)))), (.int (1 : Int32))]) (rest := []) (rm1 l Z a0 hw n0 ((1 : Int32) + (u1 &&& (7 : Int32))) (1 : Int32) ([])) at_21 0 rfl 1 rfl 2 rfl 3 rfl ⟨by decide, by decide⟩ pd_0 rfl rfl rfl 0 rfl (by decide) (by decide) (by decide) (by decide) 24 rfl (fun T v L w h => ?_)
    obtain ⟨rfl, rfl⟩ := h
    refine g_iconst w at_24 (5 : Int32) rfl 25 rfl ?_
    refine g_static w (argsL := [(.int (own_min ((1 : Int32) + (u1 &&& (7 : Int32))) (1 : Int32))), (.int (5 : Int32))]) (rest := []) (rm1 l Z a0 hw n0 (own_min ((1 : Int32) + (u1 &&& (7 : Int32))) (1 : Int32)) (5 : Int32) ([])) at_25 0 rfl 1 rfl 2 rfl 3 rfl ⟨by decide, by decide⟩ pd_0 rfl rfl rfl 0 rfl (by decide) (by decide) (by decide) (by decide) 28 rfl (fun T v L w h => ?_)
    obtain ⟨rfl, rfl⟩ := h
    refine g_int (x' := (1 : Int32)) (own_c1 u1) ?_
    refine g_istore w at_28 30 rfl rfl #[.val (.int u0), .val (.int u1), .val (.int u2), .val (.int u3), .val (.int (1 : Int32)), .val (.int (0 : Int32)), .val (.int (1 : Int32)), .unset, .unset, .unset, .unset, .unset, .unset, .unset, .unset, .unset] rfl ?_
    refine g_iloadN w at_30 rfl 31 rfl ?_
    refine g_iconst w at_31 (1 : Int32) rfl 32 rfl ?_
    refine g_ior w at_32 33 rfl ?_
    obtain ⟨st, hst⟩ : ∃ z, z = ((u3 ||| (1 : Int32)) : Int32) := ⟨_, rfl⟩
    refine g_istore w at_33 35 rfl hst.symm #[.val (.int u0), .val (.int u1), .val (.int u2), .val (.int u3), .val (.int (1 : Int32)), .val (.int (0 : Int32)), .val (.int (1 : Int32)), .val (.int st), .unset, .unset, .unset, .unset, .unset, .unset, .unset, .unset] rfl ?_
    refine g_iloadN w at_35 rfl 36 rfl ?_
    refine g_iload w at_36 rfl 38 rfl ?_
    refine g_iand w at_38 39 rfl ?_
    obtain ⟨s0, hs0⟩ : ∃ z, z = ((u2 &&& (0 : Int32)) : Int32) := ⟨_, rfl⟩
    refine g_istore w at_39 41 rfl hs0.symm #[.val (.int u0), .val (.int u1), .val (.int u2), .val (.int u3), .val (.int (1 : Int32)), .val (.int (0 : Int32)), .val (.int (1 : Int32)), .val (.int st), .val (.int s0), .unset, .unset, .unset, .unset, .unset, .unset, .unset] rfl ?_
    refine g_iloadN w at_41 rfl 42 rfl ?_
    refine g_iload w at_42 rfl 44 rfl ?_
    refine g_iadd w at_44 45 rfl ?_
    refine g_iload w at_45 rfl 47 rfl ?_
    refine g_iand w at_47 48 rfl ?_
    obtain ⟨s1, hs1⟩ : ∃ z, z = (((u2 + st) &&& (0 : Int32)) : Int32) := ⟨_, rfl⟩
    refine g_istore w at_48 50 rfl hs1.symm #[.val (.int u0), .val (.int u1), .val (.int u2), .val (.int u3), .val (.int (1 : Int32)), .val (.int (0 : Int32)), .val (.int (1 : Int32)), .val (.int st), .val (.int s0), .val (.int s1), .unset, .unset, .unset, .unset, .unset, .unset] rfl ?_
    refine g_iloadN w at_50 rfl 51 rfl ?_
    refine g_iconst w at_51 (2 : Int32) rfl 52 rfl ?_
    refine g_iload w at_52 rfl 54 rfl ?_
    refine g_imul w at_54 55 rfl ?_
    refine g_iadd w at_55 56 rfl ?_
    refine g_iload w at_56 rfl 58 rfl ?_
    refine g_iand w at_58 59 rfl ?_
    obtain ⟨s2, hs2⟩ : ∃ z, z = (((u2 + ((2 : Int32) * st)) &&& (0 : Int32)) : Int32) := ⟨_, rfl⟩
    refine g_istore w at_59 61 rfl hs2.symm #[.val (.int u0), .val (.int u1), .val (.int u2), .val (.int u3), .val (.int (1 : Int32)), .val (.int (0 : Int32)), .val (.int (1 : Int32)), .val (.int st), .val (.int s0), .val (.int s1), .val (.int s2), .unset, .unset, .unset, .unset, .unset] rfl ?_
    refine g_iloadN w at_61 rfl 62 rfl ?_
    refine g_iconst w at_62 (3 : Int32) rfl 63 rfl ?_
    refine g_iload w at_63 rfl 65 rfl ?_
    refine g_imul w at_65 66 rfl ?_
    refine g_iadd w at_66 67 rfl ?_
    refine g_iload w at_67 rfl 69 rfl ?_
    refine g_iand w at_69 70 rfl ?_
    obtain ⟨s3, hs3⟩ : ∃ z, z = (((u2 + ((3 : Int32) * st)) &&& (0 : Int32)) : Int32) := ⟨_, rfl⟩
    refine g_istore w at_70 72 rfl hs3.symm #[.val (.int u0), .val (.int u1), .val (.int u2), .val (.int u3), .val (.int (1 : Int32)), .val (.int (0 : Int32)), .val (.int (1 : Int32)), .val (.int st), .val (.int s0), .val (.int s1), .val (.int s2), .val (.int s3), .unset, .unset, .unset, .unset] rfl ?_
    refine g_iloadN w at_72 rfl 73 rfl ?_
    refine g_iconst w at_73 (4 : Int32) rfl 74 rfl ?_
    refine g_iload w at_74 rfl 76 rfl ?_
    refine g_imul w at_76 77 rfl ?_
    refine g_iadd w at_77 78 rfl ?_
    refine g_iload w at_78 rfl 80 rfl ?_
    refine g_iand w at_80 81 rfl ?_
    obtain ⟨s4, hs4⟩ : ∃ z, z = (((u2 + ((4 : Int32) * st)) &&& (0 : Int32)) : Int32) := ⟨_, rfl⟩
    refine g_istore w at_81 83 rfl hs4.symm #[.val (.int u0), .val (.int u1), .val (.int u2), .val (.int u3), .val (.int (1 : Int32)), .val (.int (0 : Int32)), .val (.int (1 : Int32)), .val (.int st), .val (.int s0), .val (.int s1), .val (.int s2), .val (.int s3), .val (.int s4), .unset, .unset, .unset] rfl ?_
    refine g_iloadN w at_83 rfl 84 rfl ?_
    refine g_iload w at_84 rfl 86 rfl ?_
    refine g_iload w at_86 rfl 88 rfl ?_
    refine g_imul w at_88 89 rfl ?_
    refine g_iadd w at_89 90 rfl ?_
    refine g_iload w at_90 rfl 92 rfl ?_
    refine g_iand w at_92 93 rfl ?_
    obtain ⟨sF, hsF⟩ : ∃ z, z = (((u2 + ((1 : Int32) * st)) &&& (0 : Int32)) : Int32) := ⟨_, rfl⟩
    refine g_istore w at_93 95 rfl hsF.symm #[.val (.int u0), .val (.int u1), .val (.int u2), .val (.int u3), .val (.int (1 : Int32)), .val (.int (0 : Int32)), .val (.int (1 : Int32)), .val (.int st), .val (.int s0), .val (.int s1), .val (.int s2), .val (.int s3), .val (.int s4), .val (.int sF), .unset, .unset] rfl ?_
    have hodd : st.toInt % 2 = 1 := by rw [hst]; exact own_odd u3
    have hM := c_mask u2 0 0 (by decide) (by decide)
    have E0 : s0.toInt = u2.toInt % 1 := by rw [hs0]; omega
    obtain ⟨j0, hj0⟩ : ∃ j : Nat, s0.toInt = (j : Int) := ⟨s0.toInt.toNat, by omega⟩
    have hl0 : j0 < 1 := by omega
    clear hM
    refine g_new w [("tidestone/parquet/HashSlots", "slots", "[I", .null), ("tidestone/parquet/HashSlots", "taken", "I", (.int (0 : Int32)))] at_95 4 rfl 5 rfl 6 rfl (FOk.cons (Or.inl (w.hw (k := 15) rfl)) (ty := (.array .int)) (by decide) rfl (FOk.cons (Or.inl (w.hw (k := 22) rfl)) (ty := .int) (by decide) rfl trivial)) (by decide) (by decide) (by decide) 98 rfl (fun T b1 w => ?_)
    replace w := w.to (L' := [(b1, O_HashSlots .null (.int (0 : Int32)))]) rfl
    refine g_dup w at_98 rfl 99 rfl ?_
    refine g_iload w at_99 rfl 101 rfl ?_
    refine g_ctor w (argsL := [(.int (1 : Int32))]) (rest := [(.ref b1)]) (rm2 l Z a0 hw n0 b1 (1 : Int32) 1 (by decide) (by decide)) at_101 7 rfl 8 rfl 6 rfl 9 rfl rfl ⟨by decide, by decide⟩ pd_1 rfl rfl rfl 1 rfl (by decide) (by decide) (by decide) (by decide) 104 rfl (fun T v L w h => ?_)
    obtain ⟨rfl, ar, rfl⟩ := h
    refine g_astore w at_104 106 rfl rfl #[.val (.int u0), .val (.int u1), .val (.int u2), .val (.int u3), .val (.int (1 : Int32)), .val (.int (0 : Int32)), .val (.int (1 : Int32)), .val (.int st), .val (.int s0), .val (.int s1), .val (.int s2), .val (.int s3), .val (.int s4), .val (.int sF), .val (.ref b1), .unset] rfl ?_
    refine g_iconst w at_106 (1 : Int32) rfl 107 rfl ?_
    refine g_istore w at_107 109 rfl rfl #[.val (.int u0), .val (.int u1), .val (.int u2), .val (.int u3), .val (.int (1 : Int32)), .val (.int (0 : Int32)), .val (.int (1 : Int32)), .val (.int st), .val (.int s0), .val (.int s1), .val (.int s2), .val (.int s3), .val (.int s4), .val (.int sF), .val (.ref b1), .val (.int (1 : Int32))] rfl ?_
    refine g_iload w at_109 rfl 111 rfl ?_
    refine g_if_le w at_111 148 (by decide) (by decide) 114 rfl (fun h => absurd (by decide) h) (fun hc111 => ?_)
    refine g_iload w at_114 rfl 116 rfl ?_
    refine g_if_eq w at_116 145 (by decide) (by decide) 119 rfl (fun h => absurd h (by decide)) (fun hc116 => ?_)
    refine g_aload w at_119 rfl rfl 121 rfl ?_
    refine g_iload w at_121 rfl 123 rfl ?_
    refine g_iconst w at_123 (0 : Int32) rfl 124 rfl ?_
    refine g_virt w (argsL := [(.int s0), (.int (0 : Int32))]) (rest := []) (rm4 l Z a0 hw n0 b1 ar s0 (0 : Int32) (0 : Int32) (1 : Int32) (List.replicate 1 (.int (0 : Int32))) j0 hj0 (by simpa using hl0) (by simp only [List.length_set, List.length_replicate]; rfl)) at_124 0 rfl 16 rfl 17 rfl 6 rfl 20 rfl 19 rfl 18 rfl ⟨by decide, by decide⟩ pd_2 rfl rfl rfl 0 rfl (by decide) (by decide) (by decide) (by decide) 127 rfl (fun T v L w h => ?_)
    obtain ⟨rfl, rfl⟩ := h
    refine g_int (x' := (1 : Int32)) (by decide) ?_
    replace w := w.to (L' := [(b1, O_HashSlots (.ref ar) (.int (1 : Int32))), (ar, .inr (.int, (List.replicate 1 (.int (0 : Int32))).set j0 (.int ((0 : Int32) + 1))))]) rfl
    refine g_iconst w at_127 (2 : Int32) rfl 128 rfl ?_
    refine g_iload w at_128 rfl 130 rfl ?_
    refine g_icmp_le w at_130 137 (by decide) (by decide) 133 rfl (fun h => absurd (by decide) h) (fun hc130 => ?_)
    refine g_iconst w at_133 (1 : Int32) rfl 134 rfl ?_
    refine g_goto w at_134 138 (by decide) (by decide) ?_
    refine g_icmp_ne w at_138 145 (by decide) (by decide) 141 rfl (fun h => absurd (by decide) h) (fun hc138 => ?_)
    refine g_iconst w at_141 (1 : Int32) rfl 142 rfl ?_
    refine g_goto w at_142 146 (by decide) (by decide) ?_
    refine g_istore w at_146 148 rfl rfl #[.val (.int u0), .val (.int u1), .val (.int u2), .val (.int u3), .val (.int (1 : Int32)), .val (.int (0 : Int32)), .val (.int (1 : Int32)), .val (.int st), .val (.int s0), .val (.int s1), .val (.int s2), .val (.int s3), .val (.int s4), .val (.int sF), .val (.ref b1), .val (.int (1 : Int32))] rfl ?_
    refine g_iload w at_148 rfl 150 rfl ?_
    refine g_iconst w at_150 (1 : Int32) rfl 151 rfl ?_
    refine g_icmp_le w at_151 188 (by decide) (by decide) 154 rfl (fun hc151 => ?_) (fun h => absurd h (by decide))
    refine g_iload w at_188 rfl 190 rfl ?_
    refine g_iconst w at_190 (2 : Int32) rfl 191 rfl ?_
    refine g_icmp_le w at_191 229 (by decide) (by decide) 194 rfl (fun hc191 => ?_) (fun h => absurd h (by decide))
    refine g_iload w at_229 rfl 231 rfl ?_
    refine g_iconst w at_231 (3 : Int32) rfl 232 rfl ?_
    refine g_icmp_le w at_232 270 (by decide) (by decide) 235 rfl (fun hc232 => ?_) (fun h => absurd h (by decide))
    refine g_iload w at_270 rfl 272 rfl ?_
    refine g_iconst w at_272 (4 : Int32) rfl 273 rfl ?_
    refine g_icmp_le w at_273 311 (by decide) (by decide) 276 rfl (fun hc273 => ?_) (fun h => absurd h (by decide))
    refine g_iload w at_311 rfl 313 rfl ?_
    refine g_if_le w at_313 338 (by decide) (by decide) 316 rfl (fun h => absurd (by decide) h) (fun hc313 => ?_)
    refine g_iload w at_316 rfl 318 rfl ?_
    refine g_if_eq w at_318 335 (by decide) (by decide) 321 rfl (fun h => absurd h (by decide)) (fun hc318 => ?_)
    refine g_aload w at_321 rfl rfl 323 rfl ?_
    refine g_iload w at_323 rfl 325 rfl ?_
    refine g_virt w (argsL := [(.int s0)]) (rest := []) (rm5 l Z a0 hw n0 b1 ar s0 (1 : Int32) ((0 : Int32) + 1) ((List.replicate 1 (.int (0 : Int32))).set j0 (.int ((0 : Int32) + 1))) j0 hj0 (List.getElem?_set_self (by simpa using hl0))) at_325 0 rfl 23 rfl 24 rfl 6 rfl 27 rfl 26 rfl 25 rfl ⟨by decide, by decide⟩ pd_3 rfl rfl rfl 0 rfl (by decide) (by decide) (by decide) (by decide) 328 rfl (fun T v L w h => ?_)
    obtain ⟨rfl, rfl⟩ := h
    refine g_int (x' := (0 : Int32)) (by decide) ?_
    refine g_if_ne w at_328 335 (by decide) (by decide) 331 rfl (fun h => absurd (by decide) h) (fun hc328 => ?_)
    refine g_iconst w at_331 (1 : Int32) rfl 332 rfl ?_
    refine g_goto w at_332 336 (by decide) (by decide) ?_
    refine g_istore w at_336 338 rfl rfl #[.val (.int u0), .val (.int u1), .val (.int u2), .val (.int u3), .val (.int (1 : Int32)), .val (.int (0 : Int32)), .val (.int (1 : Int32)), .val (.int st), .val (.int s0), .val (.int s1), .val (.int s2), .val (.int s3), .val (.int s4), .val (.int sF), .val (.ref b1), .val (.int (1 : Int32))] rfl ?_
    refine g_iload w at_338 rfl 340 rfl ?_
    refine g_iconst w at_340 (1 : Int32) rfl 341 rfl ?_
    refine g_icmp_le w at_341 367 (by decide) (by decide) 344 rfl (fun hc341 => ?_) (fun h => absurd h (by decide))
    refine g_iload w at_367 rfl 369 rfl ?_
    refine g_iconst w at_369 (2 : Int32) rfl 370 rfl ?_
    refine g_icmp_le w at_370 396 (by decide) (by decide) 373 rfl (fun hc370 => ?_) (fun h => absurd h (by decide))
    refine g_iload w at_396 rfl 398 rfl ?_
    refine g_iconst w at_398 (3 : Int32) rfl 399 rfl ?_
    refine g_icmp_le w at_399 425 (by decide) (by decide) 402 rfl (fun hc399 => ?_) (fun h => absurd h (by decide))
    refine g_iload w at_425 rfl 427 rfl ?_
    refine g_iconst w at_427 (4 : Int32) rfl 428 rfl ?_
    refine g_icmp_le w at_428 454 (by decide) (by decide) 431 rfl (fun hc428 => ?_) (fun h => absurd h (by decide))
    refine g_iload w at_454 rfl 456 rfl ?_
    refine g_iload w at_456 rfl 458 rfl ?_
    refine g_icmp_ge w at_458 484 (by decide) (by decide) 461 rfl (fun hc458 => ?_) (fun h => absurd h (by decide))
    refine g_iload w at_484 rfl 486 rfl ?_
    exact g_iretn w (by simp) at_486 (by decide) (by decide) rfl
  · -- pc 5 n = 2
    refine g_int (x' := (2 : Int32)) hn ?_
    refine g_istore w at_5 7 rfl rfl #[.val (.int u0), .val (.int u1), .val (.int u2), .val (.int u3), .val (.int (2 : Int32)), .unset, .unset, .unset, .unset, .unset, .unset, .unset, .unset, .unset, .unset, .unset] rfl ?_
    refine g_iload w at_7 rfl 9 rfl ?_
    refine g_iconst w at_9 (1 : Int32) rfl 10 rfl ?_
    refine g_isub w at_10 11 rfl ?_
    refine g_int (x' := (1 : Int32)) (by decide) ?_
    refine g_istore w at_11 13 rfl rfl #[.val (.int u0), .val (.int u1), .val (.int u2), .val (.int u3), .val (.int (2 : Int32)), .val (.int (1 : Int32)), .unset, .unset, .unset, .unset, .unset, .unset, .unset, .unset, .unset, .unset] rfl ?_
    refine g_iconst w at_13 (1 : Int32) rfl 14 rfl ?_
    refine g_iloadN w at_14 rfl 15 rfl ?_
    refine g_bipush w at_15 (7 : Int32) rfl 17 rfl ?_
    refine g_iand w at_17 18 rfl ?_
    refine g_iadd w at_18 19 rfl ?_
    refine g_iload w at_19 rfl 21 rfl ?_
    refine g_static w (argsL := [(.int ((1 : Int32) + (u1 &&& (7 : Int32)))), (.int (2 : Int32))]) (rest := []) (rm1 l Z a0 hw n0 ((1 : Int32) + (u1 &&& (7 : Int32))) (2 : Int32) ([])) at_21 0 rfl 1 rfl 2 rfl 3 rfl ⟨by decide, by decide⟩ pd_0 rfl rfl rfl 0 rfl (by decide) (by decide) (by decide) (by decide) 24 rfl (fun T v L w h => ?_)
    obtain ⟨rfl, rfl⟩ := h
    refine g_iconst w at_24 (5 : Int32) rfl 25 rfl ?_
    refine g_static w (argsL := [(.int (own_min ((1 : Int32) + (u1 &&& (7 : Int32))) (2 : Int32))), (.int (5 : Int32))]) (rest := []) (rm1 l Z a0 hw n0 (own_min ((1 : Int32) + (u1 &&& (7 : Int32))) (2 : Int32)) (5 : Int32) ([])) at_25 0 rfl 1 rfl 2 rfl 3 rfl ⟨by decide, by decide⟩ pd_0 rfl rfl rfl 0 rfl (by decide) (by decide) (by decide) (by decide) 28 rfl (fun T v L w h => ?_)
    obtain ⟨rfl, rfl⟩ := h
    rcases own_c2 u1 with hcc | hcc
    · -- pc 28 c = 1
      refine g_int (x' := (1 : Int32)) hcc ?_
      refine g_istore w at_28 30 rfl rfl #[.val (.int u0), .val (.int u1), .val (.int u2), .val (.int u3), .val (.int (2 : Int32)), .val (.int (1 : Int32)), .val (.int (1 : Int32)), .unset, .unset, .unset, .unset, .unset, .unset, .unset, .unset, .unset] rfl ?_
      refine g_iloadN w at_30 rfl 31 rfl ?_
      refine g_iconst w at_31 (1 : Int32) rfl 32 rfl ?_
      refine g_ior w at_32 33 rfl ?_
      obtain ⟨st, hst⟩ : ∃ z, z = ((u3 ||| (1 : Int32)) : Int32) := ⟨_, rfl⟩
      refine g_istore w at_33 35 rfl hst.symm #[.val (.int u0), .val (.int u1), .val (.int u2), .val (.int u3), .val (.int (2 : Int32)), .val (.int (1 : Int32)), .val (.int (1 : Int32)), .val (.int st), .unset, .unset, .unset, .unset, .unset, .unset, .unset, .unset] rfl ?_
      refine g_iloadN w at_35 rfl 36 rfl ?_
      refine g_iload w at_36 rfl 38 rfl ?_
      refine g_iand w at_38 39 rfl ?_
      obtain ⟨s0, hs0⟩ : ∃ z, z = ((u2 &&& (1 : Int32)) : Int32) := ⟨_, rfl⟩
      refine g_istore w at_39 41 rfl hs0.symm #[.val (.int u0), .val (.int u1), .val (.int u2), .val (.int u3), .val (.int (2 : Int32)), .val (.int (1 : Int32)), .val (.int (1 : Int32)), .val (.int st), .val (.int s0), .unset, .unset, .unset, .unset, .unset, .unset, .unset] rfl ?_
      refine g_iloadN w at_41 rfl 42 rfl ?_
      refine g_iload w at_42 rfl 44 rfl ?_
      refine g_iadd w at_44 45 rfl ?_
      refine g_iload w at_45 rfl 47 rfl ?_
      refine g_iand w at_47 48 rfl ?_
      obtain ⟨s1, hs1⟩ : ∃ z, z = (((u2 + st) &&& (1 : Int32)) : Int32) := ⟨_, rfl⟩
      refine g_istore w at_48 50 rfl hs1.symm #[.val (.int u0), .val (.int u1), .val (.int u2), .val (.int u3), .val (.int (2 : Int32)), .val (.int (1 : Int32)), .val (.int (1 : Int32)), .val (.int st), .val (.int s0), .val (.int s1), .unset, .unset, .unset, .unset, .unset, .unset] rfl ?_
      refine g_iloadN w at_50 rfl 51 rfl ?_
      refine g_iconst w at_51 (2 : Int32) rfl 52 rfl ?_
      refine g_iload w at_52 rfl 54 rfl ?_
      refine g_imul w at_54 55 rfl ?_
      refine g_iadd w at_55 56 rfl ?_
      refine g_iload w at_56 rfl 58 rfl ?_
      refine g_iand w at_58 59 rfl ?_
      obtain ⟨s2, hs2⟩ : ∃ z, z = (((u2 + ((2 : Int32) * st)) &&& (1 : Int32)) : Int32) := ⟨_, rfl⟩
      refine g_istore w at_59 61 rfl hs2.symm #[.val (.int u0), .val (.int u1), .val (.int u2), .val (.int u3), .val (.int (2 : Int32)), .val (.int (1 : Int32)), .val (.int (1 : Int32)), .val (.int st), .val (.int s0), .val (.int s1), .val (.int s2), .unset, .unset, .unset, .unset, .unset] rfl ?_
      refine g_iloadN w at_61 rfl 62 rfl ?_
      refine g_iconst w at_62 (3 : Int32) rfl 63 rfl ?_
      refine g_iload w at_63 rfl 65 rfl ?_
      refine g_imul w at_65 66 rfl ?_
      refine g_iadd w at_66 67 rfl ?_
      refine g_iload w at_67 rfl 69 rfl ?_
      refine g_iand w at_69 70 rfl ?_
      obtain ⟨s3, hs3⟩ : ∃ z, z = (((u2 + ((3 : Int32) * st)) &&& (1 : Int32)) : Int32) := ⟨_, rfl⟩
      refine g_istore w at_70 72 rfl hs3.symm #[.val (.int u0), .val (.int u1), .val (.int u2), .val (.int u3), .val (.int (2 : Int32)), .val (.int (1 : Int32)), .val (.int (1 : Int32)), .val (.int st), .val (.int s0), .val (.int s1), .val (.int s2), .val (.int s3), .unset, .unset, .unset, .unset] rfl ?_
      refine g_iloadN w at_72 rfl 73 rfl ?_
      refine g_iconst w at_73 (4 : Int32) rfl 74 rfl ?_
      refine g_iload w at_74 rfl 76 rfl ?_
      refine g_imul w at_76 77 rfl ?_
      refine g_iadd w at_77 78 rfl ?_
      refine g_iload w at_78 rfl 80 rfl ?_
      refine g_iand w at_80 81 rfl ?_
      obtain ⟨s4, hs4⟩ : ∃ z, z = (((u2 + ((4 : Int32) * st)) &&& (1 : Int32)) : Int32) := ⟨_, rfl⟩
      refine g_istore w at_81 83 rfl hs4.symm #[.val (.int u0), .val (.int u1), .val (.int u2), .val (.int u3), .val (.int (2 : Int32)), .val (.int (1 : Int32)), .val (.int (1 : Int32)), .val (.int st), .val (.int s0), .val (.int s1), .val (.int s2), .val (.int s3), .val (.int s4), .unset, .unset, .unset] rfl ?_
      refine g_iloadN w at_83 rfl 84 rfl ?_
      refine g_iload w at_84 rfl 86 rfl ?_
      refine g_iload w at_86 rfl 88 rfl ?_
      refine g_imul w at_88 89 rfl ?_
      refine g_iadd w at_89 90 rfl ?_
      refine g_iload w at_90 rfl 92 rfl ?_
      refine g_iand w at_92 93 rfl ?_
      obtain ⟨sF, hsF⟩ : ∃ z, z = (((u2 + ((1 : Int32) * st)) &&& (1 : Int32)) : Int32) := ⟨_, rfl⟩
      refine g_istore w at_93 95 rfl hsF.symm #[.val (.int u0), .val (.int u1), .val (.int u2), .val (.int u3), .val (.int (2 : Int32)), .val (.int (1 : Int32)), .val (.int (1 : Int32)), .val (.int st), .val (.int s0), .val (.int s1), .val (.int s2), .val (.int s3), .val (.int s4), .val (.int sF), .unset, .unset] rfl ?_
      have hodd : st.toInt % 2 = 1 := by rw [hst]; exact own_odd u3
      have hM := c_mask u2 1 1 (by decide) (by decide)
      have E0 : s0.toInt = u2.toInt % 2 := by rw [hs0]; omega
      obtain ⟨j0, hj0⟩ : ∃ j : Nat, s0.toInt = (j : Int) := ⟨s0.toInt.toNat, by omega⟩
      have hl0 : j0 < 2 := by omega
      have EF : sF.toInt = (u2.toInt + 1 * st.toInt) % 2 := by rw [hsF]; exact own_s2 u2 st 1
      obtain ⟨jF, hjF⟩ : ∃ j : Nat, sF.toInt = (j : Int) := ⟨sF.toInt.toNat, by omega⟩
      have hlF : jF < 2 := by omega
      have hne0_F : j0 ≠ jF := by omega
      clear hM
      refine g_new w [("tidestone/parquet/HashSlots", "slots", "[I", .null), ("tidestone/parquet/HashSlots", "taken", "I", (.int (0 : Int32)))] at_95 4 rfl 5 rfl 6 rfl (FOk.cons (Or.inl (w.hw (k := 15) rfl)) (ty := (.array .int)) (by decide) rfl (FOk.cons (Or.inl (w.hw (k := 22) rfl)) (ty := .int) (by decide) rfl trivial)) (by decide) (by decide) (by decide) 98 rfl (fun T b2 w => ?_)
      replace w := w.to (L' := [(b2, O_HashSlots .null (.int (0 : Int32)))]) rfl
      refine g_dup w at_98 rfl 99 rfl ?_
      refine g_iload w at_99 rfl 101 rfl ?_
      refine g_ctor w (argsL := [(.int (2 : Int32))]) (rest := [(.ref b2)]) (rm2 l Z a0 hw n0 b2 (2 : Int32) 2 (by decide) (by decide)) at_101 7 rfl 8 rfl 6 rfl 9 rfl rfl ⟨by decide, by decide⟩ pd_1 rfl rfl rfl 1 rfl (by decide) (by decide) (by decide) (by decide) 104 rfl (fun T v L w h => ?_)
      obtain ⟨rfl, ar, rfl⟩ := h
      refine g_astore w at_104 106 rfl rfl #[.val (.int u0), .val (.int u1), .val (.int u2), .val (.int u3), .val (.int (2 : Int32)), .val (.int (1 : Int32)), .val (.int (1 : Int32)), .val (.int st), .val (.int s0), .val (.int s1), .val (.int s2), .val (.int s3), .val (.int s4), .val (.int sF), .val (.ref b2), .unset] rfl ?_
      refine g_iconst w at_106 (1 : Int32) rfl 107 rfl ?_
      refine g_istore w at_107 109 rfl rfl #[.val (.int u0), .val (.int u1), .val (.int u2), .val (.int u3), .val (.int (2 : Int32)), .val (.int (1 : Int32)), .val (.int (1 : Int32)), .val (.int st), .val (.int s0), .val (.int s1), .val (.int s2), .val (.int s3), .val (.int s4), .val (.int sF), .val (.ref b2), .val (.int (1 : Int32))] rfl ?_
      refine g_iload w at_109 rfl 111 rfl ?_
      refine g_if_le w at_111 148 (by decide) (by decide) 114 rfl (fun h => absurd (by decide) h) (fun hc111 => ?_)
      refine g_iload w at_114 rfl 116 rfl ?_
      refine g_if_eq w at_116 145 (by decide) (by decide) 119 rfl (fun h => absurd h (by decide)) (fun hc116 => ?_)
      refine g_aload w at_119 rfl rfl 121 rfl ?_
      refine g_iload w at_121 rfl 123 rfl ?_
      refine g_iconst w at_123 (0 : Int32) rfl 124 rfl ?_
      refine g_virt w (argsL := [(.int s0), (.int (0 : Int32))]) (rest := []) (rm4 l Z a0 hw n0 b2 ar s0 (0 : Int32) (0 : Int32) (2 : Int32) (List.replicate 2 (.int (0 : Int32))) j0 hj0 (by simpa using hl0) (by simp only [List.length_set, List.length_replicate]; rfl)) at_124 0 rfl 16 rfl 17 rfl 6 rfl 20 rfl 19 rfl 18 rfl ⟨by decide, by decide⟩ pd_2 rfl rfl rfl 0 rfl (by decide) (by decide) (by decide) (by decide) 127 rfl (fun T v L w h => ?_)
      obtain ⟨rfl, rfl⟩ := h
      refine g_int (x' := (0 : Int32)) (by decide) ?_
      replace w := w.to (L' := [(b2, O_HashSlots (.ref ar) (.int (1 : Int32))), (ar, .inr (.int, (List.replicate 2 (.int (0 : Int32))).set j0 (.int ((0 : Int32) + 1))))]) rfl
      refine g_iconst w at_127 (2 : Int32) rfl 128 rfl ?_
      refine g_iload w at_128 rfl 130 rfl ?_
      refine g_icmp_le w at_130 137 (by decide) (by decide) 133 rfl (fun hc130 => ?_) (fun h => absurd h (by decide))
      refine g_iconst w at_137 (0 : Int32) rfl 138 rfl ?_
      refine g_icmp_ne w at_138 145 (by decide) (by decide) 141 rfl (fun h => absurd (by decide) h) (fun hc138 => ?_)
      refine g_iconst w at_141 (1 : Int32) rfl 142 rfl ?_
      refine g_goto w at_142 146 (by decide) (by decide) ?_
      refine g_istore w at_146 148 rfl rfl #[.val (.int u0), .val (.int u1), .val (.int u2), .val (.int u3), .val (.int (2 : Int32)), .val (.int (1 : Int32)), .val (.int (1 : Int32)), .val (.int st), .val (.int s0), .val (.int s1), .val (.int s2), .val (.int s3), .val (.int s4), .val (.int sF), .val (.ref b2), .val (.int (1 : Int32))] rfl ?_
      refine g_iload w at_148 rfl 150 rfl ?_
      refine g_iconst w at_150 (1 : Int32) rfl 151 rfl ?_
      refine g_icmp_le w at_151 188 (by decide) (by decide) 154 rfl (fun hc151 => ?_) (fun h => absurd h (by decide))
      refine g_iload w at_188 rfl 190 rfl ?_
      refine g_iconst w at_190 (2 : Int32) rfl 191 rfl ?_
      refine g_icmp_le w at_191 229 (by decide) (by decide) 194 rfl (fun hc191 => ?_) (fun h => absurd h (by decide))
      refine g_iload w at_229 rfl 231 rfl ?_
      refine g_iconst w at_231 (3 : Int32) rfl 232 rfl ?_
      refine g_icmp_le w at_232 270 (by decide) (by decide) 235 rfl (fun hc232 => ?_) (fun h => absurd h (by decide))
      refine g_iload w at_270 rfl 272 rfl ?_
      refine g_iconst w at_272 (4 : Int32) rfl 273 rfl ?_
      refine g_icmp_le w at_273 311 (by decide) (by decide) 276 rfl (fun hc273 => ?_) (fun h => absurd h (by decide))
      refine g_iload w at_311 rfl 313 rfl ?_
      refine g_if_le w at_313 338 (by decide) (by decide) 316 rfl (fun h => absurd (by decide) h) (fun hc313 => ?_)
      refine g_iload w at_316 rfl 318 rfl ?_
      refine g_if_eq w at_318 335 (by decide) (by decide) 321 rfl (fun h => absurd h (by decide)) (fun hc318 => ?_)
      refine g_aload w at_321 rfl rfl 323 rfl ?_
      refine g_iload w at_323 rfl 325 rfl ?_
      refine g_virt w (argsL := [(.int s0)]) (rest := []) (rm5 l Z a0 hw n0 b2 ar s0 (1 : Int32) ((0 : Int32) + 1) ((List.replicate 2 (.int (0 : Int32))).set j0 (.int ((0 : Int32) + 1))) j0 hj0 (List.getElem?_set_self (by simpa using hl0))) at_325 0 rfl 23 rfl 24 rfl 6 rfl 27 rfl 26 rfl 25 rfl ⟨by decide, by decide⟩ pd_3 rfl rfl rfl 0 rfl (by decide) (by decide) (by decide) (by decide) 328 rfl (fun T v L w h => ?_)
      obtain ⟨rfl, rfl⟩ := h
      refine g_int (x' := (0 : Int32)) (by decide) ?_
      refine g_if_ne w at_328 335 (by decide) (by decide) 331 rfl (fun h => absurd (by decide) h) (fun hc328 => ?_)
      refine g_iconst w at_331 (1 : Int32) rfl 332 rfl ?_
      refine g_goto w at_332 336 (by decide) (by decide) ?_
      refine g_istore w at_336 338 rfl rfl #[.val (.int u0), .val (.int u1), .val (.int u2), .val (.int u3), .val (.int (2 : Int32)), .val (.int (1 : Int32)), .val (.int (1 : Int32)), .val (.int st), .val (.int s0), .val (.int s1), .val (.int s2), .val (.int s3), .val (.int s4), .val (.int sF), .val (.ref b2), .val (.int (1 : Int32))] rfl ?_
      refine g_iload w at_338 rfl 340 rfl ?_
      refine g_iconst w at_340 (1 : Int32) rfl 341 rfl ?_
      refine g_icmp_le w at_341 367 (by decide) (by decide) 344 rfl (fun hc341 => ?_) (fun h => absurd h (by decide))
      refine g_iload w at_367 rfl 369 rfl ?_
      refine g_iconst w at_369 (2 : Int32) rfl 370 rfl ?_
      refine g_icmp_le w at_370 396 (by decide) (by decide) 373 rfl (fun hc370 => ?_) (fun h => absurd h (by decide))
      refine g_iload w at_396 rfl 398 rfl ?_
      refine g_iconst w at_398 (3 : Int32) rfl 399 rfl ?_
      refine g_icmp_le w at_399 425 (by decide) (by decide) 402 rfl (fun hc399 => ?_) (fun h => absurd h (by decide))
      refine g_iload w at_425 rfl 427 rfl ?_
      refine g_iconst w at_427 (4 : Int32) rfl 428 rfl ?_
      refine g_icmp_le w at_428 454 (by decide) (by decide) 431 rfl (fun hc428 => ?_) (fun h => absurd h (by decide))
      refine g_iload w at_454 rfl 456 rfl ?_
      refine g_iload w at_456 rfl 458 rfl ?_
      refine g_icmp_ge w at_458 484 (by decide) (by decide) 461 rfl (fun h => absurd (by decide) h) (fun hc458 => ?_)
      refine g_iload w at_461 rfl 463 rfl ?_
      refine g_if_eq w at_463 481 (by decide) (by decide) 466 rfl (fun h => absurd h (by decide)) (fun hc463 => ?_)
      refine g_aload w at_466 rfl rfl 468 rfl ?_
      refine g_iload w at_468 rfl 470 rfl ?_
      refine g_virt w (argsL := [(.int sF)]) (rest := []) (rm5 l Z a0 hw n0 b2 ar sF (1 : Int32) (0 : Int32) ((List.replicate 2 (.int (0 : Int32))).set j0 (.int ((0 : Int32) + 1))) jF hjF ((List.getElem?_set_ne hne0_F).trans (List.getElem?_replicate_of_lt hlF))) at_470 0 rfl 23 rfl 24 rfl 6 rfl 27 rfl 26 rfl 25 rfl ⟨by decide, by decide⟩ pd_3 rfl rfl rfl 0 rfl (by decide) (by decide) (by decide) (by decide) 473 rfl (fun T v L w h => ?_)
      obtain ⟨rfl, rfl⟩ := h
      refine g_int (x' := (-1 : Int32)) (by decide) ?_
      refine g_iconst w at_473 (-1 : Int32) rfl 474 rfl ?_
      refine g_icmp_ne w at_474 481 (by decide) (by decide) 477 rfl (fun h => absurd (by decide) h) (fun hc474 => ?_)
      refine g_iconst w at_477 (1 : Int32) rfl 478 rfl ?_
      refine g_goto w at_478 482 (by decide) (by decide) ?_
      refine g_istore w at_482 484 rfl rfl #[.val (.int u0), .val (.int u1), .val (.int u2), .val (.int u3), .val (.int (2 : Int32)), .val (.int (1 : Int32)), .val (.int (1 : Int32)), .val (.int st), .val (.int s0), .val (.int s1), .val (.int s2), .val (.int s3), .val (.int s4), .val (.int sF), .val (.ref b2), .val (.int (1 : Int32))] rfl ?_
      refine g_iload w at_484 rfl 486 rfl ?_
      exact g_iretn w (by simp) at_486 (by decide) (by decide) rfl
    · -- pc 28 c = 2
      refine g_int (x' := (2 : Int32)) hcc ?_
      refine g_istore w at_28 30 rfl rfl #[.val (.int u0), .val (.int u1), .val (.int u2), .val (.int u3), .val (.int (2 : Int32)), .val (.int (1 : Int32)), .val (.int (2 : Int32)), .unset, .unset, .unset, .unset, .unset, .unset, .unset, .unset, .unset] rfl ?_
      refine g_iloadN w at_30 rfl 31 rfl ?_
      refine g_iconst w at_31 (1 : Int32) rfl 32 rfl ?_
      refine g_ior w at_32 33 rfl ?_
      obtain ⟨st, hst⟩ : ∃ z, z = ((u3 ||| (1 : Int32)) : Int32) := ⟨_, rfl⟩
      refine g_istore w at_33 35 rfl hst.symm #[.val (.int u0), .val (.int u1), .val (.int u2), .val (.int u3), .val (.int (2 : Int32)), .val (.int (1 : Int32)), .val (.int (2 : Int32)), .val (.int st), .unset, .unset, .unset, .unset, .unset, .unset, .unset, .unset] rfl ?_
      refine g_iloadN w at_35 rfl 36 rfl ?_
      refine g_iload w at_36 rfl 38 rfl ?_
      refine g_iand w at_38 39 rfl ?_
      obtain ⟨s0, hs0⟩ : ∃ z, z = ((u2 &&& (1 : Int32)) : Int32) := ⟨_, rfl⟩
      refine g_istore w at_39 41 rfl hs0.symm #[.val (.int u0), .val (.int u1), .val (.int u2), .val (.int u3), .val (.int (2 : Int32)), .val (.int (1 : Int32)), .val (.int (2 : Int32)), .val (.int st), .val (.int s0), .unset, .unset, .unset, .unset, .unset, .unset, .unset] rfl ?_
      refine g_iloadN w at_41 rfl 42 rfl ?_
      refine g_iload w at_42 rfl 44 rfl ?_
      refine g_iadd w at_44 45 rfl ?_
      refine g_iload w at_45 rfl 47 rfl ?_
      refine g_iand w at_47 48 rfl ?_
      obtain ⟨s1, hs1⟩ : ∃ z, z = (((u2 + st) &&& (1 : Int32)) : Int32) := ⟨_, rfl⟩
      refine g_istore w at_48 50 rfl hs1.symm #[.val (.int u0), .val (.int u1), .val (.int u2), .val (.int u3), .val (.int (2 : Int32)), .val (.int (1 : Int32)), .val (.int (2 : Int32)), .val (.int st), .val (.int s0), .val (.int s1), .unset, .unset, .unset, .unset, .unset, .unset] rfl ?_
      refine g_iloadN w at_50 rfl 51 rfl ?_
      refine g_iconst w at_51 (2 : Int32) rfl 52 rfl ?_
      refine g_iload w at_52 rfl 54 rfl ?_
      refine g_imul w at_54 55 rfl ?_
      refine g_iadd w at_55 56 rfl ?_
      refine g_iload w at_56 rfl 58 rfl ?_
      refine g_iand w at_58 59 rfl ?_
      obtain ⟨s2, hs2⟩ : ∃ z, z = (((u2 + ((2 : Int32) * st)) &&& (1 : Int32)) : Int32) := ⟨_, rfl⟩
      refine g_istore w at_59 61 rfl hs2.symm #[.val (.int u0), .val (.int u1), .val (.int u2), .val (.int u3), .val (.int (2 : Int32)), .val (.int (1 : Int32)), .val (.int (2 : Int32)), .val (.int st), .val (.int s0), .val (.int s1), .val (.int s2), .unset, .unset, .unset, .unset, .unset] rfl ?_
      refine g_iloadN w at_61 rfl 62 rfl ?_
      refine g_iconst w at_62 (3 : Int32) rfl 63 rfl ?_
      refine g_iload w at_63 rfl 65 rfl ?_
      refine g_imul w at_65 66 rfl ?_
      refine g_iadd w at_66 67 rfl ?_
      refine g_iload w at_67 rfl 69 rfl ?_
      refine g_iand w at_69 70 rfl ?_
      obtain ⟨s3, hs3⟩ : ∃ z, z = (((u2 + ((3 : Int32) * st)) &&& (1 : Int32)) : Int32) := ⟨_, rfl⟩
      refine g_istore w at_70 72 rfl hs3.symm #[.val (.int u0), .val (.int u1), .val (.int u2), .val (.int u3), .val (.int (2 : Int32)), .val (.int (1 : Int32)), .val (.int (2 : Int32)), .val (.int st), .val (.int s0), .val (.int s1), .val (.int s2), .val (.int s3), .unset, .unset, .unset, .unset] rfl ?_
      refine g_iloadN w at_72 rfl 73 rfl ?_
      refine g_iconst w at_73 (4 : Int32) rfl 74 rfl ?_
      refine g_iload w at_74 rfl 76 rfl ?_
      refine g_imul w at_76 77 rfl ?_
      refine g_iadd w at_77 78 rfl ?_
      refine g_iload w at_78 rfl 80 rfl ?_
      refine g_iand w at_80 81 rfl ?_
      obtain ⟨s4, hs4⟩ : ∃ z, z = (((u2 + ((4 : Int32) * st)) &&& (1 : Int32)) : Int32) := ⟨_, rfl⟩
      refine g_istore w at_81 83 rfl hs4.symm #[.val (.int u0), .val (.int u1), .val (.int u2), .val (.int u3), .val (.int (2 : Int32)), .val (.int (1 : Int32)), .val (.int (2 : Int32)), .val (.int st), .val (.int s0), .val (.int s1), .val (.int s2), .val (.int s3), .val (.int s4), .unset, .unset, .unset] rfl ?_
      refine g_iloadN w at_83 rfl 84 rfl ?_
      refine g_iload w at_84 rfl 86 rfl ?_
      refine g_iload w at_86 rfl 88 rfl ?_
      refine g_imul w at_88 89 rfl ?_
      refine g_iadd w at_89 90 rfl ?_
      refine g_iload w at_90 rfl 92 rfl ?_
      refine g_iand w at_92 93 rfl ?_
      obtain ⟨sF, hsF⟩ : ∃ z, z = (((u2 + ((2 : Int32) * st)) &&& (1 : Int32)) : Int32) := ⟨_, rfl⟩
      refine g_istore w at_93 95 rfl hsF.symm #[.val (.int u0), .val (.int u1), .val (.int u2), .val (.int u3), .val (.int (2 : Int32)), .val (.int (1 : Int32)), .val (.int (2 : Int32)), .val (.int st), .val (.int s0), .val (.int s1), .val (.int s2), .val (.int s3), .val (.int s4), .val (.int sF), .unset, .unset] rfl ?_
      have hodd : st.toInt % 2 = 1 := by rw [hst]; exact own_odd u3
      have hM := c_mask u2 1 1 (by decide) (by decide)
      have E0 : s0.toInt = u2.toInt % 2 := by rw [hs0]; omega
      obtain ⟨j0, hj0⟩ : ∃ j : Nat, s0.toInt = (j : Int) := ⟨s0.toInt.toNat, by omega⟩
      have hl0 : j0 < 2 := by omega
      have E1 : s1.toInt = (u2.toInt + st.toInt) % 2 := by rw [hs1]; exact own_t2 u2 st
      obtain ⟨j1, hj1⟩ : ∃ j : Nat, s1.toInt = (j : Int) := ⟨s1.toInt.toNat, by omega⟩
      have hl1 : j1 < 2 := by omega
      have hne1_0 : j1 ≠ j0 := by omega
      clear hM
      refine g_new w [("tidestone/parquet/HashSlots", "slots", "[I", .null), ("tidestone/parquet/HashSlots", "taken", "I", (.int (0 : Int32)))] at_95 4 rfl 5 rfl 6 rfl (FOk.cons (Or.inl (w.hw (k := 15) rfl)) (ty := (.array .int)) (by decide) rfl (FOk.cons (Or.inl (w.hw (k := 22) rfl)) (ty := .int) (by decide) rfl trivial)) (by decide) (by decide) (by decide) 98 rfl (fun T b3 w => ?_)
      replace w := w.to (L' := [(b3, O_HashSlots .null (.int (0 : Int32)))]) rfl
      refine g_dup w at_98 rfl 99 rfl ?_
      refine g_iload w at_99 rfl 101 rfl ?_
      refine g_ctor w (argsL := [(.int (2 : Int32))]) (rest := [(.ref b3)]) (rm2 l Z a0 hw n0 b3 (2 : Int32) 2 (by decide) (by decide)) at_101 7 rfl 8 rfl 6 rfl 9 rfl rfl ⟨by decide, by decide⟩ pd_1 rfl rfl rfl 1 rfl (by decide) (by decide) (by decide) (by decide) 104 rfl (fun T v L w h => ?_)
      obtain ⟨rfl, ar, rfl⟩ := h
      refine g_astore w at_104 106 rfl rfl #[.val (.int u0), .val (.int u1), .val (.int u2), .val (.int u3), .val (.int (2 : Int32)), .val (.int (1 : Int32)), .val (.int (2 : Int32)), .val (.int st), .val (.int s0), .val (.int s1), .val (.int s2), .val (.int s3), .val (.int s4), .val (.int sF), .val (.ref b3), .unset] rfl ?_
      refine g_iconst w at_106 (1 : Int32) rfl 107 rfl ?_
      refine g_istore w at_107 109 rfl rfl #[.val (.int u0), .val (.int u1), .val (.int u2), .val (.int u3), .val (.int (2 : Int32)), .val (.int (1 : Int32)), .val (.int (2 : Int32)), .val (.int st), .val (.int s0), .val (.int s1), .val (.int s2), .val (.int s3), .val (.int s4), .val (.int sF), .val (.ref b3), .val (.int (1 : Int32))] rfl ?_
      refine g_iload w at_109 rfl 111 rfl ?_
      refine g_if_le w at_111 148 (by decide) (by decide) 114 rfl (fun h => absurd (by decide) h) (fun hc111 => ?_)
      refine g_iload w at_114 rfl 116 rfl ?_
      refine g_if_eq w at_116 145 (by decide) (by decide) 119 rfl (fun h => absurd h (by decide)) (fun hc116 => ?_)
      refine g_aload w at_119 rfl rfl 121 rfl ?_
      refine g_iload w at_121 rfl 123 rfl ?_
      refine g_iconst w at_123 (0 : Int32) rfl 124 rfl ?_
      refine g_virt w (argsL := [(.int s0), (.int (0 : Int32))]) (rest := []) (rm4 l Z a0 hw n0 b3 ar s0 (0 : Int32) (0 : Int32) (2 : Int32) (List.replicate 2 (.int (0 : Int32))) j0 hj0 (by simpa using hl0) (by simp only [List.length_set, List.length_replicate]; rfl)) at_124 0 rfl 16 rfl 17 rfl 6 rfl 20 rfl 19 rfl 18 rfl ⟨by decide, by decide⟩ pd_2 rfl rfl rfl 0 rfl (by decide) (by decide) (by decide) (by decide) 127 rfl (fun T v L w h => ?_)
      obtain ⟨rfl, rfl⟩ := h
      refine g_int (x' := (0 : Int32)) (by decide) ?_
      replace w := w.to (L' := [(b3, O_HashSlots (.ref ar) (.int (1 : Int32))), (ar, .inr (.int, (List.replicate 2 (.int (0 : Int32))).set j0 (.int ((0 : Int32) + 1))))]) rfl
      refine g_iconst w at_127 (2 : Int32) rfl 128 rfl ?_
      refine g_iload w at_128 rfl 130 rfl ?_
      refine g_icmp_le w at_130 137 (by decide) (by decide) 133 rfl (fun hc130 => ?_) (fun h => absurd h (by decide))
      refine g_iconst w at_137 (0 : Int32) rfl 138 rfl ?_
      refine g_icmp_ne w at_138 145 (by decide) (by decide) 141 rfl (fun h => absurd (by decide) h) (fun hc138 => ?_)
      refine g_iconst w at_141 (1 : Int32) rfl 142 rfl ?_
      refine g_goto w at_142 146 (by decide) (by decide) ?_
      refine g_istore w at_146 148 rfl rfl #[.val (.int u0), .val (.int u1), .val (.int u2), .val (.int u3), .val (.int (2 : Int32)), .val (.int (1 : Int32)), .val (.int (2 : Int32)), .val (.int st), .val (.int s0), .val (.int s1), .val (.int s2), .val (.int s3), .val (.int s4), .val (.int sF), .val (.ref b3), .val (.int (1 : Int32))] rfl ?_
      refine g_iload w at_148 rfl 150 rfl ?_
      refine g_iconst w at_150 (1 : Int32) rfl 151 rfl ?_
      refine g_icmp_le w at_151 188 (by decide) (by decide) 154 rfl (fun h => absurd (by decide) h) (fun hc151 => ?_)
      refine g_iload w at_154 rfl 156 rfl ?_
      refine g_if_eq w at_156 185 (by decide) (by decide) 159 rfl (fun h => absurd h (by decide)) (fun hc156 => ?_)
      refine g_aload w at_159 rfl rfl 161 rfl ?_
      refine g_iload w at_161 rfl 163 rfl ?_
      refine g_iconst w at_163 (1 : Int32) rfl 164 rfl ?_
      refine g_virt w (argsL := [(.int s1), (.int (1 : Int32))]) (rest := []) (rm4 l Z a0 hw n0 b3 ar s1 (1 : Int32) (1 : Int32) (2 : Int32) ((List.replicate 2 (.int (0 : Int32))).set j0 (.int ((0 : Int32) + 1))) j1 hj1 (by simpa using hl1) (by simp only [List.length_set, List.length_replicate]; rfl)) at_164 0 rfl 16 rfl 17 rfl 6 rfl 20 rfl 19 rfl 18 rfl ⟨by decide, by decide⟩ pd_2 rfl rfl rfl 0 rfl (by decide) (by decide) (by decide) (by decide) 167 rfl (fun T v L w h => ?_)
      obtain ⟨rfl, rfl⟩ := h
      refine g_int (x' := (1 : Int32)) (by decide) ?_
      replace w := w.to (L' := [(b3, O_HashSlots (.ref ar) (.int (2 : Int32))), (ar, .inr (.int, ((List.replicate 2 (.int (0 : Int32))).set j0 (.int ((0 : Int32) + 1))).set j1 (.int ((1 : Int32) + 1))))]) rfl
      refine g_iconst w at_167 (4 : Int32) rfl 168 rfl ?_
      refine g_iload w at_168 rfl 170 rfl ?_
      refine g_icmp_le w at_170 177 (by decide) (by decide) 173 rfl (fun h => absurd (by decide) h) (fun hc170 => ?_)
      refine g_iconst w at_173 (1 : Int32) rfl 174 rfl ?_
      refine g_goto w at_174 178 (by decide) (by decide) ?_
      refine g_icmp_ne w at_178 185 (by decide) (by decide) 181 rfl (fun h => absurd (by decide) h) (fun hc178 => ?_)
      refine g_iconst w at_181 (1 : Int32) rfl 182 rfl ?_
      refine g_goto w at_182 186 (by decide) (by decide) ?_
      refine g_istore w at_186 188 rfl rfl #[.val (.int u0), .val (.int u1), .val (.int u2), .val (.int u3), .val (.int (2 : Int32)), .val (.int (1 : Int32)), .val (.int (2 : Int32)), .val (.int st), .val (.int s0), .val (.int s1), .val (.int s2), .val (.int s3), .val (.int s4), .val (.int sF), .val (.ref b3), .val (.int (1 : Int32))] rfl ?_
      refine g_iload w at_188 rfl 190 rfl ?_
      refine g_iconst w at_190 (2 : Int32) rfl 191 rfl ?_
      refine g_icmp_le w at_191 229 (by decide) (by decide) 194 rfl (fun hc191 => ?_) (fun h => absurd h (by decide))
      refine g_iload w at_229 rfl 231 rfl ?_
      refine g_iconst w at_231 (3 : Int32) rfl 232 rfl ?_
      refine g_icmp_le w at_232 270 (by decide) (by decide) 235 rfl (fun hc232 => ?_) (fun h => absurd h (by decide))
      refine g_iload w at_270 rfl 272 rfl ?_
      refine g_iconst w at_272 (4 : Int32) rfl 273 rfl ?_
      refine g_icmp_le w at_273 311 (by decide) (by decide) 276 rfl (fun hc273 => ?_) (fun h => absurd h (by decide))
      refine g_iload w at_311 rfl 313 rfl ?_
      refine g_if_le w at_313 338 (by decide) (by decide) 316 rfl (fun h => absurd (by decide) h) (fun hc313 => ?_)
      refine g_iload w at_316 rfl 318 rfl ?_
      refine g_if_eq w at_318 335 (by decide) (by decide) 321 rfl (fun h => absurd h (by decide)) (fun hc318 => ?_)
      refine g_aload w at_321 rfl rfl 323 rfl ?_
      refine g_iload w at_323 rfl 325 rfl ?_
      refine g_virt w (argsL := [(.int s0)]) (rest := []) (rm5 l Z a0 hw n0 b3 ar s0 (2 : Int32) ((0 : Int32) + 1) (((List.replicate 2 (.int (0 : Int32))).set j0 (.int ((0 : Int32) + 1))).set j1 (.int ((1 : Int32) + 1))) j0 hj0 ((List.getElem?_set_ne hne1_0).trans (List.getElem?_set_self (by simpa using hl0)))) at_325 0 rfl 23 rfl 24 rfl 6 rfl 27 rfl 26 rfl 25 rfl ⟨by decide, by decide⟩ pd_3 rfl rfl rfl 0 rfl (by decide) (by decide) (by decide) (by decide) 328 rfl (fun T v L w h => ?_)
      obtain ⟨rfl, rfl⟩ := h
      refine g_int (x' := (0 : Int32)) (by decide) ?_
      refine g_if_ne w at_328 335 (by decide) (by decide) 331 rfl (fun h => absurd (by decide) h) (fun hc328 => ?_)
      refine g_iconst w at_331 (1 : Int32) rfl 332 rfl ?_
      refine g_goto w at_332 336 (by decide) (by decide) ?_
      refine g_istore w at_336 338 rfl rfl #[.val (.int u0), .val (.int u1), .val (.int u2), .val (.int u3), .val (.int (2 : Int32)), .val (.int (1 : Int32)), .val (.int (2 : Int32)), .val (.int st), .val (.int s0), .val (.int s1), .val (.int s2), .val (.int s3), .val (.int s4), .val (.int sF), .val (.ref b3), .val (.int (1 : Int32))] rfl ?_
      refine g_iload w at_338 rfl 340 rfl ?_
      refine g_iconst w at_340 (1 : Int32) rfl 341 rfl ?_
      refine g_icmp_le w at_341 367 (by decide) (by decide) 344 rfl (fun h => absurd (by decide) h) (fun hc341 => ?_)
      refine g_iload w at_344 rfl 346 rfl ?_
      refine g_if_eq w at_346 364 (by decide) (by decide) 349 rfl (fun h => absurd h (by decide)) (fun hc346 => ?_)
      refine g_aload w at_349 rfl rfl 351 rfl ?_
      refine g_iload w at_351 rfl 353 rfl ?_
      refine g_virt w (argsL := [(.int s1)]) (rest := []) (rm5 l Z a0 hw n0 b3 ar s1 (2 : Int32) ((1 : Int32) + 1) (((List.replicate 2 (.int (0 : Int32))).set j0 (.int ((0 : Int32) + 1))).set j1 (.int ((1 : Int32) + 1))) j1 hj1 (List.getElem?_set_self (by simpa using hl1))) at_353 0 rfl 23 rfl 24 rfl 6 rfl 27 rfl 26 rfl 25 rfl ⟨by decide, by decide⟩ pd_3 rfl rfl rfl 0 rfl (by decide) (by decide) (by decide) (by decide) 356 rfl (fun T v L w h => ?_)
      obtain ⟨rfl, rfl⟩ := h
      refine g_int (x' := (1 : Int32)) (by decide) ?_
      refine g_iconst w at_356 (1 : Int32) rfl 357 rfl ?_
      refine g_icmp_ne w at_357 364 (by decide) (by decide) 360 rfl (fun h => absurd (by decide) h) (fun hc357 => ?_)
      refine g_iconst w at_360 (1 : Int32) rfl 361 rfl ?_
      refine g_goto w at_361 365 (by decide) (by decide) ?_
      refine g_istore w at_365 367 rfl rfl #[.val (.int u0), .val (.int u1), .val (.int u2), .val (.int u3), .val (.int (2 : Int32)), .val (.int (1 : Int32)), .val (.int (2 : Int32)), .val (.int st), .val (.int s0), .val (.int s1), .val (.int s2), .val (.int s3), .val (.int s4), .val (.int sF), .val (.ref b3), .val (.int (1 : Int32))] rfl ?_
      refine g_iload w at_367 rfl 369 rfl ?_
      refine g_iconst w at_369 (2 : Int32) rfl 370 rfl ?_
      refine g_icmp_le w at_370 396 (by decide) (by decide) 373 rfl (fun hc370 => ?_) (fun h => absurd h (by decide))
      refine g_iload w at_396 rfl 398 rfl ?_
      refine g_iconst w at_398 (3 : Int32) rfl 399 rfl ?_
      refine g_icmp_le w at_399 425 (by decide) (by decide) 402 rfl (fun hc399 => ?_) (fun h => absurd h (by decide))
      refine g_iload w at_425 rfl 427 rfl ?_
      refine g_iconst w at_427 (4 : Int32) rfl 428 rfl ?_
      refine g_icmp_le w at_428 454 (by decide) (by decide) 431 rfl (fun hc428 => ?_) (fun h => absurd h (by decide))
      refine g_iload w at_454 rfl 456 rfl ?_
      refine g_iload w at_456 rfl 458 rfl ?_
      refine g_icmp_ge w at_458 484 (by decide) (by decide) 461 rfl (fun hc458 => ?_) (fun h => absurd h (by decide))
      refine g_iload w at_484 rfl 486 rfl ?_
      exact g_iretn w (by simp) at_486 (by decide) (by decide) rfl
  · -- pc 5 n = 4
    refine g_int (x' := (4 : Int32)) hn ?_
    refine g_istore w at_5 7 rfl rfl #[.val (.int u0), .val (.int u1), .val (.int u2), .val (.int u3), .val (.int (4 : Int32)), .unset, .unset, .unset, .unset, .unset, .unset, .unset, .unset, .unset, .unset, .unset] rfl ?_
    refine g_iload w at_7 rfl 9 rfl ?_
    refine g_iconst w at_9 (1 : Int32) rfl 10 rfl ?_
    refine g_isub w at_10 11 rfl ?_
    refine g_int (x' := (3 : Int32)) (by decide) ?_
    refine g_istore w at_11 13 rfl rfl #[.val (.int u0), .val (.int u1), .val (.int u2), .val (.int u3), .val (.int (4 : Int32)), .val (.int (3 : Int32)), .unset, .unset, .unset, .unset, .unset, .unset, .unset, .unset, .unset, .unset] rfl ?_
    refine g_iconst w at_13 (1 : Int32) rfl 14 rfl ?_
    refine g_iloadN w at_14 rfl 15 rfl ?_
    refine g_bipush w at_15 (7 : Int32) rfl 17 rfl ?_
    refine g_iand w at_17 18 rfl ?_
    refine g_iadd w at_18 19 rfl ?_
    refine g_iload w at_19 rfl 21 rfl ?_
    refine g_static w (argsL := [(.int ((1 : Int32) + (u1 &&& (7 : Int32)))), (.int (4 : Int32))]) (rest := []) (rm1 l Z a0 hw n0 ((1 : Int32) + (u1 &&& (7 : Int32))) (4 : Int32) ([])) at_21 0 rfl 1 rfl 2 rfl 3 rfl ⟨by decide, by decide⟩ pd_0 rfl rfl rfl 0 rfl (by decide) (by decide) (by decide) (by decide) 24 rfl (fun T v L w h => ?_)
    obtain ⟨rfl, rfl⟩ := h
    refine g_iconst w at_24 (5 : Int32) rfl 25 rfl ?_
    refine g_static w (argsL := [(.int (own_min ((1 : Int32) + (u1 &&& (7 : Int32))) (4 : Int32))), (.int (5 : Int32))]) (rest := []) (rm1 l Z a0 hw n0 (own_min ((1 : Int32) + (u1 &&& (7 : Int32))) (4 : Int32)) (5 : Int32) ([])) at_25 0 rfl 1 rfl 2 rfl 3 rfl ⟨by decide, by decide⟩ pd_0 rfl rfl rfl 0 rfl (by decide) (by decide) (by decide) (by decide) 28 rfl (fun T v L w h => ?_)
    obtain ⟨rfl, rfl⟩ := h
    rcases own_c4 u1 with hcc | hcc | hcc | hcc
    · -- pc 28 c = 1
      refine g_int (x' := (1 : Int32)) hcc ?_
      refine g_istore w at_28 30 rfl rfl #[.val (.int u0), .val (.int u1), .val (.int u2), .val (.int u3), .val (.int (4 : Int32)), .val (.int (3 : Int32)), .val (.int (1 : Int32)), .unset, .unset, .unset, .unset, .unset, .unset, .unset, .unset, .unset] rfl ?_
      refine g_iloadN w at_30 rfl 31 rfl ?_
      refine g_iconst w at_31 (1 : Int32) rfl 32 rfl ?_
      refine g_ior w at_32 33 rfl ?_
      obtain ⟨st, hst⟩ : ∃ z, z = ((u3 ||| (1 : Int32)) : Int32) := ⟨_, rfl⟩
      refine g_istore w at_33 35 rfl hst.symm #[.val (.int u0), .val (.int u1), .val (.int u2), .val (.int u3), .val (.int (4 : Int32)), .val (.int (3 : Int32)), .val (.int (1 : Int32)), .val (.int st), .unset, .unset, .unset, .unset, .unset, .unset, .unset, .unset] rfl ?_
      refine g_iloadN w at_35 rfl 36 rfl ?_
      refine g_iload w at_36 rfl 38 rfl ?_
      refine g_iand w at_38 39 rfl ?_
      obtain ⟨s0, hs0⟩ : ∃ z, z = ((u2 &&& (3 : Int32)) : Int32) := ⟨_, rfl⟩
      refine g_istore w at_39 41 rfl hs0.symm #[.val (.int u0), .val (.int u1), .val (.int u2), .val (.int u3), .val (.int (4 : Int32)), .val (.int (3 : Int32)), .val (.int (1 : Int32)), .val (.int st), .val (.int s0), .unset, .unset, .unset, .unset, .unset, .unset, .unset] rfl ?_
      refine g_iloadN w at_41 rfl 42 rfl ?_
      refine g_iload w at_42 rfl 44 rfl ?_
      refine g_iadd w at_44 45 rfl ?_
      refine g_iload w at_45 rfl 47 rfl ?_
      refine g_iand w at_47 48 rfl ?_
      obtain ⟨s1, hs1⟩ : ∃ z, z = (((u2 + st) &&& (3 : Int32)) : Int32) := ⟨_, rfl⟩
      refine g_istore w at_48 50 rfl hs1.symm #[.val (.int u0), .val (.int u1), .val (.int u2), .val (.int u3), .val (.int (4 : Int32)), .val (.int (3 : Int32)), .val (.int (1 : Int32)), .val (.int st), .val (.int s0), .val (.int s1), .unset, .unset, .unset, .unset, .unset, .unset] rfl ?_
      refine g_iloadN w at_50 rfl 51 rfl ?_
      refine g_iconst w at_51 (2 : Int32) rfl 52 rfl ?_
      refine g_iload w at_52 rfl 54 rfl ?_
      refine g_imul w at_54 55 rfl ?_
      refine g_iadd w at_55 56 rfl ?_
      refine g_iload w at_56 rfl 58 rfl ?_
      refine g_iand w at_58 59 rfl ?_
      obtain ⟨s2, hs2⟩ : ∃ z, z = (((u2 + ((2 : Int32) * st)) &&& (3 : Int32)) : Int32) := ⟨_, rfl⟩
      refine g_istore w at_59 61 rfl hs2.symm #[.val (.int u0), .val (.int u1), .val (.int u2), .val (.int u3), .val (.int (4 : Int32)), .val (.int (3 : Int32)), .val (.int (1 : Int32)), .val (.int st), .val (.int s0), .val (.int s1), .val (.int s2), .unset, .unset, .unset, .unset, .unset] rfl ?_
      refine g_iloadN w at_61 rfl 62 rfl ?_
      refine g_iconst w at_62 (3 : Int32) rfl 63 rfl ?_
      refine g_iload w at_63 rfl 65 rfl ?_
      refine g_imul w at_65 66 rfl ?_
      refine g_iadd w at_66 67 rfl ?_
      refine g_iload w at_67 rfl 69 rfl ?_
      refine g_iand w at_69 70 rfl ?_
      obtain ⟨s3, hs3⟩ : ∃ z, z = (((u2 + ((3 : Int32) * st)) &&& (3 : Int32)) : Int32) := ⟨_, rfl⟩
      refine g_istore w at_70 72 rfl hs3.symm #[.val (.int u0), .val (.int u1), .val (.int u2), .val (.int u3), .val (.int (4 : Int32)), .val (.int (3 : Int32)), .val (.int (1 : Int32)), .val (.int st), .val (.int s0), .val (.int s1), .val (.int s2), .val (.int s3), .unset, .unset, .unset, .unset] rfl ?_
      refine g_iloadN w at_72 rfl 73 rfl ?_
      refine g_iconst w at_73 (4 : Int32) rfl 74 rfl ?_
      refine g_iload w at_74 rfl 76 rfl ?_
      refine g_imul w at_76 77 rfl ?_
      refine g_iadd w at_77 78 rfl ?_
      refine g_iload w at_78 rfl 80 rfl ?_
      refine g_iand w at_80 81 rfl ?_
      obtain ⟨s4, hs4⟩ : ∃ z, z = (((u2 + ((4 : Int32) * st)) &&& (3 : Int32)) : Int32) := ⟨_, rfl⟩
      refine g_istore w at_81 83 rfl hs4.symm #[.val (.int u0), .val (.int u1), .val (.int u2), .val (.int u3), .val (.int (4 : Int32)), .val (.int (3 : Int32)), .val (.int (1 : Int32)), .val (.int st), .val (.int s0), .val (.int s1), .val (.int s2), .val (.int s3), .val (.int s4), .unset, .unset, .unset] rfl ?_
      refine g_iloadN w at_83 rfl 84 rfl ?_
      refine g_iload w at_84 rfl 86 rfl ?_
      refine g_iload w at_86 rfl 88 rfl ?_
      refine g_imul w at_88 89 rfl ?_
      refine g_iadd w at_89 90 rfl ?_
      refine g_iload w at_90 rfl 92 rfl ?_
      refine g_iand w at_92 93 rfl ?_
      obtain ⟨sF, hsF⟩ : ∃ z, z = (((u2 + ((1 : Int32) * st)) &&& (3 : Int32)) : Int32) := ⟨_, rfl⟩
      refine g_istore w at_93 95 rfl hsF.symm #[.val (.int u0), .val (.int u1), .val (.int u2), .val (.int u3), .val (.int (4 : Int32)), .val (.int (3 : Int32)), .val (.int (1 : Int32)), .val (.int st), .val (.int s0), .val (.int s1), .val (.int s2), .val (.int s3), .val (.int s4), .val (.int sF), .unset, .unset] rfl ?_
      have hodd : st.toInt % 2 = 1 := by rw [hst]; exact own_odd u3
      have hM := c_mask u2 3 2 (by decide) (by decide)
      have E0 : s0.toInt = u2.toInt % 4 := by rw [hs0]; omega
      obtain ⟨j0, hj0⟩ : ∃ j : Nat, s0.toInt = (j : Int) := ⟨s0.toInt.toNat, by omega⟩
      have hl0 : j0 < 4 := by omega
      have EF : sF.toInt = (u2.toInt + 1 * st.toInt) % 4 := by rw [hsF]; exact own_s4 u2 st 1
      obtain ⟨jF, hjF⟩ : ∃ j : Nat, sF.toInt = (j : Int) := ⟨sF.toInt.toNat, by omega⟩
      have hlF : jF < 4 := by omega
      have hne0_F : j0 ≠ jF := by omega
      clear hM
      refine g_new w [("tidestone/parquet/HashSlots", "slots", "[I", .null), ("tidestone/parquet/HashSlots", "taken", "I", (.int (0 : Int32)))] at_95 4 rfl 5 rfl 6 rfl (FOk.cons (Or.inl (w.hw (k := 15) rfl)) (ty := (.array .int)) (by decide) rfl (FOk.cons (Or.inl (w.hw (k := 22) rfl)) (ty := .int) (by decide) rfl trivial)) (by decide) (by decide) (by decide) 98 rfl (fun T b4 w => ?_)
      replace w := w.to (L' := [(b4, O_HashSlots .null (.int (0 : Int32)))]) rfl
      refine g_dup w at_98 rfl 99 rfl ?_
      refine g_iload w at_99 rfl 101 rfl ?_
      refine g_ctor w (argsL := [(.int (4 : Int32))]) (rest := [(.ref b4)]) (rm2 l Z a0 hw n0 b4 (4 : Int32) 4 (by decide) (by decide)) at_101 7 rfl 8 rfl 6 rfl 9 rfl rfl ⟨by decide, by decide⟩ pd_1 rfl rfl rfl 1 rfl (by decide) (by decide) (by decide) (by decide) 104 rfl (fun T v L w h => ?_)
      obtain ⟨rfl, ar, rfl⟩ := h
      refine g_astore w at_104 106 rfl rfl #[.val (.int u0), .val (.int u1), .val (.int u2), .val (.int u3), .val (.int (4 : Int32)), .val (.int (3 : Int32)), .val (.int (1 : Int32)), .val (.int st), .val (.int s0), .val (.int s1), .val (.int s2), .val (.int s3), .val (.int s4), .val (.int sF), .val (.ref b4), .unset] rfl ?_
      refine g_iconst w at_106 (1 : Int32) rfl 107 rfl ?_
      refine g_istore w at_107 109 rfl rfl #[.val (.int u0), .val (.int u1), .val (.int u2), .val (.int u3), .val (.int (4 : Int32)), .val (.int (3 : Int32)), .val (.int (1 : Int32)), .val (.int st), .val (.int s0), .val (.int s1), .val (.int s2), .val (.int s3), .val (.int s4), .val (.int sF), .val (.ref b4), .val (.int (1 : Int32))] rfl ?_
      refine g_iload w at_109 rfl 111 rfl ?_
      refine g_if_le w at_111 148 (by decide) (by decide) 114 rfl (fun h => absurd (by decide) h) (fun hc111 => ?_)
      refine g_iload w at_114 rfl 116 rfl ?_
      refine g_if_eq w at_116 145 (by decide) (by decide) 119 rfl (fun h => absurd h (by decide)) (fun hc116 => ?_)
      refine g_aload w at_119 rfl rfl 121 rfl ?_
      refine g_iload w at_121 rfl 123 rfl ?_
      refine g_iconst w at_123 (0 : Int32) rfl 124 rfl ?_
      refine g_virt w (argsL := [(.int s0), (.int (0 : Int32))]) (rest := []) (rm4 l Z a0 hw n0 b4 ar s0 (0 : Int32) (0 : Int32) (4 : Int32) (List.replicate 4 (.int (0 : Int32))) j0 hj0 (by simpa using hl0) (by simp only [List.length_set, List.length_replicate]; rfl)) at_124 0 rfl 16 rfl 17 rfl 6 rfl 20 rfl 19 rfl 18 rfl ⟨by decide, by decide⟩ pd_2 rfl rfl rfl 0 rfl (by decide) (by decide) (by decide) (by decide) 127 rfl (fun T v L w h => ?_)
      obtain ⟨rfl, rfl⟩ := h
      refine g_int (x' := (0 : Int32)) (by decide) ?_
      replace w := w.to (L' := [(b4, O_HashSlots (.ref ar) (.int (1 : Int32))), (ar, .inr (.int, (List.replicate 4 (.int (0 : Int32))).set j0 (.int ((0 : Int32) + 1))))]) rfl
      refine g_iconst w at_127 (2 : Int32) rfl 128 rfl ?_
      refine g_iload w at_128 rfl 130 rfl ?_
      refine g_icmp_le w at_130 137 (by decide) (by decide) 133 rfl (fun hc130 => ?_) (fun h => absurd h (by decide))
      refine g_iconst w at_137 (0 : Int32) rfl 138 rfl ?_
      refine g_icmp_ne w at_138 145 (by decide) (by decide) 141 rfl (fun h => absurd (by decide) h) (fun hc138 => ?_)
      refine g_iconst w at_141 (1 : Int32) rfl 142 rfl ?_
      refine g_goto w at_142 146 (by decide) (by decide) ?_
      refine g_istore w at_146 148 rfl rfl #[.val (.int u0), .val (.int u1), .val (.int u2), .val (.int u3), .val (.int (4 : Int32)), .val (.int (3 : Int32)), .val (.int (1 : Int32)), .val (.int st), .val (.int s0), .val (.int s1), .val (.int s2), .val (.int s3), .val (.int s4), .val (.int sF), .val (.ref b4), .val (.int (1 : Int32))] rfl ?_
      refine g_iload w at_148 rfl 150 rfl ?_
      refine g_iconst w at_150 (1 : Int32) rfl 151 rfl ?_
      refine g_icmp_le w at_151 188 (by decide) (by decide) 154 rfl (fun hc151 => ?_) (fun h => absurd h (by decide))
      refine g_iload w at_188 rfl 190 rfl ?_
      refine g_iconst w at_190 (2 : Int32) rfl 191 rfl ?_
      refine g_icmp_le w at_191 229 (by decide) (by decide) 194 rfl (fun hc191 => ?_) (fun h => absurd h (by decide))
      refine g_iload w at_229 rfl 231 rfl ?_
      refine g_iconst w at_231 (3 : Int32) rfl 232 rfl ?_
      refine g_icmp_le w at_232 270 (by decide) (by decide) 235 rfl (fun hc232 => ?_) (fun h => absurd h (by decide))
      refine g_iload w at_270 rfl 272 rfl ?_
      refine g_iconst w at_272 (4 : Int32) rfl 273 rfl ?_
      refine g_icmp_le w at_273 311 (by decide) (by decide) 276 rfl (fun hc273 => ?_) (fun h => absurd h (by decide))
      refine g_iload w at_311 rfl 313 rfl ?_
      refine g_if_le w at_313 338 (by decide) (by decide) 316 rfl (fun h => absurd (by decide) h) (fun hc313 => ?_)
      refine g_iload w at_316 rfl 318 rfl ?_
      refine g_if_eq w at_318 335 (by decide) (by decide) 321 rfl (fun h => absurd h (by decide)) (fun hc318 => ?_)
      refine g_aload w at_321 rfl rfl 323 rfl ?_
      refine g_iload w at_323 rfl 325 rfl ?_
      refine g_virt w (argsL := [(.int s0)]) (rest := []) (rm5 l Z a0 hw n0 b4 ar s0 (1 : Int32) ((0 : Int32) + 1) ((List.replicate 4 (.int (0 : Int32))).set j0 (.int ((0 : Int32) + 1))) j0 hj0 (List.getElem?_set_self (by simpa using hl0))) at_325 0 rfl 23 rfl 24 rfl 6 rfl 27 rfl 26 rfl 25 rfl ⟨by decide, by decide⟩ pd_3 rfl rfl rfl 0 rfl (by decide) (by decide) (by decide) (by decide) 328 rfl (fun T v L w h => ?_)
      obtain ⟨rfl, rfl⟩ := h
      refine g_int (x' := (0 : Int32)) (by decide) ?_
      refine g_if_ne w at_328 335 (by decide) (by decide) 331 rfl (fun h => absurd (by decide) h) (fun hc328 => ?_)
      refine g_iconst w at_331 (1 : Int32) rfl 332 rfl ?_
      refine g_goto w at_332 336 (by decide) (by decide) ?_
      refine g_istore w at_336 338 rfl rfl #[.val (.int u0), .val (.int u1), .val (.int u2), .val (.int u3), .val (.int (4 : Int32)), .val (.int (3 : Int32)), .val (.int (1 : Int32)), .val (.int st), .val (.int s0), .val (.int s1), .val (.int s2), .val (.int s3), .val (.int s4), .val (.int sF), .val (.ref b4), .val (.int (1 : Int32))] rfl ?_
      refine g_iload w at_338 rfl 340 rfl ?_
      refine g_iconst w at_340 (1 : Int32) rfl 341 rfl ?_
      refine g_icmp_le w at_341 367 (by decide) (by decide) 344 rfl (fun hc341 => ?_) (fun h => absurd h (by decide))
      refine g_iload w at_367 rfl 369 rfl ?_
      refine g_iconst w at_369 (2 : Int32) rfl 370 rfl ?_
      refine g_icmp_le w at_370 396 (by decide) (by decide) 373 rfl (fun hc370 => ?_) (fun h => absurd h (by decide))
      refine g_iload w at_396 rfl 398 rfl ?_
      refine g_iconst w at_398 (3 : Int32) rfl 399 rfl ?_
      refine g_icmp_le w at_399 425 (by decide) (by decide) 402 rfl (fun hc399 => ?_) (fun h => absurd h (by decide))
      refine g_iload w at_425 rfl 427 rfl ?_
      refine g_iconst w at_427 (4 : Int32) rfl 428 rfl ?_
      refine g_icmp_le w at_428 454 (by decide) (by decide) 431 rfl (fun hc428 => ?_) (fun h => absurd h (by decide))
      refine g_iload w at_454 rfl 456 rfl ?_
      refine g_iload w at_456 rfl 458 rfl ?_
      refine g_icmp_ge w at_458 484 (by decide) (by decide) 461 rfl (fun h => absurd (by decide) h) (fun hc458 => ?_)
      refine g_iload w at_461 rfl 463 rfl ?_
      refine g_if_eq w at_463 481 (by decide) (by decide) 466 rfl (fun h => absurd h (by decide)) (fun hc463 => ?_)
      refine g_aload w at_466 rfl rfl 468 rfl ?_
      refine g_iload w at_468 rfl 470 rfl ?_
      refine g_virt w (argsL := [(.int sF)]) (rest := []) (rm5 l Z a0 hw n0 b4 ar sF (1 : Int32) (0 : Int32) ((List.replicate 4 (.int (0 : Int32))).set j0 (.int ((0 : Int32) + 1))) jF hjF ((List.getElem?_set_ne hne0_F).trans (List.getElem?_replicate_of_lt hlF))) at_470 0 rfl 23 rfl 24 rfl 6 rfl 27 rfl 26 rfl 25 rfl ⟨by decide, by decide⟩ pd_3 rfl rfl rfl 0 rfl (by decide) (by decide) (by decide) (by decide) 473 rfl (fun T v L w h => ?_)
      obtain ⟨rfl, rfl⟩ := h
      refine g_int (x' := (-1 : Int32)) (by decide) ?_
      refine g_iconst w at_473 (-1 : Int32) rfl 474 rfl ?_
      refine g_icmp_ne w at_474 481 (by decide) (by decide) 477 rfl (fun h => absurd (by decide) h) (fun hc474 => ?_)
      refine g_iconst w at_477 (1 : Int32) rfl 478 rfl ?_
      refine g_goto w at_478 482 (by decide) (by decide) ?_
      refine g_istore w at_482 484 rfl rfl #[.val (.int u0), .val (.int u1), .val (.int u2), .val (.int u3), .val (.int (4 : Int32)), .val (.int (3 : Int32)), .val (.int (1 : Int32)), .val (.int st), .val (.int s0), .val (.int s1), .val (.int s2), .val (.int s3), .val (.int s4), .val (.int sF), .val (.ref b4), .val (.int (1 : Int32))] rfl ?_
      refine g_iload w at_484 rfl 486 rfl ?_
      exact g_iretn w (by simp) at_486 (by decide) (by decide) rfl
    · -- pc 28 c = 2
      refine g_int (x' := (2 : Int32)) hcc ?_
      refine g_istore w at_28 30 rfl rfl #[.val (.int u0), .val (.int u1), .val (.int u2), .val (.int u3), .val (.int (4 : Int32)), .val (.int (3 : Int32)), .val (.int (2 : Int32)), .unset, .unset, .unset, .unset, .unset, .unset, .unset, .unset, .unset] rfl ?_
      refine g_iloadN w at_30 rfl 31 rfl ?_
      refine g_iconst w at_31 (1 : Int32) rfl 32 rfl ?_
      refine g_ior w at_32 33 rfl ?_
      obtain ⟨st, hst⟩ : ∃ z, z = ((u3 ||| (1 : Int32)) : Int32) := ⟨_, rfl⟩
      refine g_istore w at_33 35 rfl hst.symm #[.val (.int u0), .val (.int u1), .val (.int u2), .val (.int u3), .val (.int (4 : Int32)), .val (.int (3 : Int32)), .val (.int (2 : Int32)), .val (.int st), .unset, .unset, .unset, .unset, .unset, .unset, .unset, .unset] rfl ?_
      refine g_iloadN w at_35 rfl 36 rfl ?_
      refine g_iload w at_36 rfl 38 rfl ?_
      refine g_iand w at_38 39 rfl ?_
      obtain ⟨s0, hs0⟩ : ∃ z, z = ((u2 &&& (3 : Int32)) : Int32) := ⟨_, rfl⟩
      refine g_istore w at_39 41 rfl hs0.symm #[.val (.int u0), .val (.int u1), .val (.int u2), .val (.int u3), .val (.int (4 : Int32)), .val (.int (3 : Int32)), .val (.int (2 : Int32)), .val (.int st), .val (.int s0), .unset, .unset, .unset, .unset, .unset, .unset, .unset] rfl ?_
      refine g_iloadN w at_41 rfl 42 rfl ?_
      refine g_iload w at_42 rfl 44 rfl ?_
      refine g_iadd w at_44 45 rfl ?_
      refine g_iload w at_45 rfl 47 rfl ?_
      refine g_iand w at_47 48 rfl ?_
      obtain ⟨s1, hs1⟩ : ∃ z, z = (((u2 + st) &&& (3 : Int32)) : Int32) := ⟨_, rfl⟩
      refine g_istore w at_48 50 rfl hs1.symm #[.val (.int u0), .val (.int u1), .val (.int u2), .val (.int u3), .val (.int (4 : Int32)), .val (.int (3 : Int32)), .val (.int (2 : Int32)), .val (.int st), .val (.int s0), .val (.int s1), .unset, .unset, .unset, .unset, .unset, .unset] rfl ?_
      refine g_iloadN w at_50 rfl 51 rfl ?_
      refine g_iconst w at_51 (2 : Int32) rfl 52 rfl ?_
      refine g_iload w at_52 rfl 54 rfl ?_
      refine g_imul w at_54 55 rfl ?_
      refine g_iadd w at_55 56 rfl ?_
      refine g_iload w at_56 rfl 58 rfl ?_
      refine g_iand w at_58 59 rfl ?_
      obtain ⟨s2, hs2⟩ : ∃ z, z = (((u2 + ((2 : Int32) * st)) &&& (3 : Int32)) : Int32) := ⟨_, rfl⟩
      refine g_istore w at_59 61 rfl hs2.symm #[.val (.int u0), .val (.int u1), .val (.int u2), .val (.int u3), .val (.int (4 : Int32)), .val (.int (3 : Int32)), .val (.int (2 : Int32)), .val (.int st), .val (.int s0), .val (.int s1), .val (.int s2), .unset, .unset, .unset, .unset, .unset] rfl ?_
      refine g_iloadN w at_61 rfl 62 rfl ?_
      refine g_iconst w at_62 (3 : Int32) rfl 63 rfl ?_
      refine g_iload w at_63 rfl 65 rfl ?_
      refine g_imul w at_65 66 rfl ?_
      refine g_iadd w at_66 67 rfl ?_
      refine g_iload w at_67 rfl 69 rfl ?_
      refine g_iand w at_69 70 rfl ?_
      obtain ⟨s3, hs3⟩ : ∃ z, z = (((u2 + ((3 : Int32) * st)) &&& (3 : Int32)) : Int32) := ⟨_, rfl⟩
      refine g_istore w at_70 72 rfl hs3.symm #[.val (.int u0), .val (.int u1), .val (.int u2), .val (.int u3), .val (.int (4 : Int32)), .val (.int (3 : Int32)), .val (.int (2 : Int32)), .val (.int st), .val (.int s0), .val (.int s1), .val (.int s2), .val (.int s3), .unset, .unset, .unset, .unset] rfl ?_
      refine g_iloadN w at_72 rfl 73 rfl ?_
      refine g_iconst w at_73 (4 : Int32) rfl 74 rfl ?_
      refine g_iload w at_74 rfl 76 rfl ?_
      refine g_imul w at_76 77 rfl ?_
      refine g_iadd w at_77 78 rfl ?_
      refine g_iload w at_78 rfl 80 rfl ?_
      refine g_iand w at_80 81 rfl ?_
      obtain ⟨s4, hs4⟩ : ∃ z, z = (((u2 + ((4 : Int32) * st)) &&& (3 : Int32)) : Int32) := ⟨_, rfl⟩
      refine g_istore w at_81 83 rfl hs4.symm #[.val (.int u0), .val (.int u1), .val (.int u2), .val (.int u3), .val (.int (4 : Int32)), .val (.int (3 : Int32)), .val (.int (2 : Int32)), .val (.int st), .val (.int s0), .val (.int s1), .val (.int s2), .val (.int s3), .val (.int s4), .unset, .unset, .unset] rfl ?_
      refine g_iloadN w at_83 rfl 84 rfl ?_
      refine g_iload w at_84 rfl 86 rfl ?_
      refine g_iload w at_86 rfl 88 rfl ?_
      refine g_imul w at_88 89 rfl ?_
      refine g_iadd w at_89 90 rfl ?_
      refine g_iload w at_90 rfl 92 rfl ?_
      refine g_iand w at_92 93 rfl ?_
      obtain ⟨sF, hsF⟩ : ∃ z, z = (((u2 + ((2 : Int32) * st)) &&& (3 : Int32)) : Int32) := ⟨_, rfl⟩
      refine g_istore w at_93 95 rfl hsF.symm #[.val (.int u0), .val (.int u1), .val (.int u2), .val (.int u3), .val (.int (4 : Int32)), .val (.int (3 : Int32)), .val (.int (2 : Int32)), .val (.int st), .val (.int s0), .val (.int s1), .val (.int s2), .val (.int s3), .val (.int s4), .val (.int sF), .unset, .unset] rfl ?_
      have hodd : st.toInt % 2 = 1 := by rw [hst]; exact own_odd u3
      have hM := c_mask u2 3 2 (by decide) (by decide)
      have E0 : s0.toInt = u2.toInt % 4 := by rw [hs0]; omega
      obtain ⟨j0, hj0⟩ : ∃ j : Nat, s0.toInt = (j : Int) := ⟨s0.toInt.toNat, by omega⟩
      have hl0 : j0 < 4 := by omega
      have E1 : s1.toInt = (u2.toInt + st.toInt) % 4 := by rw [hs1]; exact own_t4 u2 st
      obtain ⟨j1, hj1⟩ : ∃ j : Nat, s1.toInt = (j : Int) := ⟨s1.toInt.toNat, by omega⟩
      have hl1 : j1 < 4 := by omega
      have EF : sF.toInt = (u2.toInt + 2 * st.toInt) % 4 := by rw [hsF]; exact own_s4 u2 st 2
      obtain ⟨jF, hjF⟩ : ∃ j : Nat, sF.toInt = (j : Int) := ⟨sF.toInt.toNat, by omega⟩
      have hlF : jF < 4 := by omega
      have hne0_F : j0 ≠ jF := by omega
      have hne1_0 : j1 ≠ j0 := by omega
      have hne1_F : j1 ≠ jF := by omega
      clear hM
      refine g_new w [("tidestone/parquet/HashSlots", "slots", "[I", .null), ("tidestone/parquet/HashSlots", "taken", "I", (.int (0 : Int32)))] at_95 4 rfl 5 rfl 6 rfl (FOk.cons (Or.inl (w.hw (k := 15) rfl)) (ty := (.array .int)) (by decide) rfl (FOk.cons (Or.inl (w.hw (k := 22) rfl)) (ty := .int) (by decide) rfl trivial)) (by decide) (by decide) (by decide) 98 rfl (fun T b5 w => ?_)
      replace w := w.to (L' := [(b5, O_HashSlots .null (.int (0 : Int32)))]) rfl
      refine g_dup w at_98 rfl 99 rfl ?_
      refine g_iload w at_99 rfl 101 rfl ?_
      refine g_ctor w (argsL := [(.int (4 : Int32))]) (rest := [(.ref b5)]) (rm2 l Z a0 hw n0 b5 (4 : Int32) 4 (by decide) (by decide)) at_101 7 rfl 8 rfl 6 rfl 9 rfl rfl ⟨by decide, by decide⟩ pd_1 rfl rfl rfl 1 rfl (by decide) (by decide) (by decide) (by decide) 104 rfl (fun T v L w h => ?_)
      obtain ⟨rfl, ar, rfl⟩ := h
      refine g_astore w at_104 106 rfl rfl #[.val (.int u0), .val (.int u1), .val (.int u2), .val (.int u3), .val (.int (4 : Int32)), .val (.int (3 : Int32)), .val (.int (2 : Int32)), .val (.int st), .val (.int s0), .val (.int s1), .val (.int s2), .val (.int s3), .val (.int s4), .val (.int sF), .val (.ref b5), .unset] rfl ?_
      refine g_iconst w at_106 (1 : Int32) rfl 107 rfl ?_
      refine g_istore w at_107 109 rfl rfl #[.val (.int u0), .val (.int u1), .val (.int u2), .val (.int u3), .val (.int (4 : Int32)), .val (.int (3 : Int32)), .val (.int (2 : Int32)), .val (.int st), .val (.int s0), .val (.int s1), .val (.int s2), .val (.int s3), .val (.int s4), .val (.int sF), .val (.ref b5), .val (.int (1 : Int32))] rfl ?_
      refine g_iload w at_109 rfl 111 rfl ?_
      refine g_if_le w at_111 148 (by decide) (by decide) 114 rfl (fun h => absurd (by decide) h) (fun hc111 => ?_)
      refine g_iload w at_114 rfl 116 rfl ?_
      refine g_if_eq w at_116 145 (by decide) (by decide) 119 rfl (fun h => absurd h (by decide)) (fun hc116 => ?_)
      refine g_aload w at_119 rfl rfl 121 rfl ?_
      refine g_iload w at_121 rfl 123 rfl ?_
      refine g_iconst w at_123 (0 : Int32) rfl 124 rfl ?_
      refine g_virt w (argsL := [(.int s0), (.int (0 : Int32))]) (rest := []) (rm4 l Z a0 hw n0 b5 ar s0 (0 : Int32) (0 : Int32) (4 : Int32) (List.replicate 4 (.int (0 : Int32))) j0 hj0 (by simpa using hl0) (by simp only [List.length_set, List.length_replicate]; rfl)) at_124 0 rfl 16 rfl 17 rfl 6 rfl 20 rfl 19 rfl 18 rfl ⟨by decide, by decide⟩ pd_2 rfl rfl rfl 0 rfl (by decide) (by decide) (by decide) (by decide) 127 rfl (fun T v L w h => ?_)
      obtain ⟨rfl, rfl⟩ := h
      refine g_int (x' := (0 : Int32)) (by decide) ?_
      replace w := w.to (L' := [(b5, O_HashSlots (.ref ar) (.int (1 : Int32))), (ar, .inr (.int, (List.replicate 4 (.int (0 : Int32))).set j0 (.int ((0 : Int32) + 1))))]) rfl
      refine g_iconst w at_127 (2 : Int32) rfl 128 rfl ?_
      refine g_iload w at_128 rfl 130 rfl ?_
      refine g_icmp_le w at_130 137 (by decide) (by decide) 133 rfl (fun hc130 => ?_) (fun h => absurd h (by decide))
      refine g_iconst w at_137 (0 : Int32) rfl 138 rfl ?_
      refine g_icmp_ne w at_138 145 (by decide) (by decide) 141 rfl (fun h => absurd (by decide) h) (fun hc138 => ?_)
      refine g_iconst w at_141 (1 : Int32) rfl 142 rfl ?_
      refine g_goto w at_142 146 (by decide) (by decide) ?_
      refine g_istore w at_146 148 rfl rfl #[.val (.int u0), .val (.int u1), .val (.int u2), .val (.int u3), .val (.int (4 : Int32)), .val (.int (3 : Int32)), .val (.int (2 : Int32)), .val (.int st), .val (.int s0), .val (.int s1), .val (.int s2), .val (.int s3), .val (.int s4), .val (.int sF), .val (.ref b5), .val (.int (1 : Int32))] rfl ?_
      refine g_iload w at_148 rfl 150 rfl ?_
      refine g_iconst w at_150 (1 : Int32) rfl 151 rfl ?_
      refine g_icmp_le w at_151 188 (by decide) (by decide) 154 rfl (fun h => absurd (by decide) h) (fun hc151 => ?_)
      refine g_iload w at_154 rfl 156 rfl ?_
      refine g_if_eq w at_156 185 (by decide) (by decide) 159 rfl (fun h => absurd h (by decide)) (fun hc156 => ?_)
      refine g_aload w at_159 rfl rfl 161 rfl ?_
      refine g_iload w at_161 rfl 163 rfl ?_
      refine g_iconst w at_163 (1 : Int32) rfl 164 rfl ?_
      refine g_virt w (argsL := [(.int s1), (.int (1 : Int32))]) (rest := []) (rm4 l Z a0 hw n0 b5 ar s1 (1 : Int32) (1 : Int32) (4 : Int32) ((List.replicate 4 (.int (0 : Int32))).set j0 (.int ((0 : Int32) + 1))) j1 hj1 (by simpa using hl1) (by simp only [List.length_set, List.length_replicate]; rfl)) at_164 0 rfl 16 rfl 17 rfl 6 rfl 20 rfl 19 rfl 18 rfl ⟨by decide, by decide⟩ pd_2 rfl rfl rfl 0 rfl (by decide) (by decide) (by decide) (by decide) 167 rfl (fun T v L w h => ?_)
      obtain ⟨rfl, rfl⟩ := h
      refine g_int (x' := (0 : Int32)) (by decide) ?_
      replace w := w.to (L' := [(b5, O_HashSlots (.ref ar) (.int (2 : Int32))), (ar, .inr (.int, ((List.replicate 4 (.int (0 : Int32))).set j0 (.int ((0 : Int32) + 1))).set j1 (.int ((1 : Int32) + 1))))]) rfl
      refine g_iconst w at_167 (4 : Int32) rfl 168 rfl ?_
      refine g_iload w at_168 rfl 170 rfl ?_
      refine g_icmp_le w at_170 177 (by decide) (by decide) 173 rfl (fun hc170 => ?_) (fun h => absurd h (by decide))
      refine g_iconst w at_177 (0 : Int32) rfl 178 rfl ?_
      refine g_icmp_ne w at_178 185 (by decide) (by decide) 181 rfl (fun h => absurd (by decide) h) (fun hc178 => ?_)
      refine g_iconst w at_181 (1 : Int32) rfl 182 rfl ?_
      refine g_goto w at_182 186 (by decide) (by decide) ?_
      refine g_istore w at_186 188 rfl rfl #[.val (.int u0), .val (.int u1), .val (.int u2), .val (.int u3), .val (.int (4 : Int32)), .val (.int (3 : Int32)), .val (.int (2 : Int32)), .val (.int st), .val (.int s0), .val (.int s1), .val (.int s2), .val (.int s3), .val (.int s4), .val (.int sF), .val (.ref b5), .val (.int (1 : Int32))] rfl ?_
      refine g_iload w at_188 rfl 190 rfl ?_
      refine g_iconst w at_190 (2 : Int32) rfl 191 rfl ?_
      refine g_icmp_le w at_191 229 (by decide) (by decide) 194 rfl (fun hc191 => ?_) (fun h => absurd h (by decide))
      refine g_iload w at_229 rfl 231 rfl ?_
      refine g_iconst w at_231 (3 : Int32) rfl 232 rfl ?_
      refine g_icmp_le w at_232 270 (by decide) (by decide) 235 rfl (fun hc232 => ?_) (fun h => absurd h (by decide))
      refine g_iload w at_270 rfl 272 rfl ?_
      refine g_iconst w at_272 (4 : Int32) rfl 273 rfl ?_
      refine g_icmp_le w at_273 311 (by decide) (by decide) 276 rfl (fun hc273 => ?_) (fun h => absurd h (by decide))
      refine g_iload w at_311 rfl 313 rfl ?_
      refine g_if_le w at_313 338 (by decide) (by decide) 316 rfl (fun h => absurd (by decide) h) (fun hc313 => ?_)
      refine g_iload w at_316 rfl 318 rfl ?_
      refine g_if_eq w at_318 335 (by decide) (by decide) 321 rfl (fun h => absurd h (by decide)) (fun hc318 => ?_)
      refine g_aload w at_321 rfl rfl 323 rfl ?_
      refine g_iload w at_323 rfl 325 rfl ?_
      refine g_virt w (argsL := [(.int s0)]) (rest := []) (rm5 l Z a0 hw n0 b5 ar s0 (2 : Int32) ((0 : Int32) + 1) (((List.replicate 4 (.int (0 : Int32))).set j0 (.int ((0 : Int32) + 1))).set j1 (.int ((1 : Int32) + 1))) j0 hj0 ((List.getElem?_set_ne hne1_0).trans (List.getElem?_set_self (by simpa using hl0)))) at_325 0 rfl 23 rfl 24 rfl 6 rfl 27 rfl 26 rfl 25 rfl ⟨by decide, by decide⟩ pd_3 rfl rfl rfl 0 rfl (by decide) (by decide) (by decide) (by decide) 328 rfl (fun T v L w h => ?_)
      obtain ⟨rfl, rfl⟩ := h
      refine g_int (x' := (0 : Int32)) (by decide) ?_
      refine g_if_ne w at_328 335 (by decide) (by decide) 331 rfl (fun h => absurd (by decide) h) (fun hc328 => ?_)
      refine g_iconst w at_331 (1 : Int32) rfl 332 rfl ?_
      refine g_goto w at_332 336 (by decide) (by decide) ?_
      refine g_istore w at_336 338 rfl rfl #[.val (.int u0), .val (.int u1), .val (.int u2), .val (.int u3), .val (.int (4 : Int32)), .val (.int (3 : Int32)), .val (.int (2 : Int32)), .val (.int st), .val (.int s0), .val (.int s1), .val (.int s2), .val (.int s3), .val (.int s4), .val (.int sF), .val (.ref b5), .val (.int (1 : Int32))] rfl ?_
      refine g_iload w at_338 rfl 340 rfl ?_
      refine g_iconst w at_340 (1 : Int32) rfl 341 rfl ?_
      refine g_icmp_le w at_341 367 (by decide) (by decide) 344 rfl (fun h => absurd (by decide) h) (fun hc341 => ?_)
      refine g_iload w at_344 rfl 346 rfl ?_
      refine g_if_eq w at_346 364 (by decide) (by decide) 349 rfl (fun h => absurd h (by decide)) (fun hc346 => ?_)
      refine g_aload w at_349 rfl rfl 351 rfl ?_
      refine g_iload w at_351 rfl 353 rfl ?_
      refine g_virt w (argsL := [(.int s1)]) (rest := []) (rm5 l Z a0 hw n0 b5 ar s1 (2 : Int32) ((1 : Int32) + 1) (((List.replicate 4 (.int (0 : Int32))).set j0 (.int ((0 : Int32) + 1))).set j1 (.int ((1 : Int32) + 1))) j1 hj1 (List.getElem?_set_self (by simpa using hl1))) at_353 0 rfl 23 rfl 24 rfl 6 rfl 27 rfl 26 rfl 25 rfl ⟨by decide, by decide⟩ pd_3 rfl rfl rfl 0 rfl (by decide) (by decide) (by decide) (by decide) 356 rfl (fun T v L w h => ?_)
      obtain ⟨rfl, rfl⟩ := h
      refine g_int (x' := (1 : Int32)) (by decide) ?_
      refine g_iconst w at_356 (1 : Int32) rfl 357 rfl ?_
      refine g_icmp_ne w at_357 364 (by decide) (by decide) 360 rfl (fun h => absurd (by decide) h) (fun hc357 => ?_)
      refine g_iconst w at_360 (1 : Int32) rfl 361 rfl ?_
      refine g_goto w at_361 365 (by decide) (by decide) ?_
      refine g_istore w at_365 367 rfl rfl #[.val (.int u0), .val (.int u1), .val (.int u2), .val (.int u3), .val (.int (4 : Int32)), .val (.int (3 : Int32)), .val (.int (2 : Int32)), .val (.int st), .val (.int s0), .val (.int s1), .val (.int s2), .val (.int s3), .val (.int s4), .val (.int sF), .val (.ref b5), .val (.int (1 : Int32))] rfl ?_
      refine g_iload w at_367 rfl 369 rfl ?_
      refine g_iconst w at_369 (2 : Int32) rfl 370 rfl ?_
      refine g_icmp_le w at_370 396 (by decide) (by decide) 373 rfl (fun hc370 => ?_) (fun h => absurd h (by decide))
      refine g_iload w at_396 rfl 398 rfl ?_
      refine g_iconst w at_398 (3 : Int32) rfl 399 rfl ?_
      refine g_icmp_le w at_399 425 (by decide) (by decide) 402 rfl (fun hc399 => ?_) (fun h => absurd h (by decide))
      refine g_iload w at_425 rfl 427 rfl ?_
      refine g_iconst w at_427 (4 : Int32) rfl 428 rfl ?_
      refine g_icmp_le w at_428 454 (by decide) (by decide) 431 rfl (fun hc428 => ?_) (fun h => absurd h (by decide))
      refine g_iload w at_454 rfl 456 rfl ?_
      refine g_iload w at_456 rfl 458 rfl ?_
      refine g_icmp_ge w at_458 484 (by decide) (by decide) 461 rfl (fun h => absurd (by decide) h) (fun hc458 => ?_)
      refine g_iload w at_461 rfl 463 rfl ?_
      refine g_if_eq w at_463 481 (by decide) (by decide) 466 rfl (fun h => absurd h (by decide)) (fun hc463 => ?_)
      refine g_aload w at_466 rfl rfl 468 rfl ?_
      refine g_iload w at_468 rfl 470 rfl ?_
      refine g_virt w (argsL := [(.int sF)]) (rest := []) (rm5 l Z a0 hw n0 b5 ar sF (2 : Int32) (0 : Int32) (((List.replicate 4 (.int (0 : Int32))).set j0 (.int ((0 : Int32) + 1))).set j1 (.int ((1 : Int32) + 1))) jF hjF ((List.getElem?_set_ne hne1_F).trans ((List.getElem?_set_ne hne0_F).trans (List.getElem?_replicate_of_lt hlF)))) at_470 0 rfl 23 rfl 24 rfl 6 rfl 27 rfl 26 rfl 25 rfl ⟨by decide, by decide⟩ pd_3 rfl rfl rfl 0 rfl (by decide) (by decide) (by decide) (by decide) 473 rfl (fun T v L w h => ?_)
      obtain ⟨rfl, rfl⟩ := h
      refine g_int (x' := (-1 : Int32)) (by decide) ?_
      refine g_iconst w at_473 (-1 : Int32) rfl 474 rfl ?_
      refine g_icmp_ne w at_474 481 (by decide) (by decide) 477 rfl (fun h => absurd (by decide) h) (fun hc474 => ?_)
      refine g_iconst w at_477 (1 : Int32) rfl 478 rfl ?_
      refine g_goto w at_478 482 (by decide) (by decide) ?_
      refine g_istore w at_482 484 rfl rfl #[.val (.int u0), .val (.int u1), .val (.int u2), .val (.int u3), .val (.int (4 : Int32)), .val (.int (3 : Int32)), .val (.int (2 : Int32)), .val (.int st), .val (.int s0), .val (.int s1), .val (.int s2), .val (.int s3), .val (.int s4), .val (.int sF), .val (.ref b5), .val (.int (1 : Int32))] rfl ?_
      refine g_iload w at_484 rfl 486 rfl ?_
      exact g_iretn w (by simp) at_486 (by decide) (by decide) rfl
    · -- pc 28 c = 3
      refine g_int (x' := (3 : Int32)) hcc ?_
      refine g_istore w at_28 30 rfl rfl #[.val (.int u0), .val (.int u1), .val (.int u2), .val (.int u3), .val (.int (4 : Int32)), .val (.int (3 : Int32)), .val (.int (3 : Int32)), .unset, .unset, .unset, .unset, .unset, .unset, .unset, .unset, .unset] rfl ?_
      refine g_iloadN w at_30 rfl 31 rfl ?_
      refine g_iconst w at_31 (1 : Int32) rfl 32 rfl ?_
      refine g_ior w at_32 33 rfl ?_
      obtain ⟨st, hst⟩ : ∃ z, z = ((u3 ||| (1 : Int32)) : Int32) := ⟨_, rfl⟩
      refine g_istore w at_33 35 rfl hst.symm #[.val (.int u0), .val (.int u1), .val (.int u2), .val (.int u3), .val (.int (4 : Int32)), .val (.int (3 : Int32)), .val (.int (3 : Int32)), .val (.int st), .unset, .unset, .unset, .unset, .unset, .unset, .unset, .unset] rfl ?_
      refine g_iloadN w at_35 rfl 36 rfl ?_
      refine g_iload w at_36 rfl 38 rfl ?_
      refine g_iand w at_38 39 rfl ?_
      obtain ⟨s0, hs0⟩ : ∃ z, z = ((u2 &&& (3 : Int32)) : Int32) := ⟨_, rfl⟩
      refine g_istore w at_39 41 rfl hs0.symm #[.val (.int u0), .val (.int u1), .val (.int u2), .val (.int u3), .val (.int (4 : Int32)), .val (.int (3 : Int32)), .val (.int (3 : Int32)), .val (.int st), .val (.int s0), .unset, .unset, .unset, .unset, .unset, .unset, .unset] rfl ?_
      refine g_iloadN w at_41 rfl 42 rfl ?_
      refine g_iload w at_42 rfl 44 rfl ?_
      refine g_iadd w at_44 45 rfl ?_
      refine g_iload w at_45 rfl 47 rfl ?_
      refine g_iand w at_47 48 rfl ?_
      obtain ⟨s1, hs1⟩ : ∃ z, z = (((u2 + st) &&& (3 : Int32)) : Int32) := ⟨_, rfl⟩
      refine g_istore w at_48 50 rfl hs1.symm #[.val (.int u0), .val (.int u1), .val (.int u2), .val (.int u3), .val (.int (4 : Int32)), .val (.int (3 : Int32)), .val (.int (3 : Int32)), .val (.int st), .val (.int s0), .val (.int s1), .unset, .unset, .unset, .unset, .unset, .unset] rfl ?_
      refine g_iloadN w at_50 rfl 51 rfl ?_
      refine g_iconst w at_51 (2 : Int32) rfl 52 rfl ?_
      refine g_iload w at_52 rfl 54 rfl ?_
      refine g_imul w at_54 55 rfl ?_
      refine g_iadd w at_55 56 rfl ?_
      refine g_iload w at_56 rfl 58 rfl ?_
      refine g_iand w at_58 59 rfl ?_
      obtain ⟨s2, hs2⟩ : ∃ z, z = (((u2 + ((2 : Int32) * st)) &&& (3 : Int32)) : Int32) := ⟨_, rfl⟩
      refine g_istore w at_59 61 rfl hs2.symm #[.val (.int u0), .val (.int u1), .val (.int u2), .val (.int u3), .val (.int (4 : Int32)), .val (.int (3 : Int32)), .val (.int (3 : Int32)), .val (.int st), .val (.int s0), .val (.int s1), .val (.int s2), .unset, .unset, .unset, .unset, .unset] rfl ?_
      refine g_iloadN w at_61 rfl 62 rfl ?_
      refine g_iconst w at_62 (3 : Int32) rfl 63 rfl ?_
      refine g_iload w at_63 rfl 65 rfl ?_
      refine g_imul w at_65 66 rfl ?_
      refine g_iadd w at_66 67 rfl ?_
      refine g_iload w at_67 rfl 69 rfl ?_
      refine g_iand w at_69 70 rfl ?_
      obtain ⟨s3, hs3⟩ : ∃ z, z = (((u2 + ((3 : Int32) * st)) &&& (3 : Int32)) : Int32) := ⟨_, rfl⟩
      refine g_istore w at_70 72 rfl hs3.symm #[.val (.int u0), .val (.int u1), .val (.int u2), .val (.int u3), .val (.int (4 : Int32)), .val (.int (3 : Int32)), .val (.int (3 : Int32)), .val (.int st), .val (.int s0), .val (.int s1), .val (.int s2), .val (.int s3), .unset, .unset, .unset, .unset] rfl ?_
      refine g_iloadN w at_72 rfl 73 rfl ?_
      refine g_iconst w at_73 (4 : Int32) rfl 74 rfl ?_
      refine g_iload w at_74 rfl 76 rfl ?_
      refine g_imul w at_76 77 rfl ?_
      refine g_iadd w at_77 78 rfl ?_
      refine g_iload w at_78 rfl 80 rfl ?_
      refine g_iand w at_80 81 rfl ?_
      obtain ⟨s4, hs4⟩ : ∃ z, z = (((u2 + ((4 : Int32) * st)) &&& (3 : Int32)) : Int32) := ⟨_, rfl⟩
      refine g_istore w at_81 83 rfl hs4.symm #[.val (.int u0), .val (.int u1), .val (.int u2), .val (.int u3), .val (.int (4 : Int32)), .val (.int (3 : Int32)), .val (.int (3 : Int32)), .val (.int st), .val (.int s0), .val (.int s1), .val (.int s2), .val (.int s3), .val (.int s4), .unset, .unset, .unset] rfl ?_
      refine g_iloadN w at_83 rfl 84 rfl ?_
      refine g_iload w at_84 rfl 86 rfl ?_
      refine g_iload w at_86 rfl 88 rfl ?_
      refine g_imul w at_88 89 rfl ?_
      refine g_iadd w at_89 90 rfl ?_
      refine g_iload w at_90 rfl 92 rfl ?_
      refine g_iand w at_92 93 rfl ?_
      obtain ⟨sF, hsF⟩ : ∃ z, z = (((u2 + ((3 : Int32) * st)) &&& (3 : Int32)) : Int32) := ⟨_, rfl⟩
      refine g_istore w at_93 95 rfl hsF.symm #[.val (.int u0), .val (.int u1), .val (.int u2), .val (.int u3), .val (.int (4 : Int32)), .val (.int (3 : Int32)), .val (.int (3 : Int32)), .val (.int st), .val (.int s0), .val (.int s1), .val (.int s2), .val (.int s3), .val (.int s4), .val (.int sF), .unset, .unset] rfl ?_
      have hodd : st.toInt % 2 = 1 := by rw [hst]; exact own_odd u3
      have hM := c_mask u2 3 2 (by decide) (by decide)
      have E0 : s0.toInt = u2.toInt % 4 := by rw [hs0]; omega
      obtain ⟨j0, hj0⟩ : ∃ j : Nat, s0.toInt = (j : Int) := ⟨s0.toInt.toNat, by omega⟩
      have hl0 : j0 < 4 := by omega
      have E1 : s1.toInt = (u2.toInt + st.toInt) % 4 := by rw [hs1]; exact own_t4 u2 st
      obtain ⟨j1, hj1⟩ : ∃ j : Nat, s1.toInt = (j : Int) := ⟨s1.toInt.toNat, by omega⟩
      have hl1 : j1 < 4 := by omega
      have E2 : s2.toInt = (u2.toInt + 2 * st.toInt) % 4 := by rw [hs2]; exact own_s4 u2 st 2
      obtain ⟨j2, hj2⟩ : ∃ j : Nat, s2.toInt = (j : Int) := ⟨s2.toInt.toNat, by omega⟩
      have hl2 : j2 < 4 := by omega
      have EF : sF.toInt = (u2.toInt + 3 * st.toInt) % 4 := by rw [hsF]; exact own_s4 u2 st 3
      obtain ⟨jF, hjF⟩ : ∃ j : Nat, sF.toInt = (j : Int) := ⟨sF.toInt.toNat, by omega⟩
      have hlF : jF < 4 := by omega
      have hne0_F : j0 ≠ jF := by omega
      have hne1_0 : j1 ≠ j0 := by omega
      have hne1_F : j1 ≠ jF := by omega
      have hne2_0 : j2 ≠ j0 := by omega
      have hne2_1 : j2 ≠ j1 := by omega
      have hne2_F : j2 ≠ jF := by omega
      clear hM
      refine g_new w [("tidestone/parquet/HashSlots", "slots", "[I", .null), ("tidestone/parquet/HashSlots", "taken", "I", (.int (0 : Int32)))] at_95 4 rfl 5 rfl 6 rfl (FOk.cons (Or.inl (w.hw (k := 15) rfl)) (ty := (.array .int)) (by decide) rfl (FOk.cons (Or.inl (w.hw (k := 22) rfl)) (ty := .int) (by decide) rfl trivial)) (by decide) (by decide) (by decide) 98 rfl (fun T b6 w => ?_)
      replace w := w.to (L' := [(b6, O_HashSlots .null (.int (0 : Int32)))]) rfl
      refine g_dup w at_98 rfl 99 rfl ?_
      refine g_iload w at_99 rfl 101 rfl ?_
      refine g_ctor w (argsL := [(.int (4 : Int32))]) (rest := [(.ref b6)]) (rm2 l Z a0 hw n0 b6 (4 : Int32) 4 (by decide) (by decide)) at_101 7 rfl 8 rfl 6 rfl 9 rfl rfl ⟨by decide, by decide⟩ pd_1 rfl rfl rfl 1 rfl (by decide) (by decide) (by decide) (by decide) 104 rfl (fun T v L w h => ?_)
      obtain ⟨rfl, ar, rfl⟩ := h
      refine g_astore w at_104 106 rfl rfl #[.val (.int u0), .val (.int u1), .val (.int u2), .val (.int u3), .val (.int (4 : Int32)), .val (.int (3 : Int32)), .val (.int (3 : Int32)), .val (.int st), .val (.int s0), .val (.int s1), .val (.int s2), .val (.int s3), .val (.int s4), .val (.int sF), .val (.ref b6), .unset] rfl ?_
      refine g_iconst w at_106 (1 : Int32) rfl 107 rfl ?_
      refine g_istore w at_107 109 rfl rfl #[.val (.int u0), .val (.int u1), .val (.int u2), .val (.int u3), .val (.int (4 : Int32)), .val (.int (3 : Int32)), .val (.int (3 : Int32)), .val (.int st), .val (.int s0), .val (.int s1), .val (.int s2), .val (.int s3), .val (.int s4), .val (.int sF), .val (.ref b6), .val (.int (1 : Int32))] rfl ?_
      refine g_iload w at_109 rfl 111 rfl ?_
      refine g_if_le w at_111 148 (by decide) (by decide) 114 rfl (fun h => absurd (by decide) h) (fun hc111 => ?_)
      refine g_iload w at_114 rfl 116 rfl ?_
      refine g_if_eq w at_116 145 (by decide) (by decide) 119 rfl (fun h => absurd h (by decide)) (fun hc116 => ?_)
      refine g_aload w at_119 rfl rfl 121 rfl ?_
      refine g_iload w at_121 rfl 123 rfl ?_
      refine g_iconst w at_123 (0 : Int32) rfl 124 rfl ?_
      refine g_virt w (argsL := [(.int s0), (.int (0 : Int32))]) (rest := []) (rm4 l Z a0 hw n0 b6 ar s0 (0 : Int32) (0 : Int32) (4 : Int32) (List.replicate 4 (.int (0 : Int32))) j0 hj0 (by simpa using hl0) (by simp only [List.length_set, List.length_replicate]; rfl)) at_124 0 rfl 16 rfl 17 rfl 6 rfl 20 rfl 19 rfl 18 rfl ⟨by decide, by decide⟩ pd_2 rfl rfl rfl 0 rfl (by decide) (by decide) (by decide) (by decide) 127 rfl (fun T v L w h => ?_)
      obtain ⟨rfl, rfl⟩ := h
      refine g_int (x' := (0 : Int32)) (by decide) ?_
      replace w := w.to (L' := [(b6, O_HashSlots (.ref ar) (.int (1 : Int32))), (ar, .inr (.int, (List.replicate 4 (.int (0 : Int32))).set j0 (.int ((0 : Int32) + 1))))]) rfl
      refine g_iconst w at_127 (2 : Int32) rfl 128 rfl ?_
      refine g_iload w at_128 rfl 130 rfl ?_
      refine g_icmp_le w at_130 137 (by decide) (by decide) 133 rfl (fun hc130 => ?_) (fun h => absurd h (by decide))
      refine g_iconst w at_137 (0 : Int32) rfl 138 rfl ?_
      refine g_icmp_ne w at_138 145 (by decide) (by decide) 141 rfl (fun h => absurd (by decide) h) (fun hc138 => ?_)
      refine g_iconst w at_141 (1 : Int32) rfl 142 rfl ?_
      refine g_goto w at_142 146 (by decide) (by decide) ?_
      refine g_istore w at_146 148 rfl rfl #[.val (.int u0), .val (.int u1), .val (.int u2), .val (.int u3), .val (.int (4 : Int32)), .val (.int (3 : Int32)), .val (.int (3 : Int32)), .val (.int st), .val (.int s0), .val (.int s1), .val (.int s2), .val (.int s3), .val (.int s4), .val (.int sF), .val (.ref b6), .val (.int (1 : Int32))] rfl ?_
      refine g_iload w at_148 rfl 150 rfl ?_
      refine g_iconst w at_150 (1 : Int32) rfl 151 rfl ?_
      refine g_icmp_le w at_151 188 (by decide) (by decide) 154 rfl (fun h => absurd (by decide) h) (fun hc151 => ?_)
      refine g_iload w at_154 rfl 156 rfl ?_
      refine g_if_eq w at_156 185 (by decide) (by decide) 159 rfl (fun h => absurd h (by decide)) (fun hc156 => ?_)
      refine g_aload w at_159 rfl rfl 161 rfl ?_
      refine g_iload w at_161 rfl 163 rfl ?_
      refine g_iconst w at_163 (1 : Int32) rfl 164 rfl ?_
      refine g_virt w (argsL := [(.int s1), (.int (1 : Int32))]) (rest := []) (rm4 l Z a0 hw n0 b6 ar s1 (1 : Int32) (1 : Int32) (4 : Int32) ((List.replicate 4 (.int (0 : Int32))).set j0 (.int ((0 : Int32) + 1))) j1 hj1 (by simpa using hl1) (by simp only [List.length_set, List.length_replicate]; rfl)) at_164 0 rfl 16 rfl 17 rfl 6 rfl 20 rfl 19 rfl 18 rfl ⟨by decide, by decide⟩ pd_2 rfl rfl rfl 0 rfl (by decide) (by decide) (by decide) (by decide) 167 rfl (fun T v L w h => ?_)
      obtain ⟨rfl, rfl⟩ := h
      refine g_int (x' := (0 : Int32)) (by decide) ?_
      replace w := w.to (L' := [(b6, O_HashSlots (.ref ar) (.int (2 : Int32))), (ar, .inr (.int, ((List.replicate 4 (.int (0 : Int32))).set j0 (.int ((0 : Int32) + 1))).set j1 (.int ((1 : Int32) + 1))))]) rfl
      refine g_iconst w at_167 (4 : Int32) rfl 168 rfl ?_
      refine g_iload w at_168 rfl 170 rfl ?_
      refine g_icmp_le w at_170 177 (by decide) (by decide) 173 rfl (fun hc170 => ?_) (fun h => absurd h (by decide))
      refine g_iconst w at_177 (0 : Int32) rfl 178 rfl ?_
      refine g_icmp_ne w at_178 185 (by decide) (by decide) 181 rfl (fun h => absurd (by decide) h) (fun hc178 => ?_)
      refine g_iconst w at_181 (1 : Int32) rfl 182 rfl ?_
      refine g_goto w at_182 186 (by decide) (by decide) ?_
      refine g_istore w at_186 188 rfl rfl #[.val (.int u0), .val (.int u1), .val (.int u2), .val (.int u3), .val (.int (4 : Int32)), .val (.int (3 : Int32)), .val (.int (3 : Int32)), .val (.int st), .val (.int s0), .val (.int s1), .val (.int s2), .val (.int s3), .val (.int s4), .val (.int sF), .val (.ref b6), .val (.int (1 : Int32))] rfl ?_
      refine g_iload w at_188 rfl 190 rfl ?_
      refine g_iconst w at_190 (2 : Int32) rfl 191 rfl ?_
      refine g_icmp_le w at_191 229 (by decide) (by decide) 194 rfl (fun h => absurd (by decide) h) (fun hc191 => ?_)
      refine g_iload w at_194 rfl 196 rfl ?_
      refine g_if_eq w at_196 226 (by decide) (by decide) 199 rfl (fun h => absurd h (by decide)) (fun hc196 => ?_)
      refine g_aload w at_199 rfl rfl 201 rfl ?_
      refine g_iload w at_201 rfl 203 rfl ?_
      refine g_iconst w at_203 (2 : Int32) rfl 204 rfl ?_
      refine g_virt w (argsL := [(.int s2), (.int (2 : Int32))]) (rest := []) (rm4 l Z a0 hw n0 b6 ar s2 (2 : Int32) (2 : Int32) (4 : Int32) (((List.replicate 4 (.int (0 : Int32))).set j0 (.int ((0 : Int32) + 1))).set j1 (.int ((1 : Int32) + 1))) j2 hj2 (by simpa using hl2) (by simp only [List.length_set, List.length_replicate]; rfl)) at_204 0 rfl 16 rfl 17 rfl 6 rfl 20 rfl 19 rfl 18 rfl ⟨by decide, by decide⟩ pd_2 rfl rfl rfl 0 rfl (by decide) (by decide) (by decide) (by decide) 207 rfl (fun T v L w h => ?_)
      obtain ⟨rfl, rfl⟩ := h
      refine g_int (x' := (1 : Int32)) (by decide) ?_
      replace w := w.to (L' := [(b6, O_HashSlots (.ref ar) (.int (3 : Int32))), (ar, .inr (.int, (((List.replicate 4 (.int (0 : Int32))).set j0 (.int ((0 : Int32) + 1))).set j1 (.int ((1 : Int32) + 1))).set j2 (.int ((2 : Int32) + 1))))]) rfl
      refine g_bipush w at_207 (6 : Int32) rfl 209 rfl ?_
      refine g_iload w at_209 rfl 211 rfl ?_
      refine g_icmp_le w at_211 218 (by decide) (by decide) 214 rfl (fun h => absurd (by decide) h) (fun hc211 => ?_)
      refine g_iconst w at_214 (1 : Int32) rfl 215 rfl ?_
      refine g_goto w at_215 219 (by decide) (by decide) ?_
      refine g_icmp_ne w at_219 226 (by decide) (by decide) 222 rfl (fun h => absurd (by decide) h) (fun hc219 => ?_)
      refine g_iconst w at_222 (1 : Int32) rfl 223 rfl ?_
      refine g_goto w at_223 227 (by decide) (by decide) ?_
      refine g_istore w at_227 229 rfl rfl #[.val (.int u0), .val (.int u1), .val (.int u2), .val (.int u3), .val (.int (4 : Int32)), .val (.int (3 : Int32)), .val (.int (3 : Int32)), .val (.int st), .val (.int s0), .val (.int s1), .val (.int s2), .val (.int s3), .val (.int s4), .val (.int sF), .val (.ref b6), .val (.int (1 : Int32))] rfl ?_
      refine g_iload w at_229 rfl 231 rfl ?_
      refine g_iconst w at_231 (3 : Int32) rfl 232 rfl ?_
      refine g_icmp_le w at_232 270 (by decide) (by decide) 235 rfl (fun hc232 => ?_) (fun h => absurd h (by decide))
      refine g_iload w at_270 rfl 272 rfl ?_
      refine g_iconst w at_272 (4 : Int32) rfl 273 rfl ?_
      refine g_icmp_le w at_273 311 (by decide) (by decide) 276 rfl (fun hc273 => ?_) (fun h => absurd h (by decide))
      refine g_iload w at_311 rfl 313 rfl ?_
      refine g_if_le w at_313 338 (by decide) (by decide) 316 rfl (fun h => absurd (by decide) h) (fun hc313 => ?_)
      refine g_iload w at_316 rfl 318 rfl ?_
      refine g_if_eq w at_318 335 (by decide) (by decide) 321 rfl (fun h => absurd h (by decide)) (fun hc318 => ?_)
      refine g_aload w at_321 rfl rfl 323 rfl ?_
      refine g_iload w at_323 rfl 325 rfl ?_
      refine g_virt w (argsL := [(.int s0)]) (rest := []) (rm5 l Z a0 hw n0 b6 ar s0 (3 : Int32) ((0 : Int32) + 1) ((((List.replicate 4 (.int (0 : Int32))).set j0 (.int ((0 : Int32) + 1))).set j1 (.int ((1 : Int32) + 1))).set j2 (.int ((2 : Int32) + 1))) j0 hj0 ((List.getElem?_set_ne hne2_0).trans ((List.getElem?_set_ne hne1_0).trans (List.getElem?_set_self (by simpa using hl0))))) at_325 0 rfl 23 rfl 24 rfl 6 rfl 27 rfl 26 rfl 25 rfl ⟨by decide, by decide⟩ pd_3 rfl rfl rfl 0 rfl (by decide) (by decide) (by decide) (by decide) 328 rfl (fun T v L w h => ?_)
      obtain ⟨rfl, rfl⟩ := h
      refine g_int (x' := (0 : Int32)) (by decide) ?_
      refine g_if_ne w at_328 335 (by decide) (by decide) 331 rfl (fun h => absurd (by decide) h) (fun hc328 => ?_)
      refine g_iconst w at_331 (1 : Int32) rfl 332 rfl ?_
      refine g_goto w at_332 336 (by decide) (by decide) ?_
      refine g_istore w at_336 338 rfl rfl #[.val (.int u0), .val (.int u1), .val (.int u2), .val (.int u3), .val (.int (4 : Int32)), .val (.int (3 : Int32)), .val (.int (3 : Int32)), .val (.int st), .val (.int s0), .val (.int s1), .val (.int s2), .val (.int s3), .val (.int s4), .val (.int sF), .val (.ref b6), .val (.int (1 : Int32))] rfl ?_
      refine g_iload w at_338 rfl 340 rfl ?_
      refine g_iconst w at_340 (1 : Int32) rfl 341 rfl ?_
      refine g_icmp_le w at_341 367 (by decide) (by decide) 344 rfl (fun h => absurd (by decide) h) (fun hc341 => ?_)
      refine g_iload w at_344 rfl 346 rfl ?_
      refine g_if_eq w at_346 364 (by decide) (by decide) 349 rfl (fun h => absurd h (by decide)) (fun hc346 => ?_)
      refine g_aload w at_349 rfl rfl 351 rfl ?_
      refine g_iload w at_351 rfl 353 rfl ?_
      refine g_virt w (argsL := [(.int s1)]) (rest := []) (rm5 l Z a0 hw n0 b6 ar s1 (3 : Int32) ((1 : Int32) + 1) ((((List.replicate 4 (.int (0 : Int32))).set j0 (.int ((0 : Int32) + 1))).set j1 (.int ((1 : Int32) + 1))).set j2 (.int ((2 : Int32) + 1))) j1 hj1 ((List.getElem?_set_ne hne2_1).trans (List.getElem?_set_self (by simpa using hl1)))) at_353 0 rfl 23 rfl 24 rfl 6 rfl 27 rfl 26 rfl 25 rfl ⟨by decide, by decide⟩ pd_3 rfl rfl rfl 0 rfl (by decide) (by decide) (by decide) (by decide) 356 rfl (fun T v L w h => ?_)
      obtain ⟨rfl, rfl⟩ := h
      refine g_int (x' := (1 : Int32)) (by decide) ?_
      refine g_iconst w at_356 (1 : Int32) rfl 357 rfl ?_
      refine g_icmp_ne w at_357 364 (by decide) (by decide) 360 rfl (fun h => absurd (by decide) h) (fun hc357 => ?_)
      refine g_iconst w at_360 (1 : Int32) rfl 361 rfl ?_
      refine g_goto w at_361 365 (by decide) (by decide) ?_
      refine g_istore w at_365 367 rfl rfl #[.val (.int u0), .val (.int u1), .val (.int u2), .val (.int u3), .val (.int (4 : Int32)), .val (.int (3 : Int32)), .val (.int (3 : Int32)), .val (.int st), .val (.int s0), .val (.int s1), .val (.int s2), .val (.int s3), .val (.int s4), .val (.int sF), .val (.ref b6), .val (.int (1 : Int32))] rfl ?_
      refine g_iload w at_367 rfl 369 rfl ?_
      refine g_iconst w at_369 (2 : Int32) rfl 370 rfl ?_
      refine g_icmp_le w at_370 396 (by decide) (by decide) 373 rfl (fun h => absurd (by decide) h) (fun hc370 => ?_)
      refine g_iload w at_373 rfl 375 rfl ?_
      refine g_if_eq w at_375 393 (by decide) (by decide) 378 rfl (fun h => absurd h (by decide)) (fun hc375 => ?_)
      refine g_aload w at_378 rfl rfl 380 rfl ?_
      refine g_iload w at_380 rfl 382 rfl ?_
      refine g_virt w (argsL := [(.int s2)]) (rest := []) (rm5 l Z a0 hw n0 b6 ar s2 (3 : Int32) ((2 : Int32) + 1) ((((List.replicate 4 (.int (0 : Int32))).set j0 (.int ((0 : Int32) + 1))).set j1 (.int ((1 : Int32) + 1))).set j2 (.int ((2 : Int32) + 1))) j2 hj2 (List.getElem?_set_self (by simpa using hl2))) at_382 0 rfl 23 rfl 24 rfl 6 rfl 27 rfl 26 rfl 25 rfl ⟨by decide, by decide⟩ pd_3 rfl rfl rfl 0 rfl (by decide) (by decide) (by decide) (by decide) 385 rfl (fun T v L w h => ?_)
      obtain ⟨rfl, rfl⟩ := h
      refine g_int (x' := (2 : Int32)) (by decide) ?_
      refine g_iconst w at_385 (2 : Int32) rfl 386 rfl ?_
      refine g_icmp_ne w at_386 393 (by decide) (by decide) 389 rfl (fun h => absurd (by decide) h) (fun hc386 => ?_)
      refine g_iconst w at_389 (1 : Int32) rfl 390 rfl ?_
      refine g_goto w at_390 394 (by decide) (by decide) ?_
      refine g_istore w at_394 396 rfl rfl #[.val (.int u0), .val (.int u1), .val (.int u2), .val (.int u3), .val (.int (4 : Int32)), .val (.int (3 : Int32)), .val (.int (3 : Int32)), .val (.int st), .val (.int s0), .val (.int s1), .val (.int s2), .val (.int s3), .val (.int s4), .val (.int sF), .val (.ref b6), .val (.int (1 : Int32))] rfl ?_
      refine g_iload w at_396 rfl 398 rfl ?_
      refine g_iconst w at_398 (3 : Int32) rfl 399 rfl ?_
      refine g_icmp_le w at_399 425 (by decide) (by decide) 402 rfl (fun hc399 => ?_) (fun h => absurd h (by decide))
      refine g_iload w at_425 rfl 427 rfl ?_
      refine g_iconst w at_427 (4 : Int32) rfl 428 rfl ?_
      refine g_icmp_le w at_428 454 (by decide) (by decide) 431 rfl (fun hc428 => ?_) (fun h => absurd h (by decide))
      refine g_iload w at_454 rfl 456 rfl ?_
      refine g_iload w at_456 rfl 458 rfl ?_
      refine g_icmp_ge w at_458 484 (by decide) (by decide) 461 rfl (fun h => absurd (by decide) h) (fun hc458 => ?_)
      refine g_iload w at_461 rfl 463 rfl ?_
      refine g_if_eq w at_463 481 (by decide) (by decide) 466 rfl (fun h => absurd h (by decide)) (fun hc463 => ?_)
      refine g_aload w at_466 rfl rfl 468 rfl ?_
      refine g_iload w at_468 rfl 470 rfl ?_
      refine g_virt w (argsL := [(.int sF)]) (rest := []) (rm5 l Z a0 hw n0 b6 ar sF (3 : Int32) (0 : Int32) ((((List.replicate 4 (.int (0 : Int32))).set j0 (.int ((0 : Int32) + 1))).set j1 (.int ((1 : Int32) + 1))).set j2 (.int ((2 : Int32) + 1))) jF hjF ((List.getElem?_set_ne hne2_F).trans ((List.getElem?_set_ne hne1_F).trans ((List.getElem?_set_ne hne0_F).trans (List.getElem?_replicate_of_lt hlF))))) at_470 0 rfl 23 rfl 24 rfl 6 rfl 27 rfl 26 rfl 25 rfl ⟨by decide, by decide⟩ pd_3 rfl rfl rfl 0 rfl (by decide) (by decide) (by decide) (by decide) 473 rfl (fun T v L w h => ?_)
      obtain ⟨rfl, rfl⟩ := h
      refine g_int (x' := (-1 : Int32)) (by decide) ?_
      refine g_iconst w at_473 (-1 : Int32) rfl 474 rfl ?_
      refine g_icmp_ne w at_474 481 (by decide) (by decide) 477 rfl (fun h => absurd (by decide) h) (fun hc474 => ?_)
      refine g_iconst w at_477 (1 : Int32) rfl 478 rfl ?_
      refine g_goto w at_478 482 (by decide) (by decide) ?_
      refine g_istore w at_482 484 rfl rfl #[.val (.int u0), .val (.int u1), .val (.int u2), .val (.int u3), .val (.int (4 : Int32)), .val (.int (3 : Int32)), .val (.int (3 : Int32)), .val (.int st), .val (.int s0), .val (.int s1), .val (.int s2), .val (.int s3), .val (.int s4), .val (.int sF), .val (.ref b6), .val (.int (1 : Int32))] rfl ?_
      refine g_iload w at_484 rfl 486 rfl ?_
      exact g_iretn w (by simp) at_486 (by decide) (by decide) rfl
    · -- pc 28 c = 4
      refine g_int (x' := (4 : Int32)) hcc ?_
      refine g_istore w at_28 30 rfl rfl #[.val (.int u0), .val (.int u1), .val (.int u2), .val (.int u3), .val (.int (4 : Int32)), .val (.int (3 : Int32)), .val (.int (4 : Int32)), .unset, .unset, .unset, .unset, .unset, .unset, .unset, .unset, .unset] rfl ?_
      refine g_iloadN w at_30 rfl 31 rfl ?_
      refine g_iconst w at_31 (1 : Int32) rfl 32 rfl ?_
      refine g_ior w at_32 33 rfl ?_
      obtain ⟨st, hst⟩ : ∃ z, z = ((u3 ||| (1 : Int32)) : Int32) := ⟨_, rfl⟩
      refine g_istore w at_33 35 rfl hst.symm #[.val (.int u0), .val (.int u1), .val (.int u2), .val (.int u3), .val (.int (4 : Int32)), .val (.int (3 : Int32)), .val (.int (4 : Int32)), .val (.int st), .unset, .unset, .unset, .unset, .unset, .unset, .unset, .unset] rfl ?_
      refine g_iloadN w at_35 rfl 36 rfl ?_
      refine g_iload w at_36 rfl 38 rfl ?_
      refine g_iand w at_38 39 rfl ?_
      obtain ⟨s0, hs0⟩ : ∃ z, z = ((u2 &&& (3 : Int32)) : Int32) := ⟨_, rfl⟩
      refine g_istore w at_39 41 rfl hs0.symm #[.val (.int u0), .val (.int u1), .val (.int u2), .val (.int u3), .val (.int (4 : Int32)), .val (.int (3 : Int32)), .val (.int (4 : Int32)), .val (.int st), .val (.int s0), .unset, .unset, .unset, .unset, .unset, .unset, .unset] rfl ?_
      refine g_iloadN w at_41 rfl 42 rfl ?_
      refine g_iload w at_42 rfl 44 rfl ?_
      refine g_iadd w at_44 45 rfl ?_
      refine g_iload w at_45 rfl 47 rfl ?_
      refine g_iand w at_47 48 rfl ?_
      obtain ⟨s1, hs1⟩ : ∃ z, z = (((u2 + st) &&& (3 : Int32)) : Int32) := ⟨_, rfl⟩
      refine g_istore w at_48 50 rfl hs1.symm #[.val (.int u0), .val (.int u1), .val (.int u2), .val (.int u3), .val (.int (4 : Int32)), .val (.int (3 : Int32)), .val (.int (4 : Int32)), .val (.int st), .val (.int s0), .val (.int s1), .unset, .unset, .unset, .unset, .unset, .unset] rfl ?_
      refine g_iloadN w at_50 rfl 51 rfl ?_
      refine g_iconst w at_51 (2 : Int32) rfl 52 rfl ?_
      refine g_iload w at_52 rfl 54 rfl ?_
      refine g_imul w at_54 55 rfl ?_
      refine g_iadd w at_55 56 rfl ?_
      refine g_iload w at_56 rfl 58 rfl ?_
      refine g_iand w at_58 59 rfl ?_
      obtain ⟨s2, hs2⟩ : ∃ z, z = (((u2 + ((2 : Int32) * st)) &&& (3 : Int32)) : Int32) := ⟨_, rfl⟩
      refine g_istore w at_59 61 rfl hs2.symm #[.val (.int u0), .val (.int u1), .val (.int u2), .val (.int u3), .val (.int (4 : Int32)), .val (.int (3 : Int32)), .val (.int (4 : Int32)), .val (.int st), .val (.int s0), .val (.int s1), .val (.int s2), .unset, .unset, .unset, .unset, .unset] rfl ?_
      refine g_iloadN w at_61 rfl 62 rfl ?_
      refine g_iconst w at_62 (3 : Int32) rfl 63 rfl ?_
      refine g_iload w at_63 rfl 65 rfl ?_
      refine g_imul w at_65 66 rfl ?_
      refine g_iadd w at_66 67 rfl ?_
      refine g_iload w at_67 rfl 69 rfl ?_
      refine g_iand w at_69 70 rfl ?_
      obtain ⟨s3, hs3⟩ : ∃ z, z = (((u2 + ((3 : Int32) * st)) &&& (3 : Int32)) : Int32) := ⟨_, rfl⟩
      refine g_istore w at_70 72 rfl hs3.symm #[.val (.int u0), .val (.int u1), .val (.int u2), .val (.int u3), .val (.int (4 : Int32)), .val (.int (3 : Int32)), .val (.int (4 : Int32)), .val (.int st), .val (.int s0), .val (.int s1), .val (.int s2), .val (.int s3), .unset, .unset, .unset, .unset] rfl ?_
      refine g_iloadN w at_72 rfl 73 rfl ?_
      refine g_iconst w at_73 (4 : Int32) rfl 74 rfl ?_
      refine g_iload w at_74 rfl 76 rfl ?_
      refine g_imul w at_76 77 rfl ?_
      refine g_iadd w at_77 78 rfl ?_
      refine g_iload w at_78 rfl 80 rfl ?_
      refine g_iand w at_80 81 rfl ?_
      obtain ⟨s4, hs4⟩ : ∃ z, z = (((u2 + ((4 : Int32) * st)) &&& (3 : Int32)) : Int32) := ⟨_, rfl⟩
      refine g_istore w at_81 83 rfl hs4.symm #[.val (.int u0), .val (.int u1), .val (.int u2), .val (.int u3), .val (.int (4 : Int32)), .val (.int (3 : Int32)), .val (.int (4 : Int32)), .val (.int st), .val (.int s0), .val (.int s1), .val (.int s2), .val (.int s3), .val (.int s4), .unset, .unset, .unset] rfl ?_
      refine g_iloadN w at_83 rfl 84 rfl ?_
      refine g_iload w at_84 rfl 86 rfl ?_
      refine g_iload w at_86 rfl 88 rfl ?_
      refine g_imul w at_88 89 rfl ?_
      refine g_iadd w at_89 90 rfl ?_
      refine g_iload w at_90 rfl 92 rfl ?_
      refine g_iand w at_92 93 rfl ?_
      obtain ⟨sF, hsF⟩ : ∃ z, z = (((u2 + ((4 : Int32) * st)) &&& (3 : Int32)) : Int32) := ⟨_, rfl⟩
      refine g_istore w at_93 95 rfl hsF.symm #[.val (.int u0), .val (.int u1), .val (.int u2), .val (.int u3), .val (.int (4 : Int32)), .val (.int (3 : Int32)), .val (.int (4 : Int32)), .val (.int st), .val (.int s0), .val (.int s1), .val (.int s2), .val (.int s3), .val (.int s4), .val (.int sF), .unset, .unset] rfl ?_
      have hodd : st.toInt % 2 = 1 := by rw [hst]; exact own_odd u3
      have hM := c_mask u2 3 2 (by decide) (by decide)
      have E0 : s0.toInt = u2.toInt % 4 := by rw [hs0]; omega
      obtain ⟨j0, hj0⟩ : ∃ j : Nat, s0.toInt = (j : Int) := ⟨s0.toInt.toNat, by omega⟩
      have hl0 : j0 < 4 := by omega
      have E1 : s1.toInt = (u2.toInt + st.toInt) % 4 := by rw [hs1]; exact own_t4 u2 st
      obtain ⟨j1, hj1⟩ : ∃ j : Nat, s1.toInt = (j : Int) := ⟨s1.toInt.toNat, by omega⟩
      have hl1 : j1 < 4 := by omega
      have E2 : s2.toInt = (u2.toInt + 2 * st.toInt) % 4 := by rw [hs2]; exact own_s4 u2 st 2
      obtain ⟨j2, hj2⟩ : ∃ j : Nat, s2.toInt = (j : Int) := ⟨s2.toInt.toNat, by omega⟩
      have hl2 : j2 < 4 := by omega
      have E3 : s3.toInt = (u2.toInt + 3 * st.toInt) % 4 := by rw [hs3]; exact own_s4 u2 st 3
      obtain ⟨j3, hj3⟩ : ∃ j : Nat, s3.toInt = (j : Int) := ⟨s3.toInt.toNat, by omega⟩
      have hl3 : j3 < 4 := by omega
      have hne1_0 : j1 ≠ j0 := by omega
      have hne2_0 : j2 ≠ j0 := by omega
      have hne2_1 : j2 ≠ j1 := by omega
      have hne3_0 : j3 ≠ j0 := by omega
      have hne3_1 : j3 ≠ j1 := by omega
      have hne3_2 : j3 ≠ j2 := by omega
      clear hM
      refine g_new w [("tidestone/parquet/HashSlots", "slots", "[I", .null), ("tidestone/parquet/HashSlots", "taken", "I", (.int (0 : Int32)))] at_95 4 rfl 5 rfl 6 rfl (FOk.cons (Or.inl (w.hw (k := 15) rfl)) (ty := (.array .int)) (by decide) rfl (FOk.cons (Or.inl (w.hw (k := 22) rfl)) (ty := .int) (by decide) rfl trivial)) (by decide) (by decide) (by decide) 98 rfl (fun T b7 w => ?_)
      replace w := w.to (L' := [(b7, O_HashSlots .null (.int (0 : Int32)))]) rfl
      refine g_dup w at_98 rfl 99 rfl ?_
      refine g_iload w at_99 rfl 101 rfl ?_
      refine g_ctor w (argsL := [(.int (4 : Int32))]) (rest := [(.ref b7)]) (rm2 l Z a0 hw n0 b7 (4 : Int32) 4 (by decide) (by decide)) at_101 7 rfl 8 rfl 6 rfl 9 rfl rfl ⟨by decide, by decide⟩ pd_1 rfl rfl rfl 1 rfl (by decide) (by decide) (by decide) (by decide) 104 rfl (fun T v L w h => ?_)
      obtain ⟨rfl, ar, rfl⟩ := h
      refine g_astore w at_104 106 rfl rfl #[.val (.int u0), .val (.int u1), .val (.int u2), .val (.int u3), .val (.int (4 : Int32)), .val (.int (3 : Int32)), .val (.int (4 : Int32)), .val (.int st), .val (.int s0), .val (.int s1), .val (.int s2), .val (.int s3), .val (.int s4), .val (.int sF), .val (.ref b7), .unset] rfl ?_
      refine g_iconst w at_106 (1 : Int32) rfl 107 rfl ?_
      refine g_istore w at_107 109 rfl rfl #[.val (.int u0), .val (.int u1), .val (.int u2), .val (.int u3), .val (.int (4 : Int32)), .val (.int (3 : Int32)), .val (.int (4 : Int32)), .val (.int st), .val (.int s0), .val (.int s1), .val (.int s2), .val (.int s3), .val (.int s4), .val (.int sF), .val (.ref b7), .val (.int (1 : Int32))] rfl ?_
      refine g_iload w at_109 rfl 111 rfl ?_
      refine g_if_le w at_111 148 (by decide) (by decide) 114 rfl (fun h => absurd (by decide) h) (fun hc111 => ?_)
      refine g_iload w at_114 rfl 116 rfl ?_
      refine g_if_eq w at_116 145 (by decide) (by decide) 119 rfl (fun h => absurd h (by decide)) (fun hc116 => ?_)
      refine g_aload w at_119 rfl rfl 121 rfl ?_
      refine g_iload w at_121 rfl 123 rfl ?_
      refine g_iconst w at_123 (0 : Int32) rfl 124 rfl ?_
      refine g_virt w (argsL := [(.int s0), (.int (0 : Int32))]) (rest := []) (rm4 l Z a0 hw n0 b7 ar s0 (0 : Int32) (0 : Int32) (4 : Int32) (List.replicate 4 (.int (0 : Int32))) j0 hj0 (by simpa using hl0) (by simp only [List.length_set, List.length_replicate]; rfl)) at_124 0 rfl 16 rfl 17 rfl 6 rfl 20 rfl 19 rfl 18 rfl ⟨by decide, by decide⟩ pd_2 rfl rfl rfl 0 rfl (by decide) (by decide) (by decide) (by decide) 127 rfl (fun T v L w h => ?_)
      obtain ⟨rfl, rfl⟩ := h
      refine g_int (x' := (0 : Int32)) (by decide) ?_
      replace w := w.to (L' := [(b7, O_HashSlots (.ref ar) (.int (1 : Int32))), (ar, .inr (.int, (List.replicate 4 (.int (0 : Int32))).set j0 (.int ((0 : Int32) + 1))))]) rfl
      refine g_iconst w at_127 (2 : Int32) rfl 128 rfl ?_
      refine g_iload w at_128 rfl 130 rfl ?_
      refine g_icmp_le w at_130 137 (by decide) (by decide) 133 rfl (fun hc130 => ?_) (fun h => absurd h (by decide))
      refine g_iconst w at_137 (0 : Int32) rfl 138 rfl ?_
      refine g_icmp_ne w at_138 145 (by decide) (by decide) 141 rfl (fun h => absurd (by decide) h) (fun hc138 => ?_)
      refine g_iconst w at_141 (1 : Int32) rfl 142 rfl ?_
      refine g_goto w at_142 146 (by decide) (by decide) ?_
      refine g_istore w at_146 148 rfl rfl #[.val (.int u0), .val (.int u1), .val (.int u2), .val (.int u3), .val (.int (4 : Int32)), .val (.int (3 : Int32)), .val (.int (4 : Int32)), .val (.int st), .val (.int s0), .val (.int s1), .val (.int s2), .val (.int s3), .val (.int s4), .val (.int sF), .val (.ref b7), .val (.int (1 : Int32))] rfl ?_
      refine g_iload w at_148 rfl 150 rfl ?_
      refine g_iconst w at_150 (1 : Int32) rfl 151 rfl ?_
      refine g_icmp_le w at_151 188 (by decide) (by decide) 154 rfl (fun h => absurd (by decide) h) (fun hc151 => ?_)
      refine g_iload w at_154 rfl 156 rfl ?_
      refine g_if_eq w at_156 185 (by decide) (by decide) 159 rfl (fun h => absurd h (by decide)) (fun hc156 => ?_)
      refine g_aload w at_159 rfl rfl 161 rfl ?_
      refine g_iload w at_161 rfl 163 rfl ?_
      refine g_iconst w at_163 (1 : Int32) rfl 164 rfl ?_
      refine g_virt w (argsL := [(.int s1), (.int (1 : Int32))]) (rest := []) (rm4 l Z a0 hw n0 b7 ar s1 (1 : Int32) (1 : Int32) (4 : Int32) ((List.replicate 4 (.int (0 : Int32))).set j0 (.int ((0 : Int32) + 1))) j1 hj1 (by simpa using hl1) (by simp only [List.length_set, List.length_replicate]; rfl)) at_164 0 rfl 16 rfl 17 rfl 6 rfl 20 rfl 19 rfl 18 rfl ⟨by decide, by decide⟩ pd_2 rfl rfl rfl 0 rfl (by decide) (by decide) (by decide) (by decide) 167 rfl (fun T v L w h => ?_)
      obtain ⟨rfl, rfl⟩ := h
      refine g_int (x' := (0 : Int32)) (by decide) ?_
      replace w := w.to (L' := [(b7, O_HashSlots (.ref ar) (.int (2 : Int32))), (ar, .inr (.int, ((List.replicate 4 (.int (0 : Int32))).set j0 (.int ((0 : Int32) + 1))).set j1 (.int ((1 : Int32) + 1))))]) rfl
      refine g_iconst w at_167 (4 : Int32) rfl 168 rfl ?_
      refine g_iload w at_168 rfl 170 rfl ?_
      refine g_icmp_le w at_170 177 (by decide) (by decide) 173 rfl (fun hc170 => ?_) (fun h => absurd h (by decide))
      refine g_iconst w at_177 (0 : Int32) rfl 178 rfl ?_
      refine g_icmp_ne w at_178 185 (by decide) (by decide) 181 rfl (fun h => absurd (by decide) h) (fun hc178 => ?_)
      refine g_iconst w at_181 (1 : Int32) rfl 182 rfl ?_
      refine g_goto w at_182 186 (by decide) (by decide) ?_
      refine g_istore w at_186 188 rfl rfl #[.val (.int u0), .val (.int u1), .val (.int u2), .val (.int u3), .val (.int (4 : Int32)), .val (.int (3 : Int32)), .val (.int (4 : Int32)), .val (.int st), .val (.int s0), .val (.int s1), .val (.int s2), .val (.int s3), .val (.int s4), .val (.int sF), .val (.ref b7), .val (.int (1 : Int32))] rfl ?_
      refine g_iload w at_188 rfl 190 rfl ?_
      refine g_iconst w at_190 (2 : Int32) rfl 191 rfl ?_
      refine g_icmp_le w at_191 229 (by decide) (by decide) 194 rfl (fun h => absurd (by decide) h) (fun hc191 => ?_)
      refine g_iload w at_194 rfl 196 rfl ?_
      refine g_if_eq w at_196 226 (by decide) (by decide) 199 rfl (fun h => absurd h (by decide)) (fun hc196 => ?_)
      refine g_aload w at_199 rfl rfl 201 rfl ?_
      refine g_iload w at_201 rfl 203 rfl ?_
      refine g_iconst w at_203 (2 : Int32) rfl 204 rfl ?_
      refine g_virt w (argsL := [(.int s2), (.int (2 : Int32))]) (rest := []) (rm4 l Z a0 hw n0 b7 ar s2 (2 : Int32) (2 : Int32) (4 : Int32) (((List.replicate 4 (.int (0 : Int32))).set j0 (.int ((0 : Int32) + 1))).set j1 (.int ((1 : Int32) + 1))) j2 hj2 (by simpa using hl2) (by simp only [List.length_set, List.length_replicate]; rfl)) at_204 0 rfl 16 rfl 17 rfl 6 rfl 20 rfl 19 rfl 18 rfl ⟨by decide, by decide⟩ pd_2 rfl rfl rfl 0 rfl (by decide) (by decide) (by decide) (by decide) 207 rfl (fun T v L w h => ?_)
      obtain ⟨rfl, rfl⟩ := h
      refine g_int (x' := (1 : Int32)) (by decide) ?_
      replace w := w.to (L' := [(b7, O_HashSlots (.ref ar) (.int (3 : Int32))), (ar, .inr (.int, (((List.replicate 4 (.int (0 : Int32))).set j0 (.int ((0 : Int32) + 1))).set j1 (.int ((1 : Int32) + 1))).set j2 (.int ((2 : Int32) + 1))))]) rfl
      refine g_bipush w at_207 (6 : Int32) rfl 209 rfl ?_
      refine g_iload w at_209 rfl 211 rfl ?_
      refine g_icmp_le w at_211 218 (by decide) (by decide) 214 rfl (fun h => absurd (by decide) h) (fun hc211 => ?_)
      refine g_iconst w at_214 (1 : Int32) rfl 215 rfl ?_
      refine g_goto w at_215 219 (by decide) (by decide) ?_
      refine g_icmp_ne w at_219 226 (by decide) (by decide) 222 rfl (fun h => absurd (by decide) h) (fun hc219 => ?_)
      refine g_iconst w at_222 (1 : Int32) rfl 223 rfl ?_
      refine g_goto w at_223 227 (by decide) (by decide) ?_
      refine g_istore w at_227 229 rfl rfl #[.val (.int u0), .val (.int u1), .val (.int u2), .val (.int u3), .val (.int (4 : Int32)), .val (.int (3 : Int32)), .val (.int (4 : Int32)), .val (.int st), .val (.int s0), .val (.int s1), .val (.int s2), .val (.int s3), .val (.int s4), .val (.int sF), .val (.ref b7), .val (.int (1 : Int32))] rfl ?_
      refine g_iload w at_229 rfl 231 rfl ?_
      refine g_iconst w at_231 (3 : Int32) rfl 232 rfl ?_
      refine g_icmp_le w at_232 270 (by decide) (by decide) 235 rfl (fun h => absurd (by decide) h) (fun hc232 => ?_)
      refine g_iload w at_235 rfl 237 rfl ?_
      refine g_if_eq w at_237 267 (by decide) (by decide) 240 rfl (fun h => absurd h (by decide)) (fun hc237 => ?_)
      refine g_aload w at_240 rfl rfl 242 rfl ?_
      refine g_iload w at_242 rfl 244 rfl ?_
      refine g_iconst w at_244 (3 : Int32) rfl 245 rfl ?_
      refine g_virt w (argsL := [(.int s3), (.int (3 : Int32))]) (rest := []) (rm4 l Z a0 hw n0 b7 ar s3 (3 : Int32) (3 : Int32) (4 : Int32) ((((List.replicate 4 (.int (0 : Int32))).set j0 (.int ((0 : Int32) + 1))).set j1 (.int ((1 : Int32) + 1))).set j2 (.int ((2 : Int32) + 1))) j3 hj3 (by simpa using hl3) (by simp only [List.length_set, List.length_replicate]; rfl)) at_245 0 rfl 16 rfl 17 rfl 6 rfl 20 rfl 19 rfl 18 rfl ⟨by decide, by decide⟩ pd_2 rfl rfl rfl 0 rfl (by decide) (by decide) (by decide) (by decide) 248 rfl (fun T v L w h => ?_)
      obtain ⟨rfl, rfl⟩ := h
      refine g_int (x' := (1 : Int32)) (by decide) ?_
      replace w := w.to (L' := [(b7, O_HashSlots (.ref ar) (.int (4 : Int32))), (ar, .inr (.int, ((((List.replicate 4 (.int (0 : Int32))).set j0 (.int ((0 : Int32) + 1))).set j1 (.int ((1 : Int32) + 1))).set j2 (.int ((2 : Int32) + 1))).set j3 (.int ((3 : Int32) + 1))))]) rfl
      refine g_bipush w at_248 (8 : Int32) rfl 250 rfl ?_
      refine g_iload w at_250 rfl 252 rfl ?_
      refine g_icmp_le w at_252 259 (by decide) (by decide) 255 rfl (fun h => absurd (by decide) h) (fun hc252 => ?_)
      refine g_iconst w at_255 (1 : Int32) rfl 256 rfl ?_
      refine g_goto w at_256 260 (by decide) (by decide) ?_
      refine g_icmp_ne w at_260 267 (by decide) (by decide) 263 rfl (fun h => absurd (by decide) h) (fun hc260 => ?_)
      refine g_iconst w at_263 (1 : Int32) rfl 264 rfl ?_
      refine g_goto w at_264 268 (by decide) (by decide) ?_
      refine g_istore w at_268 270 rfl rfl #[.val (.int u0), .val (.int u1), .val (.int u2), .val (.int u3), .val (.int (4 : Int32)), .val (.int (3 : Int32)), .val (.int (4 : Int32)), .val (.int st), .val (.int s0), .val (.int s1), .val (.int s2), .val (.int s3), .val (.int s4), .val (.int sF), .val (.ref b7), .val (.int (1 : Int32))] rfl ?_
      refine g_iload w at_270 rfl 272 rfl ?_
      refine g_iconst w at_272 (4 : Int32) rfl 273 rfl ?_
      refine g_icmp_le w at_273 311 (by decide) (by decide) 276 rfl (fun hc273 => ?_) (fun h => absurd h (by decide))
      refine g_iload w at_311 rfl 313 rfl ?_
      refine g_if_le w at_313 338 (by decide) (by decide) 316 rfl (fun h => absurd (by decide) h) (fun hc313 => ?_)
      refine g_iload w at_316 rfl 318 rfl ?_
      refine g_if_eq w at_318 335 (by decide) (by decide) 321 rfl (fun h => absurd h (by decide)) (fun hc318 => ?_)
      refine g_aload w at_321 rfl rfl 323 rfl ?_
      refine g_iload w at_323 rfl 325 rfl ?_
      refine g_virt w (argsL := [(.int s0)]) (rest := []) (rm5 l Z a0 hw n0 b7 ar s0 (4 : Int32) ((0 : Int32) + 1) (((((List.replicate 4 (.int (0 : Int32))).set j0 (.int ((0 : Int32) + 1))).set j1 (.int ((1 : Int32) + 1))).set j2 (.int ((2 : Int32) + 1))).set j3 (.int ((3 : Int32) + 1))) j0 hj0 ((List.getElem?_set_ne hne3_0).trans ((List.getElem?_set_ne hne2_0).trans ((List.getElem?_set_ne hne1_0).trans (List.getElem?_set_self (by simpa using hl0)))))) at_325 0 rfl 23 rfl 24 rfl 6 rfl 27 rfl 26 rfl 25 rfl ⟨by decide, by decide⟩ pd_3 rfl rfl rfl 0 rfl (by decide) (by decide) (by decide) (by decide) 328 rfl (fun T v L w h => ?_)
      obtain ⟨rfl, rfl⟩ := h
      refine g_int (x' := (0 : Int32)) (by decide) ?_
      refine g_if_ne w at_328 335 (by decide) (by decide) 331 rfl (fun h => absurd (by decide) h) (fun hc328 => ?_)
      refine g_iconst w at_331 (1 : Int32) rfl 332 rfl ?_
      refine g_goto w at_332 336 (by decide) (by decide) ?_
      refine g_istore w at_336 338 rfl rfl #[.val (.int u0), .val (.int u1), .val (.int u2), .val (.int u3), .val (.int (4 : Int32)), .val (.int (3 : Int32)), .val (.int (4 : Int32)), .val (.int st), .val (.int s0), .val (.int s1), .val (.int s2), .val (.int s3), .val (.int s4), .val (.int sF), .val (.ref b7), .val (.int (1 : Int32))] rfl ?_
      refine g_iload w at_338 rfl 340 rfl ?_
      refine g_iconst w at_340 (1 : Int32) rfl 341 rfl ?_
      refine g_icmp_le w at_341 367 (by decide) (by decide) 344 rfl (fun h => absurd (by decide) h) (fun hc341 => ?_)
      refine g_iload w at_344 rfl 346 rfl ?_
      refine g_if_eq w at_346 364 (by decide) (by decide) 349 rfl (fun h => absurd h (by decide)) (fun hc346 => ?_)
      refine g_aload w at_349 rfl rfl 351 rfl ?_
      refine g_iload w at_351 rfl 353 rfl ?_
      refine g_virt w (argsL := [(.int s1)]) (rest := []) (rm5 l Z a0 hw n0 b7 ar s1 (4 : Int32) ((1 : Int32) + 1) (((((List.replicate 4 (.int (0 : Int32))).set j0 (.int ((0 : Int32) + 1))).set j1 (.int ((1 : Int32) + 1))).set j2 (.int ((2 : Int32) + 1))).set j3 (.int ((3 : Int32) + 1))) j1 hj1 ((List.getElem?_set_ne hne3_1).trans ((List.getElem?_set_ne hne2_1).trans (List.getElem?_set_self (by simpa using hl1))))) at_353 0 rfl 23 rfl 24 rfl 6 rfl 27 rfl 26 rfl 25 rfl ⟨by decide, by decide⟩ pd_3 rfl rfl rfl 0 rfl (by decide) (by decide) (by decide) (by decide) 356 rfl (fun T v L w h => ?_)
      obtain ⟨rfl, rfl⟩ := h
      refine g_int (x' := (1 : Int32)) (by decide) ?_
      refine g_iconst w at_356 (1 : Int32) rfl 357 rfl ?_
      refine g_icmp_ne w at_357 364 (by decide) (by decide) 360 rfl (fun h => absurd (by decide) h) (fun hc357 => ?_)
      refine g_iconst w at_360 (1 : Int32) rfl 361 rfl ?_
      refine g_goto w at_361 365 (by decide) (by decide) ?_
      refine g_istore w at_365 367 rfl rfl #[.val (.int u0), .val (.int u1), .val (.int u2), .val (.int u3), .val (.int (4 : Int32)), .val (.int (3 : Int32)), .val (.int (4 : Int32)), .val (.int st), .val (.int s0), .val (.int s1), .val (.int s2), .val (.int s3), .val (.int s4), .val (.int sF), .val (.ref b7), .val (.int (1 : Int32))] rfl ?_
      refine g_iload w at_367 rfl 369 rfl ?_
      refine g_iconst w at_369 (2 : Int32) rfl 370 rfl ?_
      refine g_icmp_le w at_370 396 (by decide) (by decide) 373 rfl (fun h => absurd (by decide) h) (fun hc370 => ?_)
      refine g_iload w at_373 rfl 375 rfl ?_
      refine g_if_eq w at_375 393 (by decide) (by decide) 378 rfl (fun h => absurd h (by decide)) (fun hc375 => ?_)
      refine g_aload w at_378 rfl rfl 380 rfl ?_
      refine g_iload w at_380 rfl 382 rfl ?_
      refine g_virt w (argsL := [(.int s2)]) (rest := []) (rm5 l Z a0 hw n0 b7 ar s2 (4 : Int32) ((2 : Int32) + 1) (((((List.replicate 4 (.int (0 : Int32))).set j0 (.int ((0 : Int32) + 1))).set j1 (.int ((1 : Int32) + 1))).set j2 (.int ((2 : Int32) + 1))).set j3 (.int ((3 : Int32) + 1))) j2 hj2 ((List.getElem?_set_ne hne3_2).trans (List.getElem?_set_self (by simpa using hl2)))) at_382 0 rfl 23 rfl 24 rfl 6 rfl 27 rfl 26 rfl 25 rfl ⟨by decide, by decide⟩ pd_3 rfl rfl rfl 0 rfl (by decide) (by decide) (by decide) (by decide) 385 rfl (fun T v L w h => ?_)
      obtain ⟨rfl, rfl⟩ := h
      refine g_int (x' := (2 : Int32)) (by decide) ?_
      refine g_iconst w at_385 (2 : Int32) rfl 386 rfl ?_
      refine g_icmp_ne w at_386 393 (by decide) (by decide) 389 rfl (fun h => absurd (by decide) h) (fun hc386 => ?_)
      refine g_iconst w at_389 (1 : Int32) rfl 390 rfl ?_
      refine g_goto w at_390 394 (by decide) (by decide) ?_
      refine g_istore w at_394 396 rfl rfl #[.val (.int u0), .val (.int u1), .val (.int u2), .val (.int u3), .val (.int (4 : Int32)), .val (.int (3 : Int32)), .val (.int (4 : Int32)), .val (.int st), .val (.int s0), .val (.int s1), .val (.int s2), .val (.int s3), .val (.int s4), .val (.int sF), .val (.ref b7), .val (.int (1 : Int32))] rfl ?_
      refine g_iload w at_396 rfl 398 rfl ?_
      refine g_iconst w at_398 (3 : Int32) rfl 399 rfl ?_
      refine g_icmp_le w at_399 425 (by decide) (by decide) 402 rfl (fun h => absurd (by decide) h) (fun hc399 => ?_)
      refine g_iload w at_402 rfl 404 rfl ?_
      refine g_if_eq w at_404 422 (by decide) (by decide) 407 rfl (fun h => absurd h (by decide)) (fun hc404 => ?_)
      refine g_aload w at_407 rfl rfl 409 rfl ?_
      refine g_iload w at_409 rfl 411 rfl ?_
      refine g_virt w (argsL := [(.int s3)]) (rest := []) (rm5 l Z a0 hw n0 b7 ar s3 (4 : Int32) ((3 : Int32) + 1) (((((List.replicate 4 (.int (0 : Int32))).set j0 (.int ((0 : Int32) + 1))).set j1 (.int ((1 : Int32) + 1))).set j2 (.int ((2 : Int32) + 1))).set j3 (.int ((3 : Int32) + 1))) j3 hj3 (List.getElem?_set_self (by simpa using hl3))) at_411 0 rfl 23 rfl 24 rfl 6 rfl 27 rfl 26 rfl 25 rfl ⟨by decide, by decide⟩ pd_3 rfl rfl rfl 0 rfl (by decide) (by decide) (by decide) (by decide) 414 rfl (fun T v L w h => ?_)
      obtain ⟨rfl, rfl⟩ := h
      refine g_int (x' := (3 : Int32)) (by decide) ?_
      refine g_iconst w at_414 (3 : Int32) rfl 415 rfl ?_
      refine g_icmp_ne w at_415 422 (by decide) (by decide) 418 rfl (fun h => absurd (by decide) h) (fun hc415 => ?_)
      refine g_iconst w at_418 (1 : Int32) rfl 419 rfl ?_
      refine g_goto w at_419 423 (by decide) (by decide) ?_
      refine g_istore w at_423 425 rfl rfl #[.val (.int u0), .val (.int u1), .val (.int u2), .val (.int u3), .val (.int (4 : Int32)), .val (.int (3 : Int32)), .val (.int (4 : Int32)), .val (.int st), .val (.int s0), .val (.int s1), .val (.int s2), .val (.int s3), .val (.int s4), .val (.int sF), .val (.ref b7), .val (.int (1 : Int32))] rfl ?_
      refine g_iload w at_425 rfl 427 rfl ?_
      refine g_iconst w at_427 (4 : Int32) rfl 428 rfl ?_
      refine g_icmp_le w at_428 454 (by decide) (by decide) 431 rfl (fun hc428 => ?_) (fun h => absurd h (by decide))
      refine g_iload w at_454 rfl 456 rfl ?_
      refine g_iload w at_456 rfl 458 rfl ?_
      refine g_icmp_ge w at_458 484 (by decide) (by decide) 461 rfl (fun hc458 => ?_) (fun h => absurd h (by decide))
      refine g_iload w at_484 rfl 486 rfl ?_
      exact g_iretn w (by simp) at_486 (by decide) (by decide) rfl
  · -- pc 5 n = 8
    refine g_int (x' := (8 : Int32)) hn ?_
    refine g_istore w at_5 7 rfl rfl #[.val (.int u0), .val (.int u1), .val (.int u2), .val (.int u3), .val (.int (8 : Int32)), .unset, .unset, .unset, .unset, .unset, .unset, .unset, .unset, .unset, .unset, .unset] rfl ?_
    refine g_iload w at_7 rfl 9 rfl ?_
    refine g_iconst w at_9 (1 : Int32) rfl 10 rfl ?_
    refine g_isub w at_10 11 rfl ?_
    refine g_int (x' := (7 : Int32)) (by decide) ?_
    refine g_istore w at_11 13 rfl rfl #[.val (.int u0), .val (.int u1), .val (.int u2), .val (.int u3), .val (.int (8 : Int32)), .val (.int (7 : Int32)), .unset, .unset, .unset, .unset, .unset, .unset, .unset, .unset, .unset, .unset] rfl ?_
    refine g_iconst w at_13 (1 : Int32) rfl 14 rfl ?_
    refine g_iloadN w at_14 rfl 15 rfl ?_
    refine g_bipush w at_15 (7 : Int32) rfl 17 rfl ?_
    refine g_iand w at_17 18 rfl ?_
    refine g_iadd w at_18 19 rfl ?_
    refine g_iload w at_19 rfl 21 rfl ?_
    refine g_static w (argsL := [(.int ((1 : Int32) + (u1 &&& (7 : Int32)))), (.int (8 : Int32))]) (rest := []) (rm1 l Z a0 hw n0 ((1 : Int32) + (u1 &&& (7 : Int32))) (8 : Int32) ([])) at_21 0 rfl 1 rfl 2 rfl 3 rfl ⟨by decide, by decide⟩ pd_0 rfl rfl rfl 0 rfl (by decide) (by decide) (by decide) (by decide) 24 rfl (fun T v L w h => ?_)
    obtain ⟨rfl, rfl⟩ := h
    refine g_iconst w at_24 (5 : Int32) rfl 25 rfl ?_
    refine g_static w (argsL := [(.int (own_min ((1 : Int32) + (u1 &&& (7 : Int32))) (8 : Int32))), (.int (5 : Int32))]) (rest := []) (rm1 l Z a0 hw n0 (own_min ((1 : Int32) + (u1 &&& (7 : Int32))) (8 : Int32)) (5 : Int32) ([])) at_25 0 rfl 1 rfl 2 rfl 3 rfl ⟨by decide, by decide⟩ pd_0 rfl rfl rfl 0 rfl (by decide) (by decide) (by decide) (by decide) 28 rfl (fun T v L w h => ?_)
    obtain ⟨rfl, rfl⟩ := h
    rcases own_c8 u1 with hcc | hcc | hcc | hcc | hcc
    · -- pc 28 c = 1
      refine g_int (x' := (1 : Int32)) hcc ?_
      refine g_istore w at_28 30 rfl rfl #[.val (.int u0), .val (.int u1), .val (.int u2), .val (.int u3), .val (.int (8 : Int32)), .val (.int (7 : Int32)), .val (.int (1 : Int32)), .unset, .unset, .unset, .unset, .unset, .unset, .unset, .unset, .unset] rfl ?_
      refine g_iloadN w at_30 rfl 31 rfl ?_
      refine g_iconst w at_31 (1 : Int32) rfl 32 rfl ?_
      refine g_ior w at_32 33 rfl ?_
      obtain ⟨st, hst⟩ : ∃ z, z = ((u3 ||| (1 : Int32)) : Int32) := ⟨_, rfl⟩
      refine g_istore w at_33 35 rfl hst.symm #[.val (.int u0), .val (.int u1), .val (.int u2), .val (.int u3), .val (.int (8 : Int32)), .val (.int (7 : Int32)), .val (.int (1 : Int32)), .val (.int st), .unset, .unset, .unset, .unset, .unset, .unset, .unset, .unset] rfl ?_
      refine g_iloadN w at_35 rfl 36 rfl ?_
      refine g_iload w at_36 rfl 38 rfl ?_
      refine g_iand w at_38 39 rfl ?_
      obtain ⟨s0, hs0⟩ : ∃ z, z = ((u2 &&& (7 : Int32)) : Int32) := ⟨_, rfl⟩
      refine g_istore w at_39 41 rfl hs0.symm #[.val (.int u0), .val (.int u1), .val (.int u2), .val (.int u3), .val (.int (8 : Int32)), .val (.int (7 : Int32)), .val (.int (1 : Int32)), .val (.int st), .val (.int s0), .unset, .unset, .unset, .unset, .unset, .unset, .unset] rfl ?_
      refine g_iloadN w at_41 rfl 42 rfl ?_
      refine g_iload w at_42 rfl 44 rfl ?_
      refine g_iadd w at_44 45 rfl ?_
      refine g_iload w at_45 rfl 47 rfl ?_
      refine g_iand w at_47 48 rfl ?_
      obtain ⟨s1, hs1⟩ : ∃ z, z = (((u2 + st) &&& (7 : Int32)) : Int32) := ⟨_, rfl⟩
      refine g_istore w at_48 50 rfl hs1.symm #[.val (.int u0), .val (.int u1), .val (.int u2), .val (.int u3), .val (.int (8 : Int32)), .val (.int (7 : Int32)), .val (.int (1 : Int32)), .val (.int st), .val (.int s0), .val (.int s1), .unset, .unset, .unset, .unset, .unset, .unset] rfl ?_
      refine g_iloadN w at_50 rfl 51 rfl ?_
      refine g_iconst w at_51 (2 : Int32) rfl 52 rfl ?_
      refine g_iload w at_52 rfl 54 rfl ?_
      refine g_imul w at_54 55 rfl ?_
      refine g_iadd w at_55 56 rfl ?_
      refine g_iload w at_56 rfl 58 rfl ?_
      refine g_iand w at_58 59 rfl ?_
      obtain ⟨s2, hs2⟩ : ∃ z, z = (((u2 + ((2 : Int32) * st)) &&& (7 : Int32)) : Int32) := ⟨_, rfl⟩
      refine g_istore w at_59 61 rfl hs2.symm #[.val (.int u0), .val (.int u1), .val (.int u2), .val (.int u3), .val (.int (8 : Int32)), .val (.int (7 : Int32)), .val (.int (1 : Int32)), .val (.int st), .val (.int s0), .val (.int s1), .val (.int s2), .unset, .unset, .unset, .unset, .unset] rfl ?_
      refine g_iloadN w at_61 rfl 62 rfl ?_
      refine g_iconst w at_62 (3 : Int32) rfl 63 rfl ?_
      refine g_iload w at_63 rfl 65 rfl ?_
      refine g_imul w at_65 66 rfl ?_
      refine g_iadd w at_66 67 rfl ?_
      refine g_iload w at_67 rfl 69 rfl ?_
      refine g_iand w at_69 70 rfl ?_
      obtain ⟨s3, hs3⟩ : ∃ z, z = (((u2 + ((3 : Int32) * st)) &&& (7 : Int32)) : Int32) := ⟨_, rfl⟩
      refine g_istore w at_70 72 rfl hs3.symm #[.val (.int u0), .val (.int u1), .val (.int u2), .val (.int u3), .val (.int (8 : Int32)), .val (.int (7 : Int32)), .val (.int (1 : Int32)), .val (.int st), .val (.int s0), .val (.int s1), .val (.int s2), .val (.int s3), .unset, .unset, .unset, .unset] rfl ?_
      refine g_iloadN w at_72 rfl 73 rfl ?_
      refine g_iconst w at_73 (4 : Int32) rfl 74 rfl ?_
      refine g_iload w at_74 rfl 76 rfl ?_
      refine g_imul w at_76 77 rfl ?_
      refine g_iadd w at_77 78 rfl ?_
      refine g_iload w at_78 rfl 80 rfl ?_
      refine g_iand w at_80 81 rfl ?_
      obtain ⟨s4, hs4⟩ : ∃ z, z = (((u2 + ((4 : Int32) * st)) &&& (7 : Int32)) : Int32) := ⟨_, rfl⟩
      refine g_istore w at_81 83 rfl hs4.symm #[.val (.int u0), .val (.int u1), .val (.int u2), .val (.int u3), .val (.int (8 : Int32)), .val (.int (7 : Int32)), .val (.int (1 : Int32)), .val (.int st), .val (.int s0), .val (.int s1), .val (.int s2), .val (.int s3), .val (.int s4), .unset, .unset, .unset] rfl ?_
      refine g_iloadN w at_83 rfl 84 rfl ?_
      refine g_iload w at_84 rfl 86 rfl ?_
      refine g_iload w at_86 rfl 88 rfl ?_
      refine g_imul w at_88 89 rfl ?_
      refine g_iadd w at_89 90 rfl ?_
      refine g_iload w at_90 rfl 92 rfl ?_
      refine g_iand w at_92 93 rfl ?_
      obtain ⟨sF, hsF⟩ : ∃ z, z = (((u2 + ((1 : Int32) * st)) &&& (7 : Int32)) : Int32) := ⟨_, rfl⟩
      refine g_istore w at_93 95 rfl hsF.symm #[.val (.int u0), .val (.int u1), .val (.int u2), .val (.int u3), .val (.int (8 : Int32)), .val (.int (7 : Int32)), .val (.int (1 : Int32)), .val (.int st), .val (.int s0), .val (.int s1), .val (.int s2), .val (.int s3), .val (.int s4), .val (.int sF), .unset, .unset] rfl ?_
      have hodd : st.toInt % 2 = 1 := by rw [hst]; exact own_odd u3
      have hM := c_mask u2 7 3 (by decide) (by decide)
      have E0 : s0.toInt = u2.toInt % 8 := by rw [hs0]; omega
      obtain ⟨j0, hj0⟩ : ∃ j : Nat, s0.toInt = (j : Int) := ⟨s0.toInt.toNat, by omega⟩
      have hl0 : j0 < 8 := by omega
      have EF : sF.toInt = (u2.toInt + 1 * st.toInt) % 8 := by rw [hsF]; exact own_s8 u2 st 1
      obtain ⟨jF, hjF⟩ : ∃ j : Nat, sF.toInt = (j : Int) := ⟨sF.toInt.toNat, by omega⟩
      have hlF : jF < 8 := by omega
      have hne0_F : j0 ≠ jF := by omega
      clear hM
      refine g_new w [("tidestone/parquet/HashSlots", "slots", "[I", .null), ("tidestone/parquet/HashSlots", "taken", "I", (.int (0 : Int32)))] at_95 4 rfl 5 rfl 6 rfl (FOk.cons (Or.inl (w.hw (k := 15) rfl)) (ty := (.array .int)) (by decide) rfl (FOk.cons (Or.inl (w.hw (k := 22) rfl)) (ty := .int) (by decide) rfl trivial)) (by decide) (by decide) (by decide) 98 rfl (fun T b8 w => ?_)
      replace w := w.to (L' := [(b8, O_HashSlots .null (.int (0 : Int32)))]) rfl
      refine g_dup w at_98 rfl 99 rfl ?_
      refine g_iload w at_99 rfl 101 rfl ?_
      refine g_ctor w (argsL := [(.int (8 : Int32))]) (rest := [(.ref b8)]) (rm2 l Z a0 hw n0 b8 (8 : Int32) 8 (by decide) (by decide)) at_101 7 rfl 8 rfl 6 rfl 9 rfl rfl ⟨by decide, by decide⟩ pd_1 rfl rfl rfl 1 rfl (by decide) (by decide) (by decide) (by decide) 104 rfl (fun T v L w h => ?_)
      obtain ⟨rfl, ar, rfl⟩ := h
      refine g_astore w at_104 106 rfl rfl #[.val (.int u0), .val (.int u1), .val (.int u2), .val (.int u3), .val (.int (8 : Int32)), .val (.int (7 : Int32)), .val (.int (1 : Int32)), .val (.int st), .val (.int s0), .val (.int s1), .val (.int s2), .val (.int s3), .val (.int s4), .val (.int sF), .val (.ref b8), .unset] rfl ?_
      refine g_iconst w at_106 (1 : Int32) rfl 107 rfl ?_
      refine g_istore w at_107 109 rfl rfl #[.val (.int u0), .val (.int u1), .val (.int u2), .val (.int u3), .val (.int (8 : Int32)), .val (.int (7 : Int32)), .val (.int (1 : Int32)), .val (.int st), .val (.int s0), .val (.int s1), .val (.int s2), .val (.int s3), .val (.int s4), .val (.int sF), .val (.ref b8), .val (.int (1 : Int32))] rfl ?_
      refine g_iload w at_109 rfl 111 rfl ?_
      refine g_if_le w at_111 148 (by decide) (by decide) 114 rfl (fun h => absurd (by decide) h) (fun hc111 => ?_)
      refine g_iload w at_114 rfl 116 rfl ?_
      refine g_if_eq w at_116 145 (by decide) (by decide) 119 rfl (fun h => absurd h (by decide)) (fun hc116 => ?_)
      refine g_aload w at_119 rfl rfl 121 rfl ?_
      refine g_iload w at_121 rfl 123 rfl ?_
      refine g_iconst w at_123 (0 : Int32) rfl 124 rfl ?_
      refine g_virt w (argsL := [(.int s0), (.int (0 : Int32))]) (rest := []) (rm4 l Z a0 hw n0 b8 ar s0 (0 : Int32) (0 : Int32) (8 : Int32) (List.replicate 8 (.int (0 : Int32))) j0 hj0 (by simpa using hl0) (by simp only [List.length_set, List.length_replicate]; rfl)) at_124 0 rfl 16 rfl 17 rfl 6 rfl 20 rfl 19 rfl 18 rfl ⟨by decide, by decide⟩ pd_2 rfl rfl rfl 0 rfl (by decide) (by decide) (by decide) (by decide) 127 rfl (fun T v L w h => ?_)
      obtain ⟨rfl, rfl⟩ := h
      refine g_int (x' := (0 : Int32)) (by decide) ?_
      replace w := w.to (L' := [(b8, O_HashSlots (.ref ar) (.int (1 : Int32))), (ar, .inr (.int, (List.replicate 8 (.int (0 : Int32))).set j0 (.int ((0 : Int32) + 1))))]) rfl
      refine g_iconst w at_127 (2 : Int32) rfl 128 rfl ?_
      refine g_iload w at_128 rfl 130 rfl ?_
      refine g_icmp_le w at_130 137 (by decide) (by decide) 133 rfl (fun hc130 => ?_) (fun h => absurd h (by decide))
      refine g_iconst w at_137 (0 : Int32) rfl 138 rfl ?_
      refine g_icmp_ne w at_138 145 (by decide) (by decide) 141 rfl (fun h => absurd (by decide) h) (fun hc138 => ?_)
      refine g_iconst w at_141 (1 : Int32) rfl 142 rfl ?_
      refine g_goto w at_142 146 (by decide) (by decide) ?_
      refine g_istore w at_146 148 rfl rfl #[.val (.int u0), .val (.int u1), .val (.int u2), .val (.int u3), .val (.int (8 : Int32)), .val (.int (7 : Int32)), .val (.int (1 : Int32)), .val (.int st), .val (.int s0), .val (.int s1), .val (.int s2), .val (.int s3), .val (.int s4), .val (.int sF), .val (.ref b8), .val (.int (1 : Int32))] rfl ?_
      refine g_iload w at_148 rfl 150 rfl ?_
      refine g_iconst w at_150 (1 : Int32) rfl 151 rfl ?_
      refine g_icmp_le w at_151 188 (by decide) (by decide) 154 rfl (fun hc151 => ?_) (fun h => absurd h (by decide))
      refine g_iload w at_188 rfl 190 rfl ?_
      refine g_iconst w at_190 (2 : Int32) rfl 191 rfl ?_
      refine g_icmp_le w at_191 229 (by decide) (by decide) 194 rfl (fun hc191 => ?_) (fun h => absurd h (by decide))
      refine g_iload w at_229 rfl 231 rfl ?_
      refine g_iconst w at_231 (3 : Int32) rfl 232 rfl ?_
      refine g_icmp_le w at_232 270 (by decide) (by decide) 235 rfl (fun hc232 => ?_) (fun h => absurd h (by decide))
      refine g_iload w at_270 rfl 272 rfl ?_
      refine g_iconst w at_272 (4 : Int32) rfl 273 rfl ?_
      refine g_icmp_le w at_273 311 (by decide) (by decide) 276 rfl (fun hc273 => ?_) (fun h => absurd h (by decide))
      refine g_iload w at_311 rfl 313 rfl ?_
      refine g_if_le w at_313 338 (by decide) (by decide) 316 rfl (fun h => absurd (by decide) h) (fun hc313 => ?_)
      refine g_iload w at_316 rfl 318 rfl ?_
      refine g_if_eq w at_318 335 (by decide) (by decide) 321 rfl (fun h => absurd h (by decide)) (fun hc318 => ?_)
      refine g_aload w at_321 rfl rfl 323 rfl ?_
      refine g_iload w at_323 rfl 325 rfl ?_
      refine g_virt w (argsL := [(.int s0)]) (rest := []) (rm5 l Z a0 hw n0 b8 ar s0 (1 : Int32) ((0 : Int32) + 1) ((List.replicate 8 (.int (0 : Int32))).set j0 (.int ((0 : Int32) + 1))) j0 hj0 (List.getElem?_set_self (by simpa using hl0))) at_325 0 rfl 23 rfl 24 rfl 6 rfl 27 rfl 26 rfl 25 rfl ⟨by decide, by decide⟩ pd_3 rfl rfl rfl 0 rfl (by decide) (by decide) (by decide) (by decide) 328 rfl (fun T v L w h => ?_)
      obtain ⟨rfl, rfl⟩ := h
      refine g_int (x' := (0 : Int32)) (by decide) ?_
      refine g_if_ne w at_328 335 (by decide) (by decide) 331 rfl (fun h => absurd (by decide) h) (fun hc328 => ?_)
      refine g_iconst w at_331 (1 : Int32) rfl 332 rfl ?_
      refine g_goto w at_332 336 (by decide) (by decide) ?_
      refine g_istore w at_336 338 rfl rfl #[.val (.int u0), .val (.int u1), .val (.int u2), .val (.int u3), .val (.int (8 : Int32)), .val (.int (7 : Int32)), .val (.int (1 : Int32)), .val (.int st), .val (.int s0), .val (.int s1), .val (.int s2), .val (.int s3), .val (.int s4), .val (.int sF), .val (.ref b8), .val (.int (1 : Int32))] rfl ?_
      refine g_iload w at_338 rfl 340 rfl ?_
      refine g_iconst w at_340 (1 : Int32) rfl 341 rfl ?_
      refine g_icmp_le w at_341 367 (by decide) (by decide) 344 rfl (fun hc341 => ?_) (fun h => absurd h (by decide))
      refine g_iload w at_367 rfl 369 rfl ?_
      refine g_iconst w at_369 (2 : Int32) rfl 370 rfl ?_
      refine g_icmp_le w at_370 396 (by decide) (by decide) 373 rfl (fun hc370 => ?_) (fun h => absurd h (by decide))
      refine g_iload w at_396 rfl 398 rfl ?_
      refine g_iconst w at_398 (3 : Int32) rfl 399 rfl ?_
      refine g_icmp_le w at_399 425 (by decide) (by decide) 402 rfl (fun hc399 => ?_) (fun h => absurd h (by decide))
      refine g_iload w at_425 rfl 427 rfl ?_
      refine g_iconst w at_427 (4 : Int32) rfl 428 rfl ?_
      refine g_icmp_le w at_428 454 (by decide) (by decide) 431 rfl (fun hc428 => ?_) (fun h => absurd h (by decide))
      refine g_iload w at_454 rfl 456 rfl ?_
      refine g_iload w at_456 rfl 458 rfl ?_
      refine g_icmp_ge w at_458 484 (by decide) (by decide) 461 rfl (fun h => absurd (by decide) h) (fun hc458 => ?_)
      refine g_iload w at_461 rfl 463 rfl ?_
      refine g_if_eq w at_463 481 (by decide) (by decide) 466 rfl (fun h => absurd h (by decide)) (fun hc463 => ?_)
      refine g_aload w at_466 rfl rfl 468 rfl ?_
      refine g_iload w at_468 rfl 470 rfl ?_
      refine g_virt w (argsL := [(.int sF)]) (rest := []) (rm5 l Z a0 hw n0 b8 ar sF (1 : Int32) (0 : Int32) ((List.replicate 8 (.int (0 : Int32))).set j0 (.int ((0 : Int32) + 1))) jF hjF ((List.getElem?_set_ne hne0_F).trans (List.getElem?_replicate_of_lt hlF))) at_470 0 rfl 23 rfl 24 rfl 6 rfl 27 rfl 26 rfl 25 rfl ⟨by decide, by decide⟩ pd_3 rfl rfl rfl 0 rfl (by decide) (by decide) (by decide) (by decide) 473 rfl (fun T v L w h => ?_)
      obtain ⟨rfl, rfl⟩ := h
      refine g_int (x' := (-1 : Int32)) (by decide) ?_
      refine g_iconst w at_473 (-1 : Int32) rfl 474 rfl ?_
      refine g_icmp_ne w at_474 481 (by decide) (by decide) 477 rfl (fun h => absurd (by decide) h) (fun hc474 => ?_)
      refine g_iconst w at_477 (1 : Int32) rfl 478 rfl ?_
      refine g_goto w at_478 482 (by decide) (by decide) ?_
      refine g_istore w at_482 484 rfl rfl #[.val (.int u0), .val (.int u1), .val (.int u2), .val (.int u3), .val (.int (8 : Int32)), .val (.int (7 : Int32)), .val (.int (1 : Int32)), .val (.int st), .val (.int s0), .val (.int s1), .val (.int s2), .val (.int s3), .val (.int s4), .val (.int sF), .val (.ref b8), .val (.int (1 : Int32))] rfl ?_
      refine g_iload w at_484 rfl 486 rfl ?_
      exact g_iretn w (by simp) at_486 (by decide) (by decide) rfl
    · -- pc 28 c = 2
      refine g_int (x' := (2 : Int32)) hcc ?_
      refine g_istore w at_28 30 rfl rfl #[.val (.int u0), .val (.int u1), .val (.int u2), .val (.int u3), .val (.int (8 : Int32)), .val (.int (7 : Int32)), .val (.int (2 : Int32)), .unset, .unset, .unset, .unset, .unset, .unset, .unset, .unset, .unset] rfl ?_
      refine g_iloadN w at_30 rfl 31 rfl ?_
      refine g_iconst w at_31 (1 : Int32) rfl 32 rfl ?_
      refine g_ior w at_32 33 rfl ?_
      obtain ⟨st, hst⟩ : ∃ z, z = ((u3 ||| (1 : Int32)) : Int32) := ⟨_, rfl⟩
      refine g_istore w at_33 35 rfl hst.symm #[.val (.int u0), .val (.int u1), .val (.int u2), .val (.int u3), .val (.int (8 : Int32)), .val (.int (7 : Int32)), .val (.int (2 : Int32)), .val (.int st), .unset, .unset, .unset, .unset, .unset, .unset, .unset, .unset] rfl ?_
      refine g_iloadN w at_35 rfl 36 rfl ?_
      refine g_iload w at_36 rfl 38 rfl ?_
      refine g_iand w at_38 39 rfl ?_
      obtain ⟨s0, hs0⟩ : ∃ z, z = ((u2 &&& (7 : Int32)) : Int32) := ⟨_, rfl⟩
      refine g_istore w at_39 41 rfl hs0.symm #[.val (.int u0), .val (.int u1), .val (.int u2), .val (.int u3), .val (.int (8 : Int32)), .val (.int (7 : Int32)), .val (.int (2 : Int32)), .val (.int st), .val (.int s0), .unset, .unset, .unset, .unset, .unset, .unset, .unset] rfl ?_
      refine g_iloadN w at_41 rfl 42 rfl ?_
      refine g_iload w at_42 rfl 44 rfl ?_
      refine g_iadd w at_44 45 rfl ?_
      refine g_iload w at_45 rfl 47 rfl ?_
      refine g_iand w at_47 48 rfl ?_
      obtain ⟨s1, hs1⟩ : ∃ z, z = (((u2 + st) &&& (7 : Int32)) : Int32) := ⟨_, rfl⟩
      refine g_istore w at_48 50 rfl hs1.symm #[.val (.int u0), .val (.int u1), .val (.int u2), .val (.int u3), .val (.int (8 : Int32)), .val (.int (7 : Int32)), .val (.int (2 : Int32)), .val (.int st), .val (.int s0), .val (.int s1), .unset, .unset, .unset, .unset, .unset, .unset] rfl ?_
      refine g_iloadN w at_50 rfl 51 rfl ?_
      refine g_iconst w at_51 (2 : Int32) rfl 52 rfl ?_
      refine g_iload w at_52 rfl 54 rfl ?_
      refine g_imul w at_54 55 rfl ?_
      refine g_iadd w at_55 56 rfl ?_
      refine g_iload w at_56 rfl 58 rfl ?_
      refine g_iand w at_58 59 rfl ?_
      obtain ⟨s2, hs2⟩ : ∃ z, z = (((u2 + ((2 : Int32) * st)) &&& (7 : Int32)) : Int32) := ⟨_, rfl⟩
      refine g_istore w at_59 61 rfl hs2.symm #[.val (.int u0), .val (.int u1), .val (.int u2), .val (.int u3), .val (.int (8 : Int32)), .val (.int (7 : Int32)), .val (.int (2 : Int32)), .val (.int st), .val (.int s0), .val (.int s1), .val (.int s2), .unset, .unset, .unset, .unset, .unset] rfl ?_
      refine g_iloadN w at_61 rfl 62 rfl ?_
      refine g_iconst w at_62 (3 : Int32) rfl 63 rfl ?_
      refine g_iload w at_63 rfl 65 rfl ?_
      refine g_imul w at_65 66 rfl ?_
      refine g_iadd w at_66 67 rfl ?_
      refine g_iload w at_67 rfl 69 rfl ?_
      refine g_iand w at_69 70 rfl ?_
      obtain ⟨s3, hs3⟩ : ∃ z, z = (((u2 + ((3 : Int32) * st)) &&& (7 : Int32)) : Int32) := ⟨_, rfl⟩
      refine g_istore w at_70 72 rfl hs3.symm #[.val (.int u0), .val (.int u1), .val (.int u2), .val (.int u3), .val (.int (8 : Int32)), .val (.int (7 : Int32)), .val (.int (2 : Int32)), .val (.int st), .val (.int s0), .val (.int s1), .val (.int s2), .val (.int s3), .unset, .unset, .unset, .unset] rfl ?_
      refine g_iloadN w at_72 rfl 73 rfl ?_
      refine g_iconst w at_73 (4 : Int32) rfl 74 rfl ?_
      refine g_iload w at_74 rfl 76 rfl ?_
      refine g_imul w at_76 77 rfl ?_
      refine g_iadd w at_77 78 rfl ?_
      refine g_iload w at_78 rfl 80 rfl ?_
      refine g_iand w at_80 81 rfl ?_
      obtain ⟨s4, hs4⟩ : ∃ z, z = (((u2 + ((4 : Int32) * st)) &&& (7 : Int32)) : Int32) := ⟨_, rfl⟩
      refine g_istore w at_81 83 rfl hs4.symm #[.val (.int u0), .val (.int u1), .val (.int u2), .val (.int u3), .val (.int (8 : Int32)), .val (.int (7 : Int32)), .val (.int (2 : Int32)), .val (.int st), .val (.int s0), .val (.int s1), .val (.int s2), .val (.int s3), .val (.int s4), .unset, .unset, .unset] rfl ?_
      refine g_iloadN w at_83 rfl 84 rfl ?_
      refine g_iload w at_84 rfl 86 rfl ?_
      refine g_iload w at_86 rfl 88 rfl ?_
      refine g_imul w at_88 89 rfl ?_
      refine g_iadd w at_89 90 rfl ?_
      refine g_iload w at_90 rfl 92 rfl ?_
      refine g_iand w at_92 93 rfl ?_
      obtain ⟨sF, hsF⟩ : ∃ z, z = (((u2 + ((2 : Int32) * st)) &&& (7 : Int32)) : Int32) := ⟨_, rfl⟩
      refine g_istore w at_93 95 rfl hsF.symm #[.val (.int u0), .val (.int u1), .val (.int u2), .val (.int u3), .val (.int (8 : Int32)), .val (.int (7 : Int32)), .val (.int (2 : Int32)), .val (.int st), .val (.int s0), .val (.int s1), .val (.int s2), .val (.int s3), .val (.int s4), .val (.int sF), .unset, .unset] rfl ?_
      have hodd : st.toInt % 2 = 1 := by rw [hst]; exact own_odd u3
      have hM := c_mask u2 7 3 (by decide) (by decide)
      have E0 : s0.toInt = u2.toInt % 8 := by rw [hs0]; omega
      obtain ⟨j0, hj0⟩ : ∃ j : Nat, s0.toInt = (j : Int) := ⟨s0.toInt.toNat, by omega⟩
      have hl0 : j0 < 8 := by omega
      have E1 : s1.toInt = (u2.toInt + st.toInt) % 8 := by rw [hs1]; exact own_t8 u2 st
      obtain ⟨j1, hj1⟩ : ∃ j : Nat, s1.toInt = (j : Int) := ⟨s1.toInt.toNat, by omega⟩
      have hl1 : j1 < 8 := by omega
      have EF : sF.toInt = (u2.toInt + 2 * st.toInt) % 8 := by rw [hsF]; exact own_s8 u2 st 2
      obtain ⟨jF, hjF⟩ : ∃ j : Nat, sF.toInt = (j : Int) := ⟨sF.toInt.toNat, by omega⟩
      have hlF : jF < 8 := by omega
      have hne0_F : j0 ≠ jF := by omega
      have hne1_0 : j1 ≠ j0 := by omega
      have hne1_F : j1 ≠ jF := by omega
      clear hM
      refine g_new w [("tidestone/parquet/HashSlots", "slots", "[I", .null), ("tidestone/parquet/HashSlots", "taken", "I", (.int (0 : Int32)))] at_95 4 rfl 5 rfl 6 rfl (FOk.cons (Or.inl (w.hw (k := 15) rfl)) (ty := (.array .int)) (by decide) rfl (FOk.cons (Or.inl (w.hw (k := 22) rfl)) (ty := .int) (by decide) rfl trivial)) (by decide) (by decide) (by decide) 98 rfl (fun T b9 w => ?_)
      replace w := w.to (L' := [(b9, O_HashSlots .null (.int (0 : Int32)))]) rfl
      refine g_dup w at_98 rfl 99 rfl ?_
      refine g_iload w at_99 rfl 101 rfl ?_
      refine g_ctor w (argsL := [(.int (8 : Int32))]) (rest := [(.ref b9)]) (rm2 l Z a0 hw n0 b9 (8 : Int32) 8 (by decide) (by decide)) at_101 7 rfl 8 rfl 6 rfl 9 rfl rfl ⟨by decide, by decide⟩ pd_1 rfl rfl rfl 1 rfl (by decide) (by decide) (by decide) (by decide) 104 rfl (fun T v L w h => ?_)
      obtain ⟨rfl, ar, rfl⟩ := h
      refine g_astore w at_104 106 rfl rfl #[.val (.int u0), .val (.int u1), .val (.int u2), .val (.int u3), .val (.int (8 : Int32)), .val (.int (7 : Int32)), .val (.int (2 : Int32)), .val (.int st), .val (.int s0), .val (.int s1), .val (.int s2), .val (.int s3), .val (.int s4), .val (.int sF), .val (.ref b9), .unset] rfl ?_
      refine g_iconst w at_106 (1 : Int32) rfl 107 rfl ?_
      refine g_istore w at_107 109 rfl rfl #[.val (.int u0), .val (.int u1), .val (.int u2), .val (.int u3), .val (.int (8 : Int32)), .val (.int (7 : Int32)), .val (.int (2 : Int32)), .val (.int st), .val (.int s0), .val (.int s1), .val (.int s2), .val (.int s3), .val (.int s4), .val (.int sF), .val (.ref b9), .val (.int (1 : Int32))] rfl ?_
      refine g_iload w at_109 rfl 111 rfl ?_
      refine g_if_le w at_111 148 (by decide) (by decide) 114 rfl (fun h => absurd (by decide) h) (fun hc111 => ?_)
      refine g_iload w at_114 rfl 116 rfl ?_
      refine g_if_eq w at_116 145 (by decide) (by decide) 119 rfl (fun h => absurd h (by decide)) (fun hc116 => ?_)
      refine g_aload w at_119 rfl rfl 121 rfl ?_
      refine g_iload w at_121 rfl 123 rfl ?_
      refine g_iconst w at_123 (0 : Int32) rfl 124 rfl ?_
      refine g_virt w (argsL := [(.int s0), (.int (0 : Int32))]) (rest := []) (rm4 l Z a0 hw n0 b9 ar s0 (0 : Int32) (0 : Int32) (8 : Int32) (List.replicate 8 (.int (0 : Int32))) j0 hj0 (by simpa using hl0) (by simp only [List.length_set, List.length_replicate]; rfl)) at_124 0 rfl 16 rfl 17 rfl 6 rfl 20 rfl 19 rfl 18 rfl ⟨by decide, by decide⟩ pd_2 rfl rfl rfl 0 rfl (by decide) (by decide) (by decide) (by decide) 127 rfl (fun T v L w h => ?_)
      obtain ⟨rfl, rfl⟩ := h
      refine g_int (x' := (0 : Int32)) (by decide) ?_
      replace w := w.to (L' := [(b9, O_HashSlots (.ref ar) (.int (1 : Int32))), (ar, .inr (.int, (List.replicate 8 (.int (0 : Int32))).set j0 (.int ((0 : Int32) + 1))))]) rfl
      refine g_iconst w at_127 (2 : Int32) rfl 128 rfl ?_
      refine g_iload w at_128 rfl 130 rfl ?_
      refine g_icmp_le w at_130 137 (by decide) (by decide) 133 rfl (fun hc130 => ?_) (fun h => absurd h (by decide))
      refine g_iconst w at_137 (0 : Int32) rfl 138 rfl ?_
      refine g_icmp_ne w at_138 145 (by decide) (by decide) 141 rfl (fun h => absurd (by decide) h) (fun hc138 => ?_)
      refine g_iconst w at_141 (1 : Int32) rfl 142 rfl ?_
      refine g_goto w at_142 146 (by decide) (by decide) ?_
      refine g_istore w at_146 148 rfl rfl #[.val (.int u0), .val (.int u1), .val (.int u2), .val (.int u3), .val (.int (8 : Int32)), .val (.int (7 : Int32)), .val (.int (2 : Int32)), .val (.int st), .val (.int s0), .val (.int s1), .val (.int s2), .val (.int s3), .val (.int s4), .val (.int sF), .val (.ref b9), .val (.int (1 : Int32))] rfl ?_
      refine g_iload w at_148 rfl 150 rfl ?_
      refine g_iconst w at_150 (1 : Int32) rfl 151 rfl ?_
      refine g_icmp_le w at_151 188 (by decide) (by decide) 154 rfl (fun h => absurd (by decide) h) (fun hc151 => ?_)
      refine g_iload w at_154 rfl 156 rfl ?_
      refine g_if_eq w at_156 185 (by decide) (by decide) 159 rfl (fun h => absurd h (by decide)) (fun hc156 => ?_)
      refine g_aload w at_159 rfl rfl 161 rfl ?_
      refine g_iload w at_161 rfl 163 rfl ?_
      refine g_iconst w at_163 (1 : Int32) rfl 164 rfl ?_
      refine g_virt w (argsL := [(.int s1), (.int (1 : Int32))]) (rest := []) (rm4 l Z a0 hw n0 b9 ar s1 (1 : Int32) (1 : Int32) (8 : Int32) ((List.replicate 8 (.int (0 : Int32))).set j0 (.int ((0 : Int32) + 1))) j1 hj1 (by simpa using hl1) (by simp only [List.length_set, List.length_replicate]; rfl)) at_164 0 rfl 16 rfl 17 rfl 6 rfl 20 rfl 19 rfl 18 rfl ⟨by decide, by decide⟩ pd_2 rfl rfl rfl 0 rfl (by decide) (by decide) (by decide) (by decide) 167 rfl (fun T v L w h => ?_)
      obtain ⟨rfl, rfl⟩ := h
      refine g_int (x' := (0 : Int32)) (by decide) ?_
      replace w := w.to (L' := [(b9, O_HashSlots (.ref ar) (.int (2 : Int32))), (ar, .inr (.int, ((List.replicate 8 (.int (0 : Int32))).set j0 (.int ((0 : Int32) + 1))).set j1 (.int ((1 : Int32) + 1))))]) rfl
      refine g_iconst w at_167 (4 : Int32) rfl 168 rfl ?_
      refine g_iload w at_168 rfl 170 rfl ?_
      refine g_icmp_le w at_170 177 (by decide) (by decide) 173 rfl (fun hc170 => ?_) (fun h => absurd h (by decide))
      refine g_iconst w at_177 (0 : Int32) rfl 178 rfl ?_
      refine g_icmp_ne w at_178 185 (by decide) (by decide) 181 rfl (fun h => absurd (by decide) h) (fun hc178 => ?_)
      refine g_iconst w at_181 (1 : Int32) rfl 182 rfl ?_
      refine g_goto w at_182 186 (by decide) (by decide) ?_
      refine g_istore w at_186 188 rfl rfl #[.val (.int u0), .val (.int u1), .val (.int u2), .val (.int u3), .val (.int (8 : Int32)), .val (.int (7 : Int32)), .val (.int (2 : Int32)), .val (.int st), .val (.int s0), .val (.int s1), .val (.int s2), .val (.int s3), .val (.int s4), .val (.int sF), .val (.ref b9), .val (.int (1 : Int32))] rfl ?_
      refine g_iload w at_188 rfl 190 rfl ?_
      refine g_iconst w at_190 (2 : Int32) rfl 191 rfl ?_
      refine g_icmp_le w at_191 229 (by decide) (by decide) 194 rfl (fun hc191 => ?_) (fun h => absurd h (by decide))
      refine g_iload w at_229 rfl 231 rfl ?_
      refine g_iconst w at_231 (3 : Int32) rfl 232 rfl ?_
      refine g_icmp_le w at_232 270 (by decide) (by decide) 235 rfl (fun hc232 => ?_) (fun h => absurd h (by decide))
      refine g_iload w at_270 rfl 272 rfl ?_
      refine g_iconst w at_272 (4 : Int32) rfl 273 rfl ?_
      refine g_icmp_le w at_273 311 (by decide) (by decide) 276 rfl (fun hc273 => ?_) (fun h => absurd h (by decide))
      refine g_iload w at_311 rfl 313 rfl ?_
      refine g_if_le w at_313 338 (by decide) (by decide) 316 rfl (fun h => absurd (by decide) h) (fun hc313 => ?_)
      refine g_iload w at_316 rfl 318 rfl ?_
      refine g_if_eq w at_318 335 (by decide) (by decide) 321 rfl (fun h => absurd h (by decide)) (fun hc318 => ?_)
      refine g_aload w at_321 rfl rfl 323 rfl ?_
      refine g_iload w at_323 rfl 325 rfl ?_
      refine g_virt w (argsL := [(.int s0)]) (rest := []) (rm5 l Z a0 hw n0 b9 ar s0 (2 : Int32) ((0 : Int32) + 1) (((List.replicate 8 (.int (0 : Int32))).set j0 (.int ((0 : Int32) + 1))).set j1 (.int ((1 : Int32) + 1))) j0 hj0 ((List.getElem?_set_ne hne1_0).trans (List.getElem?_set_self (by simpa using hl0)))) at_325 0 rfl 23 rfl 24 rfl 6 rfl 27 rfl 26 rfl 25 rfl ⟨by decide, by decide⟩ pd_3 rfl rfl rfl 0 rfl (by decide) (by decide) (by decide) (by decide) 328 rfl (fun T v L w h => ?_)
      obtain ⟨rfl, rfl⟩ := h
      refine g_int (x' := (0 : Int32)) (by decide) ?_
      refine g_if_ne w at_328 335 (by decide) (by decide) 331 rfl (fun h => absurd (by decide) h) (fun hc328 => ?_)
      refine g_iconst w at_331 (1 : Int32) rfl 332 rfl ?_
      refine g_goto w at_332 336 (by decide) (by decide) ?_
      refine g_istore w at_336 338 rfl rfl #[.val (.int u0), .val (.int u1), .val (.int u2), .val (.int u3), .val (.int (8 : Int32)), .val (.int (7 : Int32)), .val (.int (2 : Int32)), .val (.int st), .val (.int s0), .val (.int s1), .val (.int s2), .val (.int s3), .val (.int s4), .val (.int sF), .val (.ref b9), .val (.int (1 : Int32))] rfl ?_
      refine g_iload w at_338 rfl 340 rfl ?_
      refine g_iconst w at_340 (1 : Int32) rfl 341 rfl ?_
      refine g_icmp_le w at_341 367 (by decide) (by decide) 344 rfl (fun h => absurd (by decide) h) (fun hc341 => ?_)
      refine g_iload w at_344 rfl 346 rfl ?_
      refine g_if_eq w at_346 364 (by decide) (by decide) 349 rfl (fun h => absurd h (by decide)) (fun hc346 => ?_)
      refine g_aload w at_349 rfl rfl 351 rfl ?_
      refine g_iload w at_351 rfl 353 rfl ?_
      refine g_virt w (argsL := [(.int s1)]) (rest := []) (rm5 l Z a0 hw n0 b9 ar s1 (2 : Int32) ((1 : Int32) + 1) (((List.replicate 8 (.int (0 : Int32))).set j0 (.int ((0 : Int32) + 1))).set j1 (.int ((1 : Int32) + 1))) j1 hj1 (List.getElem?_set_self (by simpa using hl1))) at_353 0 rfl 23 rfl 24 rfl 6 rfl 27 rfl 26 rfl 25 rfl ⟨by decide, by decide⟩ pd_3 rfl rfl rfl 0 rfl (by decide) (by decide) (by decide) (by decide) 356 rfl (fun T v L w h => ?_)
      obtain ⟨rfl, rfl⟩ := h
      refine g_int (x' := (1 : Int32)) (by decide) ?_
      refine g_iconst w at_356 (1 : Int32) rfl 357 rfl ?_
      refine g_icmp_ne w at_357 364 (by decide) (by decide) 360 rfl (fun h => absurd (by decide) h) (fun hc357 => ?_)
      refine g_iconst w at_360 (1 : Int32) rfl 361 rfl ?_
      refine g_goto w at_361 365 (by decide) (by decide) ?_
      refine g_istore w at_365 367 rfl rfl #[.val (.int u0), .val (.int u1), .val (.int u2), .val (.int u3), .val (.int (8 : Int32)), .val (.int (7 : Int32)), .val (.int (2 : Int32)), .val (.int st), .val (.int s0), .val (.int s1), .val (.int s2), .val (.int s3), .val (.int s4), .val (.int sF), .val (.ref b9), .val (.int (1 : Int32))] rfl ?_
      refine g_iload w at_367 rfl 369 rfl ?_
      refine g_iconst w at_369 (2 : Int32) rfl 370 rfl ?_
      refine g_icmp_le w at_370 396 (by decide) (by decide) 373 rfl (fun hc370 => ?_) (fun h => absurd h (by decide))
      refine g_iload w at_396 rfl 398 rfl ?_
      refine g_iconst w at_398 (3 : Int32) rfl 399 rfl ?_
      refine g_icmp_le w at_399 425 (by decide) (by decide) 402 rfl (fun hc399 => ?_) (fun h => absurd h (by decide))
      refine g_iload w at_425 rfl 427 rfl ?_
      refine g_iconst w at_427 (4 : Int32) rfl 428 rfl ?_
      refine g_icmp_le w at_428 454 (by decide) (by decide) 431 rfl (fun hc428 => ?_) (fun h => absurd h (by decide))
      refine g_iload w at_454 rfl 456 rfl ?_
      refine g_iload w at_456 rfl 458 rfl ?_
      refine g_icmp_ge w at_458 484 (by decide) (by decide) 461 rfl (fun h => absurd (by decide) h) (fun hc458 => ?_)
      refine g_iload w at_461 rfl 463 rfl ?_
      refine g_if_eq w at_463 481 (by decide) (by decide) 466 rfl (fun h => absurd h (by decide)) (fun hc463 => ?_)
      refine g_aload w at_466 rfl rfl 468 rfl ?_
      refine g_iload w at_468 rfl 470 rfl ?_
      refine g_virt w (argsL := [(.int sF)]) (rest := []) (rm5 l Z a0 hw n0 b9 ar sF (2 : Int32) (0 : Int32) (((List.replicate 8 (.int (0 : Int32))).set j0 (.int ((0 : Int32) + 1))).set j1 (.int ((1 : Int32) + 1))) jF hjF ((List.getElem?_set_ne hne1_F).trans ((List.getElem?_set_ne hne0_F).trans (List.getElem?_replicate_of_lt hlF)))) at_470 0 rfl 23 rfl 24 rfl 6 rfl 27 rfl 26 rfl 25 rfl ⟨by decide, by decide⟩ pd_3 rfl rfl rfl 0 rfl (by decide) (by decide) (by decide) (by decide) 473 rfl (fun T v L w h => ?_)
      obtain ⟨rfl, rfl⟩ := h
      refine g_int (x' := (-1 : Int32)) (by decide) ?_
      refine g_iconst w at_473 (-1 : Int32) rfl 474 rfl ?_
      refine g_icmp_ne w at_474 481 (by decide) (by decide) 477 rfl (fun h => absurd (by decide) h) (fun hc474 => ?_)
      refine g_iconst w at_477 (1 : Int32) rfl 478 rfl ?_
      refine g_goto w at_478 482 (by decide) (by decide) ?_
      refine g_istore w at_482 484 rfl rfl #[.val (.int u0), .val (.int u1), .val (.int u2), .val (.int u3), .val (.int (8 : Int32)), .val (.int (7 : Int32)), .val (.int (2 : Int32)), .val (.int st), .val (.int s0), .val (.int s1), .val (.int s2), .val (.int s3), .val (.int s4), .val (.int sF), .val (.ref b9), .val (.int (1 : Int32))] rfl ?_
      refine g_iload w at_484 rfl 486 rfl ?_
      exact g_iretn w (by simp) at_486 (by decide) (by decide) rfl
    · -- pc 28 c = 3
      refine g_int (x' := (3 : Int32)) hcc ?_
      refine g_istore w at_28 30 rfl rfl #[.val (.int u0), .val (.int u1), .val (.int u2), .val (.int u3), .val (.int (8 : Int32)), .val (.int (7 : Int32)), .val (.int (3 : Int32)), .unset, .unset, .unset, .unset, .unset, .unset, .unset, .unset, .unset] rfl ?_
      refine g_iloadN w at_30 rfl 31 rfl ?_
      refine g_iconst w at_31 (1 : Int32) rfl 32 rfl ?_
      refine g_ior w at_32 33 rfl ?_
      obtain ⟨st, hst⟩ : ∃ z, z = ((u3 ||| (1 : Int32)) : Int32) := ⟨_, rfl⟩
      refine g_istore w at_33 35 rfl hst.symm #[.val (.int u0), .val (.int u1), .val (.int u2), .val (.int u3), .val (.int (8 : Int32)), .val (.int (7 : Int32)), .val (.int (3 : Int32)), .val (.int st), .unset, .unset, .unset, .unset, .unset, .unset, .unset, .unset] rfl ?_
      refine g_iloadN w at_35 rfl 36 rfl ?_
      refine g_iload w at_36 rfl 38 rfl ?_
      refine g_iand w at_38 39 rfl ?_
      obtain ⟨s0, hs0⟩ : ∃ z, z = ((u2 &&& (7 : Int32)) : Int32) := ⟨_, rfl⟩
      refine g_istore w at_39 41 rfl hs0.symm #[.val (.int u0), .val (.int u1), .val (.int u2), .val (.int u3), .val (.int (8 : Int32)), .val (.int (7 : Int32)), .val (.int (3 : Int32)), .val (.int st), .val (.int s0), .unset, .unset, .unset, .unset, .unset, .unset, .unset] rfl ?_
      refine g_iloadN w at_41 rfl 42 rfl ?_
      refine g_iload w at_42 rfl 44 rfl ?_
      refine g_iadd w at_44 45 rfl ?_
      refine g_iload w at_45 rfl 47 rfl ?_
      refine g_iand w at_47 48 rfl ?_
      obtain ⟨s1, hs1⟩ : ∃ z, z = (((u2 + st) &&& (7 : Int32)) : Int32) := ⟨_, rfl⟩
      refine g_istore w at_48 50 rfl hs1.symm #[.val (.int u0), .val (.int u1), .val (.int u2), .val (.int u3), .val (.int (8 : Int32)), .val (.int (7 : Int32)), .val (.int (3 : Int32)), .val (.int st), .val (.int s0), .val (.int s1), .unset, .unset, .unset, .unset, .unset, .unset] rfl ?_
      refine g_iloadN w at_50 rfl 51 rfl ?_
      refine g_iconst w at_51 (2 : Int32) rfl 52 rfl ?_
      refine g_iload w at_52 rfl 54 rfl ?_
      refine g_imul w at_54 55 rfl ?_
      refine g_iadd w at_55 56 rfl ?_
      refine g_iload w at_56 rfl 58 rfl ?_
      refine g_iand w at_58 59 rfl ?_
      obtain ⟨s2, hs2⟩ : ∃ z, z = (((u2 + ((2 : Int32) * st)) &&& (7 : Int32)) : Int32) := ⟨_, rfl⟩
      refine g_istore w at_59 61 rfl hs2.symm #[.val (.int u0), .val (.int u1), .val (.int u2), .val (.int u3), .val (.int (8 : Int32)), .val (.int (7 : Int32)), .val (.int (3 : Int32)), .val (.int st), .val (.int s0), .val (.int s1), .val (.int s2), .unset, .unset, .unset, .unset, .unset] rfl ?_
      refine g_iloadN w at_61 rfl 62 rfl ?_
      refine g_iconst w at_62 (3 : Int32) rfl 63 rfl ?_
      refine g_iload w at_63 rfl 65 rfl ?_
      refine g_imul w at_65 66 rfl ?_
      refine g_iadd w at_66 67 rfl ?_
      refine g_iload w at_67 rfl 69 rfl ?_
      refine g_iand w at_69 70 rfl ?_
      obtain ⟨s3, hs3⟩ : ∃ z, z = (((u2 + ((3 : Int32) * st)) &&& (7 : Int32)) : Int32) := ⟨_, rfl⟩
      refine g_istore w at_70 72 rfl hs3.symm #[.val (.int u0), .val (.int u1), .val (.int u2), .val (.int u3), .val (.int (8 : Int32)), .val (.int (7 : Int32)), .val (.int (3 : Int32)), .val (.int st), .val (.int s0), .val (.int s1), .val (.int s2), .val (.int s3), .unset, .unset, .unset, .unset] rfl ?_
      refine g_iloadN w at_72 rfl 73 rfl ?_
      refine g_iconst w at_73 (4 : Int32) rfl 74 rfl ?_
      refine g_iload w at_74 rfl 76 rfl ?_
      refine g_imul w at_76 77 rfl ?_
      refine g_iadd w at_77 78 rfl ?_
      refine g_iload w at_78 rfl 80 rfl ?_
      refine g_iand w at_80 81 rfl ?_
      obtain ⟨s4, hs4⟩ : ∃ z, z = (((u2 + ((4 : Int32) * st)) &&& (7 : Int32)) : Int32) := ⟨_, rfl⟩
      refine g_istore w at_81 83 rfl hs4.symm #[.val (.int u0), .val (.int u1), .val (.int u2), .val (.int u3), .val (.int (8 : Int32)), .val (.int (7 : Int32)), .val (.int (3 : Int32)), .val (.int st), .val (.int s0), .val (.int s1), .val (.int s2), .val (.int s3), .val (.int s4), .unset, .unset, .unset] rfl ?_
      refine g_iloadN w at_83 rfl 84 rfl ?_
      refine g_iload w at_84 rfl 86 rfl ?_
      refine g_iload w at_86 rfl 88 rfl ?_
      refine g_imul w at_88 89 rfl ?_
      refine g_iadd w at_89 90 rfl ?_
      refine g_iload w at_90 rfl 92 rfl ?_
      refine g_iand w at_92 93 rfl ?_
      obtain ⟨sF, hsF⟩ : ∃ z, z = (((u2 + ((3 : Int32) * st)) &&& (7 : Int32)) : Int32) := ⟨_, rfl⟩
      refine g_istore w at_93 95 rfl hsF.symm #[.val (.int u0), .val (.int u1), .val (.int u2), .val (.int u3), .val (.int (8 : Int32)), .val (.int (7 : Int32)), .val (.int (3 : Int32)), .val (.int st), .val (.int s0), .val (.int s1), .val (.int s2), .val (.int s3), .val (.int s4), .val (.int sF), .unset, .unset] rfl ?_
      have hodd : st.toInt % 2 = 1 := by rw [hst]; exact own_odd u3
      have hM := c_mask u2 7 3 (by decide) (by decide)
      have E0 : s0.toInt = u2.toInt % 8 := by rw [hs0]; omega
      obtain ⟨j0, hj0⟩ : ∃ j : Nat, s0.toInt = (j : Int) := ⟨s0.toInt.toNat, by omega⟩
      have hl0 : j0 < 8 := by omega
      have E1 : s1.toInt = (u2.toInt + st.toInt) % 8 := by rw [hs1]; exact own_t8 u2 st
      obtain ⟨j1, hj1⟩ : ∃ j : Nat, s1.toInt = (j : Int) := ⟨s1.toInt.toNat, by omega⟩
      have hl1 : j1 < 8 := by omega
      have E2 : s2.toInt = (u2.toInt + 2 * st.toInt) % 8 := by rw [hs2]; exact own_s8 u2 st 2
      obtain ⟨j2, hj2⟩ : ∃ j : Nat, s2.toInt = (j : Int) := ⟨s2.toInt.toNat, by omega⟩
      have hl2 : j2 < 8 := by omega
      have EF : sF.toInt = (u2.toInt + 3 * st.toInt) % 8 := by rw [hsF]; exact own_s8 u2 st 3
      obtain ⟨jF, hjF⟩ : ∃ j : Nat, sF.toInt = (j : Int) := ⟨sF.toInt.toNat, by omega⟩
      have hlF : jF < 8 := by omega
      have hne0_F : j0 ≠ jF := by omega
      have hne1_0 : j1 ≠ j0 := by omega
      have hne1_F : j1 ≠ jF := by omega
      have hne2_0 : j2 ≠ j0 := by omega
      have hne2_1 : j2 ≠ j1 := by omega
      have hne2_F : j2 ≠ jF := by omega
      clear hM
      refine g_new w [("tidestone/parquet/HashSlots", "slots", "[I", .null), ("tidestone/parquet/HashSlots", "taken", "I", (.int (0 : Int32)))] at_95 4 rfl 5 rfl 6 rfl (FOk.cons (Or.inl (w.hw (k := 15) rfl)) (ty := (.array .int)) (by decide) rfl (FOk.cons (Or.inl (w.hw (k := 22) rfl)) (ty := .int) (by decide) rfl trivial)) (by decide) (by decide) (by decide) 98 rfl (fun T b10 w => ?_)
      replace w := w.to (L' := [(b10, O_HashSlots .null (.int (0 : Int32)))]) rfl
      refine g_dup w at_98 rfl 99 rfl ?_
      refine g_iload w at_99 rfl 101 rfl ?_
      refine g_ctor w (argsL := [(.int (8 : Int32))]) (rest := [(.ref b10)]) (rm2 l Z a0 hw n0 b10 (8 : Int32) 8 (by decide) (by decide)) at_101 7 rfl 8 rfl 6 rfl 9 rfl rfl ⟨by decide, by decide⟩ pd_1 rfl rfl rfl 1 rfl (by decide) (by decide) (by decide) (by decide) 104 rfl (fun T v L w h => ?_)
      obtain ⟨rfl, ar, rfl⟩ := h
      refine g_astore w at_104 106 rfl rfl #[.val (.int u0), .val (.int u1), .val (.int u2), .val (.int u3), .val (.int (8 : Int32)), .val (.int (7 : Int32)), .val (.int (3 : Int32)), .val (.int st), .val (.int s0), .val (.int s1), .val (.int s2), .val (.int s3), .val (.int s4), .val (.int sF), .val (.ref b10), .unset] rfl ?_
      refine g_iconst w at_106 (1 : Int32) rfl 107 rfl ?_
      refine g_istore w at_107 109 rfl rfl #[.val (.int u0), .val (.int u1), .val (.int u2), .val (.int u3), .val (.int (8 : Int32)), .val (.int (7 : Int32)), .val (.int (3 : Int32)), .val (.int st), .val (.int s0), .val (.int s1), .val (.int s2), .val (.int s3), .val (.int s4), .val (.int sF), .val (.ref b10), .val (.int (1 : Int32))] rfl ?_
      refine g_iload w at_109 rfl 111 rfl ?_
      refine g_if_le w at_111 148 (by decide) (by decide) 114 rfl (fun h => absurd (by decide) h) (fun hc111 => ?_)
      refine g_iload w at_114 rfl 116 rfl ?_
      refine g_if_eq w at_116 145 (by decide) (by decide) 119 rfl (fun h => absurd h (by decide)) (fun hc116 => ?_)
      refine g_aload w at_119 rfl rfl 121 rfl ?_
      refine g_iload w at_121 rfl 123 rfl ?_
      refine g_iconst w at_123 (0 : Int32) rfl 124 rfl ?_
      refine g_virt w (argsL := [(.int s0), (.int (0 : Int32))]) (rest := []) (rm4 l Z a0 hw n0 b10 ar s0 (0 : Int32) (0 : Int32) (8 : Int32) (List.replicate 8 (.int (0 : Int32))) j0 hj0 (by simpa using hl0) (by simp only [List.length_set, List.length_replicate]; rfl)) at_124 0 rfl 16 rfl 17 rfl 6 rfl 20 rfl 19 rfl 18 rfl ⟨by decide, by decide⟩ pd_2 rfl rfl rfl 0 rfl (by decide) (by decide) (by decide) (by decide) 127 rfl (fun T v L w h => ?_)
      obtain ⟨rfl, rfl⟩ := h
      refine g_int (x' := (0 : Int32)) (by decide) ?_
      replace w := w.to (L' := [(b10, O_HashSlots (.ref ar) (.int (1 : Int32))), (ar, .inr (.int, (List.replicate 8 (.int (0 : Int32))).set j0 (.int ((0 : Int32) + 1))))]) rfl
      refine g_iconst w at_127 (2 : Int32) rfl 128 rfl ?_
      refine g_iload w at_128 rfl 130 rfl ?_
      refine g_icmp_le w at_130 137 (by decide) (by decide) 133 rfl (fun hc130 => ?_) (fun h => absurd h (by decide))
      refine g_iconst w at_137 (0 : Int32) rfl 138 rfl ?_
      refine g_icmp_ne w at_138 145 (by decide) (by decide) 141 rfl (fun h => absurd (by decide) h) (fun hc138 => ?_)
      refine g_iconst w at_141 (1 : Int32) rfl 142 rfl ?_
      refine g_goto w at_142 146 (by decide) (by decide) ?_
      refine g_istore w at_146 148 rfl rfl #[.val (.int u0), .val (.int u1), .val (.int u2), .val (.int u3), .val (.int (8 : Int32)), .val (.int (7 : Int32)), .val (.int (3 : Int32)), .val (.int st), .val (.int s0), .val (.int s1), .val (.int s2), .val (.int s3), .val (.int s4), .val (.int sF), .val (.ref b10), .val (.int (1 : Int32))] rfl ?_
      refine g_iload w at_148 rfl 150 rfl ?_
      refine g_iconst w at_150 (1 : Int32) rfl 151 rfl ?_
      refine g_icmp_le w at_151 188 (by decide) (by decide) 154 rfl (fun h => absurd (by decide) h) (fun hc151 => ?_)
      refine g_iload w at_154 rfl 156 rfl ?_
      refine g_if_eq w at_156 185 (by decide) (by decide) 159 rfl (fun h => absurd h (by decide)) (fun hc156 => ?_)
      refine g_aload w at_159 rfl rfl 161 rfl ?_
      refine g_iload w at_161 rfl 163 rfl ?_
      refine g_iconst w at_163 (1 : Int32) rfl 164 rfl ?_
      refine g_virt w (argsL := [(.int s1), (.int (1 : Int32))]) (rest := []) (rm4 l Z a0 hw n0 b10 ar s1 (1 : Int32) (1 : Int32) (8 : Int32) ((List.replicate 8 (.int (0 : Int32))).set j0 (.int ((0 : Int32) + 1))) j1 hj1 (by simpa using hl1) (by simp only [List.length_set, List.length_replicate]; rfl)) at_164 0 rfl 16 rfl 17 rfl 6 rfl 20 rfl 19 rfl 18 rfl ⟨by decide, by decide⟩ pd_2 rfl rfl rfl 0 rfl (by decide) (by decide) (by decide) (by decide) 167 rfl (fun T v L w h => ?_)
      obtain ⟨rfl, rfl⟩ := h
      refine g_int (x' := (0 : Int32)) (by decide) ?_
      replace w := w.to (L' := [(b10, O_HashSlots (.ref ar) (.int (2 : Int32))), (ar, .inr (.int, ((List.replicate 8 (.int (0 : Int32))).set j0 (.int ((0 : Int32) + 1))).set j1 (.int ((1 : Int32) + 1))))]) rfl
      refine g_iconst w at_167 (4 : Int32) rfl 168 rfl ?_
      refine g_iload w at_168 rfl 170 rfl ?_
      refine g_icmp_le w at_170 177 (by decide) (by decide) 173 rfl (fun hc170 => ?_) (fun h => absurd h (by decide))
      refine g_iconst w at_177 (0 : Int32) rfl 178 rfl ?_
      refine g_icmp_ne w at_178 185 (by decide) (by decide) 181 rfl (fun h => absurd (by decide) h) (fun hc178 => ?_)
      refine g_iconst w at_181 (1 : Int32) rfl 182 rfl ?_
      refine g_goto w at_182 186 (by decide) (by decide) ?_
      refine g_istore w at_186 188 rfl rfl #[.val (.int u0), .val (.int u1), .val (.int u2), .val (.int u3), .val (.int (8 : Int32)), .val (.int (7 : Int32)), .val (.int (3 : Int32)), .val (.int st), .val (.int s0), .val (.int s1), .val (.int s2), .val (.int s3), .val (.int s4), .val (.int sF), .val (.ref b10), .val (.int (1 : Int32))] rfl ?_
      refine g_iload w at_188 rfl 190 rfl ?_
      refine g_iconst w at_190 (2 : Int32) rfl 191 rfl ?_
      refine g_icmp_le w at_191 229 (by decide) (by decide) 194 rfl (fun h => absurd (by decide) h) (fun hc191 => ?_)
      refine g_iload w at_194 rfl 196 rfl ?_
      refine g_if_eq w at_196 226 (by decide) (by decide) 199 rfl (fun h => absurd h (by decide)) (fun hc196 => ?_)
      refine g_aload w at_199 rfl rfl 201 rfl ?_
      refine g_iload w at_201 rfl 203 rfl ?_
      refine g_iconst w at_203 (2 : Int32) rfl 204 rfl ?_
      refine g_virt w (argsL := [(.int s2), (.int (2 : Int32))]) (rest := []) (rm4 l Z a0 hw n0 b10 ar s2 (2 : Int32) (2 : Int32) (8 : Int32) (((List.replicate 8 (.int (0 : Int32))).set j0 (.int ((0 : Int32) + 1))).set j1 (.int ((1 : Int32) + 1))) j2 hj2 (by simpa using hl2) (by simp only [List.length_set, List.length_replicate]; rfl)) at_204 0 rfl 16 rfl 17 rfl 6 rfl 20 rfl 19 rfl 18 rfl ⟨by decide, by decide⟩ pd_2 rfl rfl rfl 0 rfl (by decide) (by decide) (by decide) (by decide) 207 rfl (fun T v L w h => ?_)
      obtain ⟨rfl, rfl⟩ := h
      refine g_int (x' := (0 : Int32)) (by decide) ?_
      replace w := w.to (L' := [(b10, O_HashSlots (.ref ar) (.int (3 : Int32))), (ar, .inr (.int, (((List.replicate 8 (.int (0 : Int32))).set j0 (.int ((0 : Int32) + 1))).set j1 (.int ((1 : Int32) + 1))).set j2 (.int ((2 : Int32) + 1))))]) rfl
      refine g_bipush w at_207 (6 : Int32) rfl 209 rfl ?_
      refine g_iload w at_209 rfl 211 rfl ?_
      refine g_icmp_le w at_211 218 (by decide) (by decide) 214 rfl (fun hc211 => ?_) (fun h => absurd h (by decide))
      refine g_iconst w at_218 (0 : Int32) rfl 219 rfl ?_
      refine g_icmp_ne w at_219 226 (by decide) (by decide) 222 rfl (fun h => absurd (by decide) h) (fun hc219 => ?_)
      refine g_iconst w at_222 (1 : Int32) rfl 223 rfl ?_
      refine g_goto w at_223 227 (by decide) (by decide) ?_
      refine g_istore w at_227 229 rfl rfl #[.val (.int u0), .val (.int u1), .val (.int u2), .val (.int u3), .val (.int (8 : Int32)), .val (.int (7 : Int32)), .val (.int (3 : Int32)), .val (.int st), .val (.int s0), .val (.int s1), .val (.int s2), .val (.int s3), .val (.int s4), .val (.int sF), .val (.ref b10), .val (.int (1 : Int32))] rfl ?_
      refine g_iload w at_229 rfl 231 rfl ?_
      refine g_iconst w at_231 (3 : Int32) rfl 232 rfl ?_
      refine g_icmp_le w at_232 270 (by decide) (by decide) 235 rfl (fun hc232 => ?_) (fun h => absurd h (by decide))
      refine g_iload w at_270 rfl 272 rfl ?_
      refine g_iconst w at_272 (4 : Int32) rfl 273 rfl ?_
      refine g_icmp_le w at_273 311 (by decide) (by decide) 276 rfl (fun hc273 => ?_) (fun h => absurd h (by decide))
      refine g_iload w at_311 rfl 313 rfl ?_
      refine g_if_le w at_313 338 (by decide) (by decide) 316 rfl (fun h => absurd (by decide) h) (fun hc313 => ?_)
      refine g_iload w at_316 rfl 318 rfl ?_
      refine g_if_eq w at_318 335 (by decide) (by decide) 321 rfl (fun h => absurd h (by decide)) (fun hc318 => ?_)
      refine g_aload w at_321 rfl rfl 323 rfl ?_
      refine g_iload w at_323 rfl 325 rfl ?_
      refine g_virt w (argsL := [(.int s0)]) (rest := []) (rm5 l Z a0 hw n0 b10 ar s0 (3 : Int32) ((0 : Int32) + 1) ((((List.replicate 8 (.int (0 : Int32))).set j0 (.int ((0 : Int32) + 1))).set j1 (.int ((1 : Int32) + 1))).set j2 (.int ((2 : Int32) + 1))) j0 hj0 ((List.getElem?_set_ne hne2_0).trans ((List.getElem?_set_ne hne1_0).trans (List.getElem?_set_self (by simpa using hl0))))) at_325 0 rfl 23 rfl 24 rfl 6 rfl 27 rfl 26 rfl 25 rfl ⟨by decide, by decide⟩ pd_3 rfl rfl rfl 0 rfl (by decide) (by decide) (by decide) (by decide) 328 rfl (fun T v L w h => ?_)
      obtain ⟨rfl, rfl⟩ := h
      refine g_int (x' := (0 : Int32)) (by decide) ?_
      refine g_if_ne w at_328 335 (by decide) (by decide) 331 rfl (fun h => absurd (by decide) h) (fun hc328 => ?_)
      refine g_iconst w at_331 (1 : Int32) rfl 332 rfl ?_
      refine g_goto w at_332 336 (by decide) (by decide) ?_
      refine g_istore w at_336 338 rfl rfl #[.val (.int u0), .val (.int u1), .val (.int u2), .val (.int u3), .val (.int (8 : Int32)), .val (.int (7 : Int32)), .val (.int (3 : Int32)), .val (.int st), .val (.int s0), .val (.int s1), .val (.int s2), .val (.int s3), .val (.int s4), .val (.int sF), .val (.ref b10), .val (.int (1 : Int32))] rfl ?_
      refine g_iload w at_338 rfl 340 rfl ?_
      refine g_iconst w at_340 (1 : Int32) rfl 341 rfl ?_
      refine g_icmp_le w at_341 367 (by decide) (by decide) 344 rfl (fun h => absurd (by decide) h) (fun hc341 => ?_)
      refine g_iload w at_344 rfl 346 rfl ?_
      refine g_if_eq w at_346 364 (by decide) (by decide) 349 rfl (fun h => absurd h (by decide)) (fun hc346 => ?_)
      refine g_aload w at_349 rfl rfl 351 rfl ?_
      refine g_iload w at_351 rfl 353 rfl ?_
      refine g_virt w (argsL := [(.int s1)]) (rest := []) (rm5 l Z a0 hw n0 b10 ar s1 (3 : Int32) ((1 : Int32) + 1) ((((List.replicate 8 (.int (0 : Int32))).set j0 (.int ((0 : Int32) + 1))).set j1 (.int ((1 : Int32) + 1))).set j2 (.int ((2 : Int32) + 1))) j1 hj1 ((List.getElem?_set_ne hne2_1).trans (List.getElem?_set_self (by simpa using hl1)))) at_353 0 rfl 23 rfl 24 rfl 6 rfl 27 rfl 26 rfl 25 rfl ⟨by decide, by decide⟩ pd_3 rfl rfl rfl 0 rfl (by decide) (by decide) (by decide) (by decide) 356 rfl (fun T v L w h => ?_)
      obtain ⟨rfl, rfl⟩ := h
      refine g_int (x' := (1 : Int32)) (by decide) ?_
      refine g_iconst w at_356 (1 : Int32) rfl 357 rfl ?_
      refine g_icmp_ne w at_357 364 (by decide) (by decide) 360 rfl (fun h => absurd (by decide) h) (fun hc357 => ?_)
      refine g_iconst w at_360 (1 : Int32) rfl 361 rfl ?_
      refine g_goto w at_361 365 (by decide) (by decide) ?_
      refine g_istore w at_365 367 rfl rfl #[.val (.int u0), .val (.int u1), .val (.int u2), .val (.int u3), .val (.int (8 : Int32)), .val (.int (7 : Int32)), .val (.int (3 : Int32)), .val (.int st), .val (.int s0), .val (.int s1), .val (.int s2), .val (.int s3), .val (.int s4), .val (.int sF), .val (.ref b10), .val (.int (1 : Int32))] rfl ?_
      refine g_iload w at_367 rfl 369 rfl ?_
      refine g_iconst w at_369 (2 : Int32) rfl 370 rfl ?_
      refine g_icmp_le w at_370 396 (by decide) (by decide) 373 rfl (fun h => absurd (by decide) h) (fun hc370 => ?_)
      refine g_iload w at_373 rfl 375 rfl ?_
      refine g_if_eq w at_375 393 (by decide) (by decide) 378 rfl (fun h => absurd h (by decide)) (fun hc375 => ?_)
      refine g_aload w at_378 rfl rfl 380 rfl ?_
      refine g_iload w at_380 rfl 382 rfl ?_
      refine g_virt w (argsL := [(.int s2)]) (rest := []) (rm5 l Z a0 hw n0 b10 ar s2 (3 : Int32) ((2 : Int32) + 1) ((((List.replicate 8 (.int (0 : Int32))).set j0 (.int ((0 : Int32) + 1))).set j1 (.int ((1 : Int32) + 1))).set j2 (.int ((2 : Int32) + 1))) j2 hj2 (List.getElem?_set_self (by simpa using hl2))) at_382 0 rfl 23 rfl 24 rfl 6 rfl 27 rfl 26 rfl 25 rfl ⟨by decide, by decide⟩ pd_3 rfl rfl rfl 0 rfl (by decide) (by decide) (by decide) (by decide) 385 rfl (fun T v L w h => ?_)
      obtain ⟨rfl, rfl⟩ := h
      refine g_int (x' := (2 : Int32)) (by decide) ?_
      refine g_iconst w at_385 (2 : Int32) rfl 386 rfl ?_
      refine g_icmp_ne w at_386 393 (by decide) (by decide) 389 rfl (fun h => absurd (by decide) h) (fun hc386 => ?_)
      refine g_iconst w at_389 (1 : Int32) rfl 390 rfl ?_
      refine g_goto w at_390 394 (by decide) (by decide) ?_
      refine g_istore w at_394 396 rfl rfl #[.val (.int u0), .val (.int u1), .val (.int u2), .val (.int u3), .val (.int (8 : Int32)), .val (.int (7 : Int32)), .val (.int (3 : Int32)), .val (.int st), .val (.int s0), .val (.int s1), .val (.int s2), .val (.int s3), .val (.int s4), .val (.int sF), .val (.ref b10), .val (.int (1 : Int32))] rfl ?_
      refine g_iload w at_396 rfl 398 rfl ?_
      refine g_iconst w at_398 (3 : Int32) rfl 399 rfl ?_
      refine g_icmp_le w at_399 425 (by decide) (by decide) 402 rfl (fun hc399 => ?_) (fun h => absurd h (by decide))
      refine g_iload w at_425 rfl 427 rfl ?_
      refine g_iconst w at_427 (4 : Int32) rfl 428 rfl ?_
      refine g_icmp_le w at_428 454 (by decide) (by decide) 431 rfl (fun hc428 => ?_) (fun h => absurd h (by decide))
      refine g_iload w at_454 rfl 456 rfl ?_
      refine g_iload w at_456 rfl 458 rfl ?_
      refine g_icmp_ge w at_458 484 (by decide) (by decide) 461 rfl (fun h => absurd (by decide) h) (fun hc458 => ?_)
      refine g_iload w at_461 rfl 463 rfl ?_
      refine g_if_eq w at_463 481 (by decide) (by decide) 466 rfl (fun h => absurd h (by decide)) (fun hc463 => ?_)
      refine g_aload w at_466 rfl rfl 468 rfl ?_
      refine g_iload w at_468 rfl 470 rfl ?_
      refine g_virt w (argsL := [(.int sF)]) (rest := []) (rm5 l Z a0 hw n0 b10 ar sF (3 : Int32) (0 : Int32) ((((List.replicate 8 (.int (0 : Int32))).set j0 (.int ((0 : Int32) + 1))).set j1 (.int ((1 : Int32) + 1))).set j2 (.int ((2 : Int32) + 1))) jF hjF ((List.getElem?_set_ne hne2_F).trans ((List.getElem?_set_ne hne1_F).trans ((List.getElem?_set_ne hne0_F).trans (List.getElem?_replicate_of_lt hlF))))) at_470 0 rfl 23 rfl 24 rfl 6 rfl 27 rfl 26 rfl 25 rfl ⟨by decide, by decide⟩ pd_3 rfl rfl rfl 0 rfl (by decide) (by decide) (by decide) (by decide) 473 rfl (fun T v L w h => ?_)
      obtain ⟨rfl, rfl⟩ := h
      refine g_int (x' := (-1 : Int32)) (by decide) ?_
      refine g_iconst w at_473 (-1 : Int32) rfl 474 rfl ?_
      refine g_icmp_ne w at_474 481 (by decide) (by decide) 477 rfl (fun h => absurd (by decide) h) (fun hc474 => ?_)
      refine g_iconst w at_477 (1 : Int32) rfl 478 rfl ?_
      refine g_goto w at_478 482 (by decide) (by decide) ?_
      refine g_istore w at_482 484 rfl rfl #[.val (.int u0), .val (.int u1), .val (.int u2), .val (.int u3), .val (.int (8 : Int32)), .val (.int (7 : Int32)), .val (.int (3 : Int32)), .val (.int st), .val (.int s0), .val (.int s1), .val (.int s2), .val (.int s3), .val (.int s4), .val (.int sF), .val (.ref b10), .val (.int (1 : Int32))] rfl ?_
      refine g_iload w at_484 rfl 486 rfl ?_
      exact g_iretn w (by simp) at_486 (by decide) (by decide) rfl
    · -- pc 28 c = 4
      refine g_int (x' := (4 : Int32)) hcc ?_
      refine g_istore w at_28 30 rfl rfl #[.val (.int u0), .val (.int u1), .val (.int u2), .val (.int u3), .val (.int (8 : Int32)), .val (.int (7 : Int32)), .val (.int (4 : Int32)), .unset, .unset, .unset, .unset, .unset, .unset, .unset, .unset, .unset] rfl ?_
      refine g_iloadN w at_30 rfl 31 rfl ?_
      refine g_iconst w at_31 (1 : Int32) rfl 32 rfl ?_
      refine g_ior w at_32 33 rfl ?_
      obtain ⟨st, hst⟩ : ∃ z, z = ((u3 ||| (1 : Int32)) : Int32) := ⟨_, rfl⟩
      refine g_istore w at_33 35 rfl hst.symm #[.val (.int u0), .val (.int u1), .val (.int u2), .val (.int u3), .val (.int (8 : Int32)), .val (.int (7 : Int32)), .val (.int (4 : Int32)), .val (.int st), .unset, .unset, .unset, .unset, .unset, .unset, .unset, .unset] rfl ?_
      refine g_iloadN w at_35 rfl 36 rfl ?_
      refine g_iload w at_36 rfl 38 rfl ?_
      refine g_iand w at_38 39 rfl ?_
      obtain ⟨s0, hs0⟩ : ∃ z, z = ((u2 &&& (7 : Int32)) : Int32) := ⟨_, rfl⟩
      refine g_istore w at_39 41 rfl hs0.symm #[.val (.int u0), .val (.int u1), .val (.int u2), .val (.int u3), .val (.int (8 : Int32)), .val (.int (7 : Int32)), .val (.int (4 : Int32)), .val (.int st), .val (.int s0), .unset, .unset, .unset, .unset, .unset, .unset, .unset] rfl ?_
      refine g_iloadN w at_41 rfl 42 rfl ?_
      refine g_iload w at_42 rfl 44 rfl ?_
      refine g_iadd w at_44 45 rfl ?_
      refine g_iload w at_45 rfl 47 rfl ?_
      refine g_iand w at_47 48 rfl ?_
      obtain ⟨s1, hs1⟩ : ∃ z, z = (((u2 + st) &&& (7 : Int32)) : Int32) := ⟨_, rfl⟩
      refine g_istore w at_48 50 rfl hs1.symm #[.val (.int u0), .val (.int u1), .val (.int u2), .val (.int u3), .val (.int (8 : Int32)), .val (.int (7 : Int32)), .val (.int (4 : Int32)), .val (.int st), .val (.int s0), .val (.int s1), .unset, .unset, .unset, .unset, .unset, .unset] rfl ?_
      refine g_iloadN w at_50 rfl 51 rfl ?_
      refine g_iconst w at_51 (2 : Int32) rfl 52 rfl ?_
      refine g_iload w at_52 rfl 54 rfl ?_
      refine g_imul w at_54 55 rfl ?_
      refine g_iadd w at_55 56 rfl ?_
      refine g_iload w at_56 rfl 58 rfl ?_
      refine g_iand w at_58 59 rfl ?_
      obtain ⟨s2, hs2⟩ : ∃ z, z = (((u2 + ((2 : Int32) * st)) &&& (7 : Int32)) : Int32) := ⟨_, rfl⟩
      refine g_istore w at_59 61 rfl hs2.symm #[.val (.int u0), .val (.int u1), .val (.int u2), .val (.int u3), .val (.int (8 : Int32)), .val (.int (7 : Int32)), .val (.int (4 : Int32)), .val (.int st), .val (.int s0), .val (.int s1), .val (.int s2), .unset, .unset, .unset, .unset, .unset] rfl ?_
      refine g_iloadN w at_61 rfl 62 rfl ?_
      refine g_iconst w at_62 (3 : Int32) rfl 63 rfl ?_
      refine g_iload w at_63 rfl 65 rfl ?_
      refine g_imul w at_65 66 rfl ?_
      refine g_iadd w at_66 67 rfl ?_
      refine g_iload w at_67 rfl 69 rfl ?_
      refine g_iand w at_69 70 rfl ?_
      obtain ⟨s3, hs3⟩ : ∃ z, z = (((u2 + ((3 : Int32) * st)) &&& (7 : Int32)) : Int32) := ⟨_, rfl⟩
      refine g_istore w at_70 72 rfl hs3.symm #[.val (.int u0), .val (.int u1), .val (.int u2), .val (.int u3), .val (.int (8 : Int32)), .val (.int (7 : Int32)), .val (.int (4 : Int32)), .val (.int st), .val (.int s0), .val (.int s1), .val (.int s2), .val (.int s3), .unset, .unset, .unset, .unset] rfl ?_
      refine g_iloadN w at_72 rfl 73 rfl ?_
      refine g_iconst w at_73 (4 : Int32) rfl 74 rfl ?_
      refine g_iload w at_74 rfl 76 rfl ?_
      refine g_imul w at_76 77 rfl ?_
      refine g_iadd w at_77 78 rfl ?_
      refine g_iload w at_78 rfl 80 rfl ?_
      refine g_iand w at_80 81 rfl ?_
      obtain ⟨s4, hs4⟩ : ∃ z, z = (((u2 + ((4 : Int32) * st)) &&& (7 : Int32)) : Int32) := ⟨_, rfl⟩
      refine g_istore w at_81 83 rfl hs4.symm #[.val (.int u0), .val (.int u1), .val (.int u2), .val (.int u3), .val (.int (8 : Int32)), .val (.int (7 : Int32)), .val (.int (4 : Int32)), .val (.int st), .val (.int s0), .val (.int s1), .val (.int s2), .val (.int s3), .val (.int s4), .unset, .unset, .unset] rfl ?_
      refine g_iloadN w at_83 rfl 84 rfl ?_
      refine g_iload w at_84 rfl 86 rfl ?_
      refine g_iload w at_86 rfl 88 rfl ?_
      refine g_imul w at_88 89 rfl ?_
      refine g_iadd w at_89 90 rfl ?_
      refine g_iload w at_90 rfl 92 rfl ?_
      refine g_iand w at_92 93 rfl ?_
      obtain ⟨sF, hsF⟩ : ∃ z, z = (((u2 + ((4 : Int32) * st)) &&& (7 : Int32)) : Int32) := ⟨_, rfl⟩
      refine g_istore w at_93 95 rfl hsF.symm #[.val (.int u0), .val (.int u1), .val (.int u2), .val (.int u3), .val (.int (8 : Int32)), .val (.int (7 : Int32)), .val (.int (4 : Int32)), .val (.int st), .val (.int s0), .val (.int s1), .val (.int s2), .val (.int s3), .val (.int s4), .val (.int sF), .unset, .unset] rfl ?_
      have hodd : st.toInt % 2 = 1 := by rw [hst]; exact own_odd u3
      have hM := c_mask u2 7 3 (by decide) (by decide)
      have E0 : s0.toInt = u2.toInt % 8 := by rw [hs0]; omega
      obtain ⟨j0, hj0⟩ : ∃ j : Nat, s0.toInt = (j : Int) := ⟨s0.toInt.toNat, by omega⟩
      have hl0 : j0 < 8 := by omega
      have E1 : s1.toInt = (u2.toInt + st.toInt) % 8 := by rw [hs1]; exact own_t8 u2 st
      obtain ⟨j1, hj1⟩ : ∃ j : Nat, s1.toInt = (j : Int) := ⟨s1.toInt.toNat, by omega⟩
      have hl1 : j1 < 8 := by omega
      have E2 : s2.toInt = (u2.toInt + 2 * st.toInt) % 8 := by rw [hs2]; exact own_s8 u2 st 2
      obtain ⟨j2, hj2⟩ : ∃ j : Nat, s2.toInt = (j : Int) := ⟨s2.toInt.toNat, by omega⟩
      have hl2 : j2 < 8 := by omega
      have E3 : s3.toInt = (u2.toInt + 3 * st.toInt) % 8 := by rw [hs3]; exact own_s8 u2 st 3
      obtain ⟨j3, hj3⟩ : ∃ j : Nat, s3.toInt = (j : Int) := ⟨s3.toInt.toNat, by omega⟩
      have hl3 : j3 < 8 := by omega
      have EF : sF.toInt = (u2.toInt + 4 * st.toInt) % 8 := by rw [hsF]; exact own_s8 u2 st 4
      obtain ⟨jF, hjF⟩ : ∃ j : Nat, sF.toInt = (j : Int) := ⟨sF.toInt.toNat, by omega⟩
      have hlF : jF < 8 := by omega
      have hne0_F : j0 ≠ jF := by omega
      have hne1_0 : j1 ≠ j0 := by omega
      have hne1_F : j1 ≠ jF := by omega
      have hne2_0 : j2 ≠ j0 := by omega
      have hne2_1 : j2 ≠ j1 := by omega
      have hne2_F : j2 ≠ jF := by omega
      have hne3_0 : j3 ≠ j0 := by omega
      have hne3_1 : j3 ≠ j1 := by omega
      have hne3_2 : j3 ≠ j2 := by omega
      have hne3_F : j3 ≠ jF := by omega
      clear hM
      refine g_new w [("tidestone/parquet/HashSlots", "slots", "[I", .null), ("tidestone/parquet/HashSlots", "taken", "I", (.int (0 : Int32)))] at_95 4 rfl 5 rfl 6 rfl (FOk.cons (Or.inl (w.hw (k := 15) rfl)) (ty := (.array .int)) (by decide) rfl (FOk.cons (Or.inl (w.hw (k := 22) rfl)) (ty := .int) (by decide) rfl trivial)) (by decide) (by decide) (by decide) 98 rfl (fun T b11 w => ?_)
      replace w := w.to (L' := [(b11, O_HashSlots .null (.int (0 : Int32)))]) rfl
      refine g_dup w at_98 rfl 99 rfl ?_
      refine g_iload w at_99 rfl 101 rfl ?_
      refine g_ctor w (argsL := [(.int (8 : Int32))]) (rest := [(.ref b11)]) (rm2 l Z a0 hw n0 b11 (8 : Int32) 8 (by decide) (by decide)) at_101 7 rfl 8 rfl 6 rfl 9 rfl rfl ⟨by decide, by decide⟩ pd_1 rfl rfl rfl 1 rfl (by decide) (by decide) (by decide) (by decide) 104 rfl (fun T v L w h => ?_)
      obtain ⟨rfl, ar, rfl⟩ := h
      refine g_astore w at_104 106 rfl rfl #[.val (.int u0), .val (.int u1), .val (.int u2), .val (.int u3), .val (.int (8 : Int32)), .val (.int (7 : Int32)), .val (.int (4 : Int32)), .val (.int st), .val (.int s0), .val (.int s1), .val (.int s2), .val (.int s3), .val (.int s4), .val (.int sF), .val (.ref b11), .unset] rfl ?_
      refine g_iconst w at_106 (1 : Int32) rfl 107 rfl ?_
      refine g_istore w at_107 109 rfl rfl #[.val (.int u0), .val (.int u1), .val (.int u2), .val (.int u3), .val (.int (8 : Int32)), .val (.int (7 : Int32)), .val (.int (4 : Int32)), .val (.int st), .val (.int s0), .val (.int s1), .val (.int s2), .val (.int s3), .val (.int s4), .val (.int sF), .val (.ref b11), .val (.int (1 : Int32))] rfl ?_
      refine g_iload w at_109 rfl 111 rfl ?_
      refine g_if_le w at_111 148 (by decide) (by decide) 114 rfl (fun h => absurd (by decide) h) (fun hc111 => ?_)
      refine g_iload w at_114 rfl 116 rfl ?_
      refine g_if_eq w at_116 145 (by decide) (by decide) 119 rfl (fun h => absurd h (by decide)) (fun hc116 => ?_)
      refine g_aload w at_119 rfl rfl 121 rfl ?_
      refine g_iload w at_121 rfl 123 rfl ?_
      refine g_iconst w at_123 (0 : Int32) rfl 124 rfl ?_
      refine g_virt w (argsL := [(.int s0), (.int (0 : Int32))]) (rest := []) (rm4 l Z a0 hw n0 b11 ar s0 (0 : Int32) (0 : Int32) (8 : Int32) (List.replicate 8 (.int (0 : Int32))) j0 hj0 (by simpa using hl0) (by simp only [List.length_set, List.length_replicate]; rfl)) at_124 0 rfl 16 rfl 17 rfl 6 rfl 20 rfl 19 rfl 18 rfl ⟨by decide, by decide⟩ pd_2 rfl rfl rfl 0 rfl (by decide) (by decide) (by decide) (by decide) 127 rfl (fun T v L w h => ?_)
      obtain ⟨rfl, rfl⟩ := h
      refine g_int (x' := (0 : Int32)) (by decide) ?_
      replace w := w.to (L' := [(b11, O_HashSlots (.ref ar) (.int (1 : Int32))), (ar, .inr (.int, (List.replicate 8 (.int (0 : Int32))).set j0 (.int ((0 : Int32) + 1))))]) rfl
      refine g_iconst w at_127 (2 : Int32) rfl 128 rfl ?_
      refine g_iload w at_128 rfl 130 rfl ?_
      refine g_icmp_le w at_130 137 (by decide) (by decide) 133 rfl (fun hc130 => ?_) (fun h => absurd h (by decide))
      refine g_iconst w at_137 (0 : Int32) rfl 138 rfl ?_
      refine g_icmp_ne w at_138 145 (by decide) (by decide) 141 rfl (fun h => absurd (by decide) h) (fun hc138 => ?_)
      refine g_iconst w at_141 (1 : Int32) rfl 142 rfl ?_
      refine g_goto w at_142 146 (by decide) (by decide) ?_
      refine g_istore w at_146 148 rfl rfl #[.val (.int u0), .val (.int u1), .val (.int u2), .val (.int u3), .val (.int (8 : Int32)), .val (.int (7 : Int32)), .val (.int (4 : Int32)), .val (.int st), .val (.int s0), .val (.int s1), .val (.int s2), .val (.int s3), .val (.int s4), .val (.int sF), .val (.ref b11), .val (.int (1 : Int32))] rfl ?_
      refine g_iload w at_148 rfl 150 rfl ?_
      refine g_iconst w at_150 (1 : Int32) rfl 151 rfl ?_
      refine g_icmp_le w at_151 188 (by decide) (by decide) 154 rfl (fun h => absurd (by decide) h) (fun hc151 => ?_)
      refine g_iload w at_154 rfl 156 rfl ?_
      refine g_if_eq w at_156 185 (by decide) (by decide) 159 rfl (fun h => absurd h (by decide)) (fun hc156 => ?_)
      refine g_aload w at_159 rfl rfl 161 rfl ?_
      refine g_iload w at_161 rfl 163 rfl ?_
      refine g_iconst w at_163 (1 : Int32) rfl 164 rfl ?_
      refine g_virt w (argsL := [(.int s1), (.int (1 : Int32))]) (rest := []) (rm4 l Z a0 hw n0 b11 ar s1 (1 : Int32) (1 : Int32) (8 : Int32) ((List.replicate 8 (.int (0 : Int32))).set j0 (.int ((0 : Int32) + 1))) j1 hj1 (by simpa using hl1) (by simp only [List.length_set, List.length_replicate]; rfl)) at_164 0 rfl 16 rfl 17 rfl 6 rfl 20 rfl 19 rfl 18 rfl ⟨by decide, by decide⟩ pd_2 rfl rfl rfl 0 rfl (by decide) (by decide) (by decide) (by decide) 167 rfl (fun T v L w h => ?_)
      obtain ⟨rfl, rfl⟩ := h
      refine g_int (x' := (0 : Int32)) (by decide) ?_
      replace w := w.to (L' := [(b11, O_HashSlots (.ref ar) (.int (2 : Int32))), (ar, .inr (.int, ((List.replicate 8 (.int (0 : Int32))).set j0 (.int ((0 : Int32) + 1))).set j1 (.int ((1 : Int32) + 1))))]) rfl
      refine g_iconst w at_167 (4 : Int32) rfl 168 rfl ?_
      refine g_iload w at_168 rfl 170 rfl ?_
      refine g_icmp_le w at_170 177 (by decide) (by decide) 173 rfl (fun hc170 => ?_) (fun h => absurd h (by decide))
      refine g_iconst w at_177 (0 : Int32) rfl 178 rfl ?_
      refine g_icmp_ne w at_178 185 (by decide) (by decide) 181 rfl (fun h => absurd (by decide) h) (fun hc178 => ?_)
      refine g_iconst w at_181 (1 : Int32) rfl 182 rfl ?_
      refine g_goto w at_182 186 (by decide) (by decide) ?_
      refine g_istore w at_186 188 rfl rfl #[.val (.int u0), .val (.int u1), .val (.int u2), .val (.int u3), .val (.int (8 : Int32)), .val (.int (7 : Int32)), .val (.int (4 : Int32)), .val (.int st), .val (.int s0), .val (.int s1), .val (.int s2), .val (.int s3), .val (.int s4), .val (.int sF), .val (.ref b11), .val (.int (1 : Int32))] rfl ?_
      refine g_iload w at_188 rfl 190 rfl ?_
      refine g_iconst w at_190 (2 : Int32) rfl 191 rfl ?_
      refine g_icmp_le w at_191 229 (by decide) (by decide) 194 rfl (fun h => absurd (by decide) h) (fun hc191 => ?_)
      refine g_iload w at_194 rfl 196 rfl ?_
      refine g_if_eq w at_196 226 (by decide) (by decide) 199 rfl (fun h => absurd h (by decide)) (fun hc196 => ?_)
      refine g_aload w at_199 rfl rfl 201 rfl ?_
      refine g_iload w at_201 rfl 203 rfl ?_
      refine g_iconst w at_203 (2 : Int32) rfl 204 rfl ?_
      refine g_virt w (argsL := [(.int s2), (.int (2 : Int32))]) (rest := []) (rm4 l Z a0 hw n0 b11 ar s2 (2 : Int32) (2 : Int32) (8 : Int32) (((List.replicate 8 (.int (0 : Int32))).set j0 (.int ((0 : Int32) + 1))).set j1 (.int ((1 : Int32) + 1))) j2 hj2 (by simpa using hl2) (by simp only [List.length_set, List.length_replicate]; rfl)) at_204 0 rfl 16 rfl 17 rfl 6 rfl 20 rfl 19 rfl 18 rfl ⟨by decide, by decide⟩ pd_2 rfl rfl rfl 0 rfl (by decide) (by decide) (by decide) (by decide) 207 rfl (fun T v L w h => ?_)
      obtain ⟨rfl, rfl⟩ := h
      refine g_int (x' := (0 : Int32)) (by decide) ?_
      replace w := w.to (L' := [(b11, O_HashSlots (.ref ar) (.int (3 : Int32))), (ar, .inr (.int, (((List.replicate 8 (.int (0 : Int32))).set j0 (.int ((0 : Int32) + 1))).set j1 (.int ((1 : Int32) + 1))).set j2 (.int ((2 : Int32) + 1))))]) rfl
      refine g_bipush w at_207 (6 : Int32) rfl 209 rfl ?_
      refine g_iload w at_209 rfl 211 rfl ?_
      refine g_icmp_le w at_211 218 (by decide) (by decide) 214 rfl (fun hc211 => ?_) (fun h => absurd h (by decide))
      refine g_iconst w at_218 (0 : Int32) rfl 219 rfl ?_
      refine g_icmp_ne w at_219 226 (by decide) (by decide) 222 rfl (fun h => absurd (by decide) h) (fun hc219 => ?_)
      refine g_iconst w at_222 (1 : Int32) rfl 223 rfl ?_
      refine g_goto w at_223 227 (by decide) (by decide) ?_
      refine g_istore w at_227 229 rfl rfl #[.val (.int u0), .val (.int u1), .val (.int u2), .val (.int u3), .val (.int (8 : Int32)), .val (.int (7 : Int32)), .val (.int (4 : Int32)), .val (.int st), .val (.int s0), .val (.int s1), .val (.int s2), .val (.int s3), .val (.int s4), .val (.int sF), .val (.ref b11), .val (.int (1 : Int32))] rfl ?_
      refine g_iload w at_229 rfl 231 rfl ?_
      refine g_iconst w at_231 (3 : Int32) rfl 232 rfl ?_
      refine g_icmp_le w at_232 270 (by decide) (by decide) 235 rfl (fun h => absurd (by decide) h) (fun hc232 => ?_)
      refine g_iload w at_235 rfl 237 rfl ?_
      refine g_if_eq w at_237 267 (by decide) (by decide) 240 rfl (fun h => absurd h (by decide)) (fun hc237 => ?_)
      refine g_aload w at_240 rfl rfl 242 rfl ?_
      refine g_iload w at_242 rfl 244 rfl ?_
      refine g_iconst w at_244 (3 : Int32) rfl 245 rfl ?_
      refine g_virt w (argsL := [(.int s3), (.int (3 : Int32))]) (rest := []) (rm4 l Z a0 hw n0 b11 ar s3 (3 : Int32) (3 : Int32) (8 : Int32) ((((List.replicate 8 (.int (0 : Int32))).set j0 (.int ((0 : Int32) + 1))).set j1 (.int ((1 : Int32) + 1))).set j2 (.int ((2 : Int32) + 1))) j3 hj3 (by simpa using hl3) (by simp only [List.length_set, List.length_replicate]; rfl)) at_245 0 rfl 16 rfl 17 rfl 6 rfl 20 rfl 19 rfl 18 rfl ⟨by decide, by decide⟩ pd_2 rfl rfl rfl 0 rfl (by decide) (by decide) (by decide) (by decide) 248 rfl (fun T v L w h => ?_)
      obtain ⟨rfl, rfl⟩ := h
      refine g_int (x' := (0 : Int32)) (by decide) ?_
      replace w := w.to (L' := [(b11, O_HashSlots (.ref ar) (.int (4 : Int32))), (ar, .inr (.int, ((((List.replicate 8 (.int (0 : Int32))).set j0 (.int ((0 : Int32) + 1))).set j1 (.int ((1 : Int32) + 1))).set j2 (.int ((2 : Int32) + 1))).set j3 (.int ((3 : Int32) + 1))))]) rfl
      refine g_bipush w at_248 (8 : Int32) rfl 250 rfl ?_
      refine g_iload w at_250 rfl 252 rfl ?_
      refine g_icmp_le w at_252 259 (by decide) (by decide) 255 rfl (fun hc252 => ?_) (fun h => absurd h (by decide))
      refine g_iconst w at_259 (0 : Int32) rfl 260 rfl ?_
      refine g_icmp_ne w at_260 267 (by decide) (by decide) 263 rfl (fun h => absurd (by decide) h) (fun hc260 => ?_)
      refine g_iconst w at_263 (1 : Int32) rfl 264 rfl ?_
      refine g_goto w at_264 268 (by decide) (by decide) ?_
      refine g_istore w at_268 270 rfl rfl #[.val (.int u0), .val (.int u1), .val (.int u2), .val (.int u3), .val (.int (8 : Int32)), .val (.int (7 : Int32)), .val (.int (4 : Int32)), .val (.int st), .val (.int s0), .val (.int s1), .val (.int s2), .val (.int s3), .val (.int s4), .val (.int sF), .val (.ref b11), .val (.int (1 : Int32))] rfl ?_
      refine g_iload w at_270 rfl 272 rfl ?_
      refine g_iconst w at_272 (4 : Int32) rfl 273 rfl ?_
      refine g_icmp_le w at_273 311 (by decide) (by decide) 276 rfl (fun hc273 => ?_) (fun h => absurd h (by decide))
      refine g_iload w at_311 rfl 313 rfl ?_
      refine g_if_le w at_313 338 (by decide) (by decide) 316 rfl (fun h => absurd (by decide) h) (fun hc313 => ?_)
      refine g_iload w at_316 rfl 318 rfl ?_
      refine g_if_eq w at_318 335 (by decide) (by decide) 321 rfl (fun h => absurd h (by decide)) (fun hc318 => ?_)
      refine g_aload w at_321 rfl rfl 323 rfl ?_
      refine g_iload w at_323 rfl 325 rfl ?_
      refine g_virt w (argsL := [(.int s0)]) (rest := []) (rm5 l Z a0 hw n0 b11 ar s0 (4 : Int32) ((0 : Int32) + 1) (((((List.replicate 8 (.int (0 : Int32))).set j0 (.int ((0 : Int32) + 1))).set j1 (.int ((1 : Int32) + 1))).set j2 (.int ((2 : Int32) + 1))).set j3 (.int ((3 : Int32) + 1))) j0 hj0 ((List.getElem?_set_ne hne3_0).trans ((List.getElem?_set_ne hne2_0).trans ((List.getElem?_set_ne hne1_0).trans (List.getElem?_set_self (by simpa using hl0)))))) at_325 0 rfl 23 rfl 24 rfl 6 rfl 27 rfl 26 rfl 25 rfl ⟨by decide, by decide⟩ pd_3 rfl rfl rfl 0 rfl (by decide) (by decide) (by decide) (by decide) 328 rfl (fun T v L w h => ?_)
      obtain ⟨rfl, rfl⟩ := h
      refine g_int (x' := (0 : Int32)) (by decide) ?_
      refine g_if_ne w at_328 335 (by decide) (by decide) 331 rfl (fun h => absurd (by decide) h) (fun hc328 => ?_)
      refine g_iconst w at_331 (1 : Int32) rfl 332 rfl ?_
      refine g_goto w at_332 336 (by decide) (by decide) ?_
      refine g_istore w at_336 338 rfl rfl #[.val (.int u0), .val (.int u1), .val (.int u2), .val (.int u3), .val (.int (8 : Int32)), .val (.int (7 : Int32)), .val (.int (4 : Int32)), .val (.int st), .val (.int s0), .val (.int s1), .val (.int s2), .val (.int s3), .val (.int s4), .val (.int sF), .val (.ref b11), .val (.int (1 : Int32))] rfl ?_
      refine g_iload w at_338 rfl 340 rfl ?_
      refine g_iconst w at_340 (1 : Int32) rfl 341 rfl ?_
      refine g_icmp_le w at_341 367 (by decide) (by decide) 344 rfl (fun h => absurd (by decide) h) (fun hc341 => ?_)
      refine g_iload w at_344 rfl 346 rfl ?_
      refine g_if_eq w at_346 364 (by decide) (by decide) 349 rfl (fun h => absurd h (by decide)) (fun hc346 => ?_)
      refine g_aload w at_349 rfl rfl 351 rfl ?_
      refine g_iload w at_351 rfl 353 rfl ?_
      refine g_virt w (argsL := [(.int s1)]) (rest := []) (rm5 l Z a0 hw n0 b11 ar s1 (4 : Int32) ((1 : Int32) + 1) (((((List.replicate 8 (.int (0 : Int32))).set j0 (.int ((0 : Int32) + 1))).set j1 (.int ((1 : Int32) + 1))).set j2 (.int ((2 : Int32) + 1))).set j3 (.int ((3 : Int32) + 1))) j1 hj1 ((List.getElem?_set_ne hne3_1).trans ((List.getElem?_set_ne hne2_1).trans (List.getElem?_set_self (by simpa using hl1))))) at_353 0 rfl 23 rfl 24 rfl 6 rfl 27 rfl 26 rfl 25 rfl ⟨by decide, by decide⟩ pd_3 rfl rfl rfl 0 rfl (by decide) (by decide) (by decide) (by decide) 356 rfl (fun T v L w h => ?_)
      obtain ⟨rfl, rfl⟩ := h
      refine g_int (x' := (1 : Int32)) (by decide) ?_
      refine g_iconst w at_356 (1 : Int32) rfl 357 rfl ?_
      refine g_icmp_ne w at_357 364 (by decide) (by decide) 360 rfl (fun h => absurd (by decide) h) (fun hc357 => ?_)
      refine g_iconst w at_360 (1 : Int32) rfl 361 rfl ?_
      refine g_goto w at_361 365 (by decide) (by decide) ?_
      refine g_istore w at_365 367 rfl rfl #[.val (.int u0), .val (.int u1), .val (.int u2), .val (.int u3), .val (.int (8 : Int32)), .val (.int (7 : Int32)), .val (.int (4 : Int32)), .val (.int st), .val (.int s0), .val (.int s1), .val (.int s2), .val (.int s3), .val (.int s4), .val (.int sF), .val (.ref b11), .val (.int (1 : Int32))] rfl ?_
      refine g_iload w at_367 rfl 369 rfl ?_
      refine g_iconst w at_369 (2 : Int32) rfl 370 rfl ?_
      refine g_icmp_le w at_370 396 (by decide) (by decide) 373 rfl (fun h => absurd (by decide) h) (fun hc370 => ?_)
      refine g_iload w at_373 rfl 375 rfl ?_
      refine g_if_eq w at_375 393 (by decide) (by decide) 378 rfl (fun h => absurd h (by decide)) (fun hc375 => ?_)
      refine g_aload w at_378 rfl rfl 380 rfl ?_
      refine g_iload w at_380 rfl 382 rfl ?_
      refine g_virt w (argsL := [(.int s2)]) (rest := []) (rm5 l Z a0 hw n0 b11 ar s2 (4 : Int32) ((2 : Int32) + 1) (((((List.replicate 8 (.int (0 : Int32))).set j0 (.int ((0 : Int32) + 1))).set j1 (.int ((1 : Int32) + 1))).set j2 (.int ((2 : Int32) + 1))).set j3 (.int ((3 : Int32) + 1))) j2 hj2 ((List.getElem?_set_ne hne3_2).trans (List.getElem?_set_self (by simpa using hl2)))) at_382 0 rfl 23 rfl 24 rfl 6 rfl 27 rfl 26 rfl 25 rfl ⟨by decide, by decide⟩ pd_3 rfl rfl rfl 0 rfl (by decide) (by decide) (by decide) (by decide) 385 rfl (fun T v L w h => ?_)
      obtain ⟨rfl, rfl⟩ := h
      refine g_int (x' := (2 : Int32)) (by decide) ?_
      refine g_iconst w at_385 (2 : Int32) rfl 386 rfl ?_
      refine g_icmp_ne w at_386 393 (by decide) (by decide) 389 rfl (fun h => absurd (by decide) h) (fun hc386 => ?_)
      refine g_iconst w at_389 (1 : Int32) rfl 390 rfl ?_
      refine g_goto w at_390 394 (by decide) (by decide) ?_
      refine g_istore w at_394 396 rfl rfl #[.val (.int u0), .val (.int u1), .val (.int u2), .val (.int u3), .val (.int (8 : Int32)), .val (.int (7 : Int32)), .val (.int (4 : Int32)), .val (.int st), .val (.int s0), .val (.int s1), .val (.int s2), .val (.int s3), .val (.int s4), .val (.int sF), .val (.ref b11), .val (.int (1 : Int32))] rfl ?_
      refine g_iload w at_396 rfl 398 rfl ?_
      refine g_iconst w at_398 (3 : Int32) rfl 399 rfl ?_
      refine g_icmp_le w at_399 425 (by decide) (by decide) 402 rfl (fun h => absurd (by decide) h) (fun hc399 => ?_)
      refine g_iload w at_402 rfl 404 rfl ?_
      refine g_if_eq w at_404 422 (by decide) (by decide) 407 rfl (fun h => absurd h (by decide)) (fun hc404 => ?_)
      refine g_aload w at_407 rfl rfl 409 rfl ?_
      refine g_iload w at_409 rfl 411 rfl ?_
      refine g_virt w (argsL := [(.int s3)]) (rest := []) (rm5 l Z a0 hw n0 b11 ar s3 (4 : Int32) ((3 : Int32) + 1) (((((List.replicate 8 (.int (0 : Int32))).set j0 (.int ((0 : Int32) + 1))).set j1 (.int ((1 : Int32) + 1))).set j2 (.int ((2 : Int32) + 1))).set j3 (.int ((3 : Int32) + 1))) j3 hj3 (List.getElem?_set_self (by simpa using hl3))) at_411 0 rfl 23 rfl 24 rfl 6 rfl 27 rfl 26 rfl 25 rfl ⟨by decide, by decide⟩ pd_3 rfl rfl rfl 0 rfl (by decide) (by decide) (by decide) (by decide) 414 rfl (fun T v L w h => ?_)
      obtain ⟨rfl, rfl⟩ := h
      refine g_int (x' := (3 : Int32)) (by decide) ?_
      refine g_iconst w at_414 (3 : Int32) rfl 415 rfl ?_
      refine g_icmp_ne w at_415 422 (by decide) (by decide) 418 rfl (fun h => absurd (by decide) h) (fun hc415 => ?_)
      refine g_iconst w at_418 (1 : Int32) rfl 419 rfl ?_
      refine g_goto w at_419 423 (by decide) (by decide) ?_
      refine g_istore w at_423 425 rfl rfl #[.val (.int u0), .val (.int u1), .val (.int u2), .val (.int u3), .val (.int (8 : Int32)), .val (.int (7 : Int32)), .val (.int (4 : Int32)), .val (.int st), .val (.int s0), .val (.int s1), .val (.int s2), .val (.int s3), .val (.int s4), .val (.int sF), .val (.ref b11), .val (.int (1 : Int32))] rfl ?_
      refine g_iload w at_425 rfl 427 rfl ?_
      refine g_iconst w at_427 (4 : Int32) rfl 428 rfl ?_
      refine g_icmp_le w at_428 454 (by decide) (by decide) 431 rfl (fun hc428 => ?_) (fun h => absurd h (by decide))
      refine g_iload w at_454 rfl 456 rfl ?_
      refine g_iload w at_456 rfl 458 rfl ?_
      refine g_icmp_ge w at_458 484 (by decide) (by decide) 461 rfl (fun h => absurd (by decide) h) (fun hc458 => ?_)
      refine g_iload w at_461 rfl 463 rfl ?_
      refine g_if_eq w at_463 481 (by decide) (by decide) 466 rfl (fun h => absurd h (by decide)) (fun hc463 => ?_)
      refine g_aload w at_466 rfl rfl 468 rfl ?_
      refine g_iload w at_468 rfl 470 rfl ?_
      refine g_virt w (argsL := [(.int sF)]) (rest := []) (rm5 l Z a0 hw n0 b11 ar sF (4 : Int32) (0 : Int32) (((((List.replicate 8 (.int (0 : Int32))).set j0 (.int ((0 : Int32) + 1))).set j1 (.int ((1 : Int32) + 1))).set j2 (.int ((2 : Int32) + 1))).set j3 (.int ((3 : Int32) + 1))) jF hjF ((List.getElem?_set_ne hne3_F).trans ((List.getElem?_set_ne hne2_F).trans ((List.getElem?_set_ne hne1_F).trans ((List.getElem?_set_ne hne0_F).trans (List.getElem?_replicate_of_lt hlF)))))) at_470 0 rfl 23 rfl 24 rfl 6 rfl 27 rfl 26 rfl 25 rfl ⟨by decide, by decide⟩ pd_3 rfl rfl rfl 0 rfl (by decide) (by decide) (by decide) (by decide) 473 rfl (fun T v L w h => ?_)
      obtain ⟨rfl, rfl⟩ := h
      refine g_int (x' := (-1 : Int32)) (by decide) ?_
      refine g_iconst w at_473 (-1 : Int32) rfl 474 rfl ?_
      refine g_icmp_ne w at_474 481 (by decide) (by decide) 477 rfl (fun h => absurd (by decide) h) (fun hc474 => ?_)
      refine g_iconst w at_477 (1 : Int32) rfl 478 rfl ?_
      refine g_goto w at_478 482 (by decide) (by decide) ?_
      refine g_istore w at_482 484 rfl rfl #[.val (.int u0), .val (.int u1), .val (.int u2), .val (.int u3), .val (.int (8 : Int32)), .val (.int (7 : Int32)), .val (.int (4 : Int32)), .val (.int st), .val (.int s0), .val (.int s1), .val (.int s2), .val (.int s3), .val (.int s4), .val (.int sF), .val (.ref b11), .val (.int (1 : Int32))] rfl ?_
      refine g_iload w at_484 rfl 486 rfl ?_
      exact g_iretn w (by simp) at_486 (by decide) (by decide) rfl
    · -- pc 28 c = 5
      refine g_int (x' := (5 : Int32)) hcc ?_
      refine g_istore w at_28 30 rfl rfl #[.val (.int u0), .val (.int u1), .val (.int u2), .val (.int u3), .val (.int (8 : Int32)), .val (.int (7 : Int32)), .val (.int (5 : Int32)), .unset, .unset, .unset, .unset, .unset, .unset, .unset, .unset, .unset] rfl ?_
      refine g_iloadN w at_30 rfl 31 rfl ?_
      refine g_iconst w at_31 (1 : Int32) rfl 32 rfl ?_
      refine g_ior w at_32 33 rfl ?_
      obtain ⟨st, hst⟩ : ∃ z, z = ((u3 ||| (1 : Int32)) : Int32) := ⟨_, rfl⟩
      refine g_istore w at_33 35 rfl hst.symm #[.val (.int u0), .val (.int u1), .val (.int u2), .val (.int u3), .val (.int (8 : Int32)), .val (.int (7 : Int32)), .val (.int (5 : Int32)), .val (.int st), .unset, .unset, .unset, .unset, .unset, .unset, .unset, .unset] rfl ?_
      refine g_iloadN w at_35 rfl 36 rfl ?_
      refine g_iload w at_36 rfl 38 rfl ?_
      refine g_iand w at_38 39 rfl ?_
      obtain ⟨s0, hs0⟩ : ∃ z, z = ((u2 &&& (7 : Int32)) : Int32) := ⟨_, rfl⟩
      refine g_istore w at_39 41 rfl hs0.symm #[.val (.int u0), .val (.int u1), .val (.int u2), .val (.int u3), .val (.int (8 : Int32)), .val (.int (7 : Int32)), .val (.int (5 : Int32)), .val (.int st), .val (.int s0), .unset, .unset, .unset, .unset, .unset, .unset, .unset] rfl ?_
      refine g_iloadN w at_41 rfl 42 rfl ?_
      refine g_iload w at_42 rfl 44 rfl ?_
      refine g_iadd w at_44 45 rfl ?_
      refine g_iload w at_45 rfl 47 rfl ?_
      refine g_iand w at_47 48 rfl ?_
      obtain ⟨s1, hs1⟩ : ∃ z, z = (((u2 + st) &&& (7 : Int32)) : Int32) := ⟨_, rfl⟩
      refine g_istore w at_48 50 rfl hs1.symm #[.val (.int u0), .val (.int u1), .val (.int u2), .val (.int u3), .val (.int (8 : Int32)), .val (.int (7 : Int32)), .val (.int (5 : Int32)), .val (.int st), .val (.int s0), .val (.int s1), .unset, .unset, .unset, .unset, .unset, .unset] rfl ?_
      refine g_iloadN w at_50 rfl 51 rfl ?_
      refine g_iconst w at_51 (2 : Int32) rfl 52 rfl ?_
      refine g_iload w at_52 rfl 54 rfl ?_
      refine g_imul w at_54 55 rfl ?_
      refine g_iadd w at_55 56 rfl ?_
      refine g_iload w at_56 rfl 58 rfl ?_
      refine g_iand w at_58 59 rfl ?_
      obtain ⟨s2, hs2⟩ : ∃ z, z = (((u2 + ((2 : Int32) * st)) &&& (7 : Int32)) : Int32) := ⟨_, rfl⟩
      refine g_istore w at_59 61 rfl hs2.symm #[.val (.int u0), .val (.int u1), .val (.int u2), .val (.int u3), .val (.int (8 : Int32)), .val (.int (7 : Int32)), .val (.int (5 : Int32)), .val (.int st), .val (.int s0), .val (.int s1), .val (.int s2), .unset, .unset, .unset, .unset, .unset] rfl ?_
      refine g_iloadN w at_61 rfl 62 rfl ?_
      refine g_iconst w at_62 (3 : Int32) rfl 63 rfl ?_
      refine g_iload w at_63 rfl 65 rfl ?_
      refine g_imul w at_65 66 rfl ?_
      refine g_iadd w at_66 67 rfl ?_
      refine g_iload w at_67 rfl 69 rfl ?_
      refine g_iand w at_69 70 rfl ?_
      obtain ⟨s3, hs3⟩ : ∃ z, z = (((u2 + ((3 : Int32) * st)) &&& (7 : Int32)) : Int32) := ⟨_, rfl⟩
      refine g_istore w at_70 72 rfl hs3.symm #[.val (.int u0), .val (.int u1), .val (.int u2), .val (.int u3), .val (.int (8 : Int32)), .val (.int (7 : Int32)), .val (.int (5 : Int32)), .val (.int st), .val (.int s0), .val (.int s1), .val (.int s2), .val (.int s3), .unset, .unset, .unset, .unset] rfl ?_
      refine g_iloadN w at_72 rfl 73 rfl ?_
      refine g_iconst w at_73 (4 : Int32) rfl 74 rfl ?_
      refine g_iload w at_74 rfl 76 rfl ?_
      refine g_imul w at_76 77 rfl ?_
      refine g_iadd w at_77 78 rfl ?_
      refine g_iload w at_78 rfl 80 rfl ?_
      refine g_iand w at_80 81 rfl ?_
      obtain ⟨s4, hs4⟩ : ∃ z, z = (((u2 + ((4 : Int32) * st)) &&& (7 : Int32)) : Int32) := ⟨_, rfl⟩
      refine g_istore w at_81 83 rfl hs4.symm #[.val (.int u0), .val (.int u1), .val (.int u2), .val (.int u3), .val (.int (8 : Int32)), .val (.int (7 : Int32)), .val (.int (5 : Int32)), .val (.int st), .val (.int s0), .val (.int s1), .val (.int s2), .val (.int s3), .val (.int s4), .unset, .unset, .unset] rfl ?_
      refine g_iloadN w at_83 rfl 84 rfl ?_
      refine g_iload w at_84 rfl 86 rfl ?_
      refine g_iload w at_86 rfl 88 rfl ?_
      refine g_imul w at_88 89 rfl ?_
      refine g_iadd w at_89 90 rfl ?_
      refine g_iload w at_90 rfl 92 rfl ?_
      refine g_iand w at_92 93 rfl ?_
      obtain ⟨sF, hsF⟩ : ∃ z, z = (((u2 + ((5 : Int32) * st)) &&& (7 : Int32)) : Int32) := ⟨_, rfl⟩
      refine g_istore w at_93 95 rfl hsF.symm #[.val (.int u0), .val (.int u1), .val (.int u2), .val (.int u3), .val (.int (8 : Int32)), .val (.int (7 : Int32)), .val (.int (5 : Int32)), .val (.int st), .val (.int s0), .val (.int s1), .val (.int s2), .val (.int s3), .val (.int s4), .val (.int sF), .unset, .unset] rfl ?_
      have hodd : st.toInt % 2 = 1 := by rw [hst]; exact own_odd u3
      have hM := c_mask u2 7 3 (by decide) (by decide)
      have E0 : s0.toInt = u2.toInt % 8 := by rw [hs0]; omega
      obtain ⟨j0, hj0⟩ : ∃ j : Nat, s0.toInt = (j : Int) := ⟨s0.toInt.toNat, by omega⟩
      have hl0 : j0 < 8 := by omega
      have E1 : s1.toInt = (u2.toInt + st.toInt) % 8 := by rw [hs1]; exact own_t8 u2 st
      obtain ⟨j1, hj1⟩ : ∃ j : Nat, s1.toInt = (j : Int) := ⟨s1.toInt.toNat, by omega⟩
      have hl1 : j1 < 8 := by omega
      have E2 : s2.toInt = (u2.toInt + 2 * st.toInt) % 8 := by rw [hs2]; exact own_s8 u2 st 2
      obtain ⟨j2, hj2⟩ : ∃ j : Nat, s2.toInt = (j : Int) := ⟨s2.toInt.toNat, by omega⟩
      have hl2 : j2 < 8 := by omega
      have E3 : s3.toInt = (u2.toInt + 3 * st.toInt) % 8 := by rw [hs3]; exact own_s8 u2 st 3
      obtain ⟨j3, hj3⟩ : ∃ j : Nat, s3.toInt = (j : Int) := ⟨s3.toInt.toNat, by omega⟩
      have hl3 : j3 < 8 := by omega
      have E4 : s4.toInt = (u2.toInt + 4 * st.toInt) % 8 := by rw [hs4]; exact own_s8 u2 st 4
      obtain ⟨j4, hj4⟩ : ∃ j : Nat, s4.toInt = (j : Int) := ⟨s4.toInt.toNat, by omega⟩
      have hl4 : j4 < 8 := by omega
      have EF : sF.toInt = (u2.toInt + 5 * st.toInt) % 8 := by rw [hsF]; exact own_s8 u2 st 5
      obtain ⟨jF, hjF⟩ : ∃ j : Nat, sF.toInt = (j : Int) := ⟨sF.toInt.toNat, by omega⟩
      have hlF : jF < 8 := by omega
      have hne0_F : j0 ≠ jF := by omega
      have hne1_0 : j1 ≠ j0 := by omega
      have hne1_F : j1 ≠ jF := by omega
      have hne2_0 : j2 ≠ j0 := by omega
      have hne2_1 : j2 ≠ j1 := by omega
      have hne2_F : j2 ≠ jF := by omega
      have hne3_0 : j3 ≠ j0 := by omega
      have hne3_1 : j3 ≠ j1 := by omega
      have hne3_2 : j3 ≠ j2 := by omega
      have hne3_F : j3 ≠ jF := by omega
      have hne4_0 : j4 ≠ j0 := by omega
      have hne4_1 : j4 ≠ j1 := by omega
      have hne4_2 : j4 ≠ j2 := by omega
      have hne4_3 : j4 ≠ j3 := by omega
      have hne4_F : j4 ≠ jF := by omega
      clear hM
      refine g_new w [("tidestone/parquet/HashSlots", "slots", "[I", .null), ("tidestone/parquet/HashSlots", "taken", "I", (.int (0 : Int32)))] at_95 4 rfl 5 rfl 6 rfl (FOk.cons (Or.inl (w.hw (k := 15) rfl)) (ty := (.array .int)) (by decide) rfl (FOk.cons (Or.inl (w.hw (k := 22) rfl)) (ty := .int) (by decide) rfl trivial)) (by decide) (by decide) (by decide) 98 rfl (fun T b12 w => ?_)
      replace w := w.to (L' := [(b12, O_HashSlots .null (.int (0 : Int32)))]) rfl
      refine g_dup w at_98 rfl 99 rfl ?_
      refine g_iload w at_99 rfl 101 rfl ?_
      refine g_ctor w (argsL := [(.int (8 : Int32))]) (rest := [(.ref b12)]) (rm2 l Z a0 hw n0 b12 (8 : Int32) 8 (by decide) (by decide)) at_101 7 rfl 8 rfl 6 rfl 9 rfl rfl ⟨by decide, by decide⟩ pd_1 rfl rfl rfl 1 rfl (by decide) (by decide) (by decide) (by decide) 104 rfl (fun T v L w h => ?_)
      obtain ⟨rfl, ar, rfl⟩ := h
      refine g_astore w at_104 106 rfl rfl #[.val (.int u0), .val (.int u1), .val (.int u2), .val (.int u3), .val (.int (8 : Int32)), .val (.int (7 : Int32)), .val (.int (5 : Int32)), .val (.int st), .val (.int s0), .val (.int s1), .val (.int s2), .val (.int s3), .val (.int s4), .val (.int sF), .val (.ref b12), .unset] rfl ?_
      refine g_iconst w at_106 (1 : Int32) rfl 107 rfl ?_
      refine g_istore w at_107 109 rfl rfl #[.val (.int u0), .val (.int u1), .val (.int u2), .val (.int u3), .val (.int (8 : Int32)), .val (.int (7 : Int32)), .val (.int (5 : Int32)), .val (.int st), .val (.int s0), .val (.int s1), .val (.int s2), .val (.int s3), .val (.int s4), .val (.int sF), .val (.ref b12), .val (.int (1 : Int32))] rfl ?_
      refine g_iload w at_109 rfl 111 rfl ?_
      refine g_if_le w at_111 148 (by decide) (by decide) 114 rfl (fun h => absurd (by decide) h) (fun hc111 => ?_)
      refine g_iload w at_114 rfl 116 rfl ?_
      refine g_if_eq w at_116 145 (by decide) (by decide) 119 rfl (fun h => absurd h (by decide)) (fun hc116 => ?_)
      refine g_aload w at_119 rfl rfl 121 rfl ?_
      refine g_iload w at_121 rfl 123 rfl ?_
      refine g_iconst w at_123 (0 : Int32) rfl 124 rfl ?_
      refine g_virt w (argsL := [(.int s0), (.int (0 : Int32))]) (rest := []) (rm4 l Z a0 hw n0 b12 ar s0 (0 : Int32) (0 : Int32) (8 : Int32) (List.replicate 8 (.int (0 : Int32))) j0 hj0 (by simpa using hl0) (by simp only [List.length_set, List.length_replicate]; rfl)) at_124 0 rfl 16 rfl 17 rfl 6 rfl 20 rfl 19 rfl 18 rfl ⟨by decide, by decide⟩ pd_2 rfl rfl rfl 0 rfl (by decide) (by decide) (by decide) (by decide) 127 rfl (fun T v L w h => ?_)
      obtain ⟨rfl, rfl⟩ := h
      refine g_int (x' := (0 : Int32)) (by decide) ?_
      replace w := w.to (L' := [(b12, O_HashSlots (.ref ar) (.int (1 : Int32))), (ar, .inr (.int, (List.replicate 8 (.int (0 : Int32))).set j0 (.int ((0 : Int32) + 1))))]) rfl
      refine g_iconst w at_127 (2 : Int32) rfl 128 rfl ?_
      refine g_iload w at_128 rfl 130 rfl ?_
      refine g_icmp_le w at_130 137 (by decide) (by decide) 133 rfl (fun hc130 => ?_) (fun h => absurd h (by decide))
      refine g_iconst w at_137 (0 : Int32) rfl 138 rfl ?_
      refine g_icmp_ne w at_138 145 (by decide) (by decide) 141 rfl (fun h => absurd (by decide) h) (fun hc138 => ?_)
      refine g_iconst w at_141 (1 : Int32) rfl 142 rfl ?_
      refine g_goto w at_142 146 (by decide) (by decide) ?_
      refine g_istore w at_146 148 rfl rfl #[.val (.int u0), .val (.int u1), .val (.int u2), .val (.int u3), .val (.int (8 : Int32)), .val (.int (7 : Int32)), .val (.int (5 : Int32)), .val (.int st), .val (.int s0), .val (.int s1), .val (.int s2), .val (.int s3), .val (.int s4), .val (.int sF), .val (.ref b12), .val (.int (1 : Int32))] rfl ?_
      refine g_iload w at_148 rfl 150 rfl ?_
      refine g_iconst w at_150 (1 : Int32) rfl 151 rfl ?_
      refine g_icmp_le w at_151 188 (by decide) (by decide) 154 rfl (fun h => absurd (by decide) h) (fun hc151 => ?_)
      refine g_iload w at_154 rfl 156 rfl ?_
      refine g_if_eq w at_156 185 (by decide) (by decide) 159 rfl (fun h => absurd h (by decide)) (fun hc156 => ?_)
      refine g_aload w at_159 rfl rfl 161 rfl ?_
      refine g_iload w at_161 rfl 163 rfl ?_
      refine g_iconst w at_163 (1 : Int32) rfl 164 rfl ?_
      refine g_virt w (argsL := [(.int s1), (.int (1 : Int32))]) (rest := []) (rm4 l Z a0 hw n0 b12 ar s1 (1 : Int32) (1 : Int32) (8 : Int32) ((List.replicate 8 (.int (0 : Int32))).set j0 (.int ((0 : Int32) + 1))) j1 hj1 (by simpa using hl1) (by simp only [List.length_set, List.length_replicate]; rfl)) at_164 0 rfl 16 rfl 17 rfl 6 rfl 20 rfl 19 rfl 18 rfl ⟨by decide, by decide⟩ pd_2 rfl rfl rfl 0 rfl (by decide) (by decide) (by decide) (by decide) 167 rfl (fun T v L w h => ?_)
      obtain ⟨rfl, rfl⟩ := h
      refine g_int (x' := (0 : Int32)) (by decide) ?_
      replace w := w.to (L' := [(b12, O_HashSlots (.ref ar) (.int (2 : Int32))), (ar, .inr (.int, ((List.replicate 8 (.int (0 : Int32))).set j0 (.int ((0 : Int32) + 1))).set j1 (.int ((1 : Int32) + 1))))]) rfl
      refine g_iconst w at_167 (4 : Int32) rfl 168 rfl ?_
      refine g_iload w at_168 rfl 170 rfl ?_
      refine g_icmp_le w at_170 177 (by decide) (by decide) 173 rfl (fun hc170 => ?_) (fun h => absurd h (by decide))
      refine g_iconst w at_177 (0 : Int32) rfl 178 rfl ?_
      refine g_icmp_ne w at_178 185 (by decide) (by decide) 181 rfl (fun h => absurd (by decide) h) (fun hc178 => ?_)
      refine g_iconst w at_181 (1 : Int32) rfl 182 rfl ?_
      refine g_goto w at_182 186 (by decide) (by decide) ?_
      refine g_istore w at_186 188 rfl rfl #[.val (.int u0), .val (.int u1), .val (.int u2), .val (.int u3), .val (.int (8 : Int32)), .val (.int (7 : Int32)), .val (.int (5 : Int32)), .val (.int st), .val (.int s0), .val (.int s1), .val (.int s2), .val (.int s3), .val (.int s4), .val (.int sF), .val (.ref b12), .val (.int (1 : Int32))] rfl ?_
      refine g_iload w at_188 rfl 190 rfl ?_
      refine g_iconst w at_190 (2 : Int32) rfl 191 rfl ?_
      refine g_icmp_le w at_191 229 (by decide) (by decide) 194 rfl (fun h => absurd (by decide) h) (fun hc191 => ?_)
      refine g_iload w at_194 rfl 196 rfl ?_
      refine g_if_eq w at_196 226 (by decide) (by decide) 199 rfl (fun h => absurd h (by decide)) (fun hc196 => ?_)
      refine g_aload w at_199 rfl rfl 201 rfl ?_
      refine g_iload w at_201 rfl 203 rfl ?_
      refine g_iconst w at_203 (2 : Int32) rfl 204 rfl ?_
      refine g_virt w (argsL := [(.int s2), (.int (2 : Int32))]) (rest := []) (rm4 l Z a0 hw n0 b12 ar s2 (2 : Int32) (2 : Int32) (8 : Int32) (((List.replicate 8 (.int (0 : Int32))).set j0 (.int ((0 : Int32) + 1))).set j1 (.int ((1 : Int32) + 1))) j2 hj2 (by simpa using hl2) (by simp only [List.length_set, List.length_replicate]; rfl)) at_204 0 rfl 16 rfl 17 rfl 6 rfl 20 rfl 19 rfl 18 rfl ⟨by decide, by decide⟩ pd_2 rfl rfl rfl 0 rfl (by decide) (by decide) (by decide) (by decide) 207 rfl (fun T v L w h => ?_)
      obtain ⟨rfl, rfl⟩ := h
      refine g_int (x' := (0 : Int32)) (by decide) ?_
      replace w := w.to (L' := [(b12, O_HashSlots (.ref ar) (.int (3 : Int32))), (ar, .inr (.int, (((List.replicate 8 (.int (0 : Int32))).set j0 (.int ((0 : Int32) + 1))).set j1 (.int ((1 : Int32) + 1))).set j2 (.int ((2 : Int32) + 1))))]) rfl
      refine g_bipush w at_207 (6 : Int32) rfl 209 rfl ?_
      refine g_iload w at_209 rfl 211 rfl ?_
      refine g_icmp_le w at_211 218 (by decide) (by decide) 214 rfl (fun hc211 => ?_) (fun h => absurd h (by decide))
      refine g_iconst w at_218 (0 : Int32) rfl 219 rfl ?_
      refine g_icmp_ne w at_219 226 (by decide) (by decide) 222 rfl (fun h => absurd (by decide) h) (fun hc219 => ?_)
      refine g_iconst w at_222 (1 : Int32) rfl 223 rfl ?_
      refine g_goto w at_223 227 (by decide) (by decide) ?_
      refine g_istore w at_227 229 rfl rfl #[.val (.int u0), .val (.int u1), .val (.int u2), .val (.int u3), .val (.int (8 : Int32)), .val (.int (7 : Int32)), .val (.int (5 : Int32)), .val (.int st), .val (.int s0), .val (.int s1), .val (.int s2), .val (.int s3), .val (.int s4), .val (.int sF), .val (.ref b12), .val (.int (1 : Int32))] rfl ?_
      refine g_iload w at_229 rfl 231 rfl ?_
      refine g_iconst w at_231 (3 : Int32) rfl 232 rfl ?_
      refine g_icmp_le w at_232 270 (by decide) (by decide) 235 rfl (fun h => absurd (by decide) h) (fun hc232 => ?_)
      refine g_iload w at_235 rfl 237 rfl ?_
      refine g_if_eq w at_237 267 (by decide) (by decide) 240 rfl (fun h => absurd h (by decide)) (fun hc237 => ?_)
      refine g_aload w at_240 rfl rfl 242 rfl ?_
      refine g_iload w at_242 rfl 244 rfl ?_
      refine g_iconst w at_244 (3 : Int32) rfl 245 rfl ?_
      refine g_virt w (argsL := [(.int s3), (.int (3 : Int32))]) (rest := []) (rm4 l Z a0 hw n0 b12 ar s3 (3 : Int32) (3 : Int32) (8 : Int32) ((((List.replicate 8 (.int (0 : Int32))).set j0 (.int ((0 : Int32) + 1))).set j1 (.int ((1 : Int32) + 1))).set j2 (.int ((2 : Int32) + 1))) j3 hj3 (by simpa using hl3) (by simp only [List.length_set, List.length_replicate]; rfl)) at_245 0 rfl 16 rfl 17 rfl 6 rfl 20 rfl 19 rfl 18 rfl ⟨by decide, by decide⟩ pd_2 rfl rfl rfl 0 rfl (by decide) (by decide) (by decide) (by decide) 248 rfl (fun T v L w h => ?_)
      obtain ⟨rfl, rfl⟩ := h
      refine g_int (x' := (0 : Int32)) (by decide) ?_
      replace w := w.to (L' := [(b12, O_HashSlots (.ref ar) (.int (4 : Int32))), (ar, .inr (.int, ((((List.replicate 8 (.int (0 : Int32))).set j0 (.int ((0 : Int32) + 1))).set j1 (.int ((1 : Int32) + 1))).set j2 (.int ((2 : Int32) + 1))).set j3 (.int ((3 : Int32) + 1))))]) rfl
      refine g_bipush w at_248 (8 : Int32) rfl 250 rfl ?_
      refine g_iload w at_250 rfl 252 rfl ?_
      refine g_icmp_le w at_252 259 (by decide) (by decide) 255 rfl (fun hc252 => ?_) (fun h => absurd h (by decide))
      refine g_iconst w at_259 (0 : Int32) rfl 260 rfl ?_
      refine g_icmp_ne w at_260 267 (by decide) (by decide) 263 rfl (fun h => absurd (by decide) h) (fun hc260 => ?_)
      refine g_iconst w at_263 (1 : Int32) rfl 264 rfl ?_
      refine g_goto w at_264 268 (by decide) (by decide) ?_
      refine g_istore w at_268 270 rfl rfl #[.val (.int u0), .val (.int u1), .val (.int u2), .val (.int u3), .val (.int (8 : Int32)), .val (.int (7 : Int32)), .val (.int (5 : Int32)), .val (.int st), .val (.int s0), .val (.int s1), .val (.int s2), .val (.int s3), .val (.int s4), .val (.int sF), .val (.ref b12), .val (.int (1 : Int32))] rfl ?_
      refine g_iload w at_270 rfl 272 rfl ?_
      refine g_iconst w at_272 (4 : Int32) rfl 273 rfl ?_
      refine g_icmp_le w at_273 311 (by decide) (by decide) 276 rfl (fun h => absurd (by decide) h) (fun hc273 => ?_)
      refine g_iload w at_276 rfl 278 rfl ?_
      refine g_if_eq w at_278 308 (by decide) (by decide) 281 rfl (fun h => absurd h (by decide)) (fun hc278 => ?_)
      refine g_aload w at_281 rfl rfl 283 rfl ?_
      refine g_iload w at_283 rfl 285 rfl ?_
      refine g_iconst w at_285 (4 : Int32) rfl 286 rfl ?_
      refine g_virt w (argsL := [(.int s4), (.int (4 : Int32))]) (rest := []) (rm4 l Z a0 hw n0 b12 ar s4 (4 : Int32) (4 : Int32) (8 : Int32) (((((List.replicate 8 (.int (0 : Int32))).set j0 (.int ((0 : Int32) + 1))).set j1 (.int ((1 : Int32) + 1))).set j2 (.int ((2 : Int32) + 1))).set j3 (.int ((3 : Int32) + 1))) j4 hj4 (by simpa using hl4) (by simp only [List.length_set, List.length_replicate]; rfl)) at_286 0 rfl 16 rfl 17 rfl 6 rfl 20 rfl 19 rfl 18 rfl ⟨by decide, by decide⟩ pd_2 rfl rfl rfl 0 rfl (by decide) (by decide) (by decide) (by decide) 289 rfl (fun T v L w h => ?_)
      obtain ⟨rfl, rfl⟩ := h
      refine g_int (x' := (1 : Int32)) (by decide) ?_
      replace w := w.to (L' := [(b12, O_HashSlots (.ref ar) (.int (5 : Int32))), (ar, .inr (.int, (((((List.replicate 8 (.int (0 : Int32))).set j0 (.int ((0 : Int32) + 1))).set j1 (.int ((1 : Int32) + 1))).set j2 (.int ((2 : Int32) + 1))).set j3 (.int ((3 : Int32) + 1))).set j4 (.int ((4 : Int32) + 1))))]) rfl
      refine g_bipush w at_289 (10 : Int32) rfl 291 rfl ?_
      refine g_iload w at_291 rfl 293 rfl ?_
      refine g_icmp_le w at_293 300 (by decide) (by decide) 296 rfl (fun h => absurd (by decide) h) (fun hc293 => ?_)
      refine g_iconst w at_296 (1 : Int32) rfl 297 rfl ?_
      refine g_goto w at_297 301 (by decide) (by decide) ?_
      refine g_icmp_ne w at_301 308 (by decide) (by decide) 304 rfl (fun h => absurd (by decide) h) (fun hc301 => ?_)
      refine g_iconst w at_304 (1 : Int32) rfl 305 rfl ?_
      refine g_goto w at_305 309 (by decide) (by decide) ?_
      refine g_istore w at_309 311 rfl rfl #[.val (.int u0), .val (.int u1), .val (.int u2), .val (.int u3), .val (.int (8 : Int32)), .val (.int (7 : Int32)), .val (.int (5 : Int32)), .val (.int st), .val (.int s0), .val (.int s1), .val (.int s2), .val (.int s3), .val (.int s4), .val (.int sF), .val (.ref b12), .val (.int (1 : Int32))] rfl ?_
      refine g_iload w at_311 rfl 313 rfl ?_
      refine g_if_le w at_313 338 (by decide) (by decide) 316 rfl (fun h => absurd (by decide) h) (fun hc313 => ?_)
      refine g_iload w at_316 rfl 318 rfl ?_
      refine g_if_eq w at_318 335 (by decide) (by decide) 321 rfl (fun h => absurd h (by decide)) (fun hc318 => ?_)
      refine g_aload w at_321 rfl rfl 323 rfl ?_
      refine g_iload w at_323 rfl 325 rfl ?_
      refine g_virt w (argsL := [(.int s0)]) (rest := []) (rm5 l Z a0 hw n0 b12 ar s0 (5 : Int32) ((0 : Int32) + 1) ((((((List.replicate 8 (.int (0 : Int32))).set j0 (.int ((0 : Int32) + 1))).set j1 (.int ((1 : Int32) + 1))).set j2 (.int ((2 : Int32) + 1))).set j3 (.int ((3 : Int32) + 1))).set j4 (.int ((4 : Int32) + 1))) j0 hj0 ((List.getElem?_set_ne hne4_0).trans ((List.getElem?_set_ne hne3_0).trans ((List.getElem?_set_ne hne2_0).trans ((List.getElem?_set_ne hne1_0).trans (List.getElem?_set_self (by simpa using hl0))))))) at_325 0 rfl 23 rfl 24 rfl 6 rfl 27 rfl 26 rfl 25 rfl ⟨by decide, by decide⟩ pd_3 rfl rfl rfl 0 rfl (by decide) (by decide) (by decide) (by decide) 328 rfl (fun T v L w h => ?_)
      obtain ⟨rfl, rfl⟩ := h
      refine g_int (x' := (0 : Int32)) (by decide) ?_
      refine g_if_ne w at_328 335 (by decide) (by decide) 331 rfl (fun h => absurd (by decide) h) (fun hc328 => ?_)
      refine g_iconst w at_331 (1 : Int32) rfl 332 rfl ?_
      refine g_goto w at_332 336 (by decide) (by decide) ?_
      refine g_istore w at_336 338 rfl rfl #[.val (.int u0), .val (.int u1), .val (.int u2), .val (.int u3), .val (.int (8 : Int32)), .val (.int (7 : Int32)), .val (.int (5 : Int32)), .val (.int st), .val (.int s0), .val (.int s1), .val (.int s2), .val (.int s3), .val (.int s4), .val (.int sF), .val (.ref b12), .val (.int (1 : Int32))] rfl ?_
      refine g_iload w at_338 rfl 340 rfl ?_
      refine g_iconst w at_340 (1 : Int32) rfl 341 rfl ?_
      refine g_icmp_le w at_341 367 (by decide) (by decide) 344 rfl (fun h => absurd (by decide) h) (fun hc341 => ?_)
      refine g_iload w at_344 rfl 346 rfl ?_
      refine g_if_eq w at_346 364 (by decide) (by decide) 349 rfl (fun h => absurd h (by decide)) (fun hc346 => ?_)
      refine g_aload w at_349 rfl rfl 351 rfl ?_
      refine g_iload w at_351 rfl 353 rfl ?_
      refine g_virt w (argsL := [(.int s1)]) (rest := []) (rm5 l Z a0 hw n0 b12 ar s1 (5 : Int32) ((1 : Int32) + 1) ((((((List.replicate 8 (.int (0 : Int32))).set j0 (.int ((0 : Int32) + 1))).set j1 (.int ((1 : Int32) + 1))).set j2 (.int ((2 : Int32) + 1))).set j3 (.int ((3 : Int32) + 1))).set j4 (.int ((4 : Int32) + 1))) j1 hj1 ((List.getElem?_set_ne hne4_1).trans ((List.getElem?_set_ne hne3_1).trans ((List.getElem?_set_ne hne2_1).trans (List.getElem?_set_self (by simpa using hl1)))))) at_353 0 rfl 23 rfl 24 rfl 6 rfl 27 rfl 26 rfl 25 rfl ⟨by decide, by decide⟩ pd_3 rfl rfl rfl 0 rfl (by decide) (by decide) (by decide) (by decide) 356 rfl (fun T v L w h => ?_)
      obtain ⟨rfl, rfl⟩ := h
      refine g_int (x' := (1 : Int32)) (by decide) ?_
      refine g_iconst w at_356 (1 : Int32) rfl 357 rfl ?_
      refine g_icmp_ne w at_357 364 (by decide) (by decide) 360 rfl (fun h => absurd (by decide) h) (fun hc357 => ?_)
      refine g_iconst w at_360 (1 : Int32) rfl 361 rfl ?_
      refine g_goto w at_361 365 (by decide) (by decide) ?_
      refine g_istore w at_365 367 rfl rfl #[.val (.int u0), .val (.int u1), .val (.int u2), .val (.int u3), .val (.int (8 : Int32)), .val (.int (7 : Int32)), .val (.int (5 : Int32)), .val (.int st), .val (.int s0), .val (.int s1), .val (.int s2), .val (.int s3), .val (.int s4), .val (.int sF), .val (.ref b12), .val (.int (1 : Int32))] rfl ?_
      refine g_iload w at_367 rfl 369 rfl ?_
      refine g_iconst w at_369 (2 : Int32) rfl 370 rfl ?_
      refine g_icmp_le w at_370 396 (by decide) (by decide) 373 rfl (fun h => absurd (by decide) h) (fun hc370 => ?_)
      refine g_iload w at_373 rfl 375 rfl ?_
      refine g_if_eq w at_375 393 (by decide) (by decide) 378 rfl (fun h => absurd h (by decide)) (fun hc375 => ?_)
      refine g_aload w at_378 rfl rfl 380 rfl ?_
      refine g_iload w at_380 rfl 382 rfl ?_
      refine g_virt w (argsL := [(.int s2)]) (rest := []) (rm5 l Z a0 hw n0 b12 ar s2 (5 : Int32) ((2 : Int32) + 1) ((((((List.replicate 8 (.int (0 : Int32))).set j0 (.int ((0 : Int32) + 1))).set j1 (.int ((1 : Int32) + 1))).set j2 (.int ((2 : Int32) + 1))).set j3 (.int ((3 : Int32) + 1))).set j4 (.int ((4 : Int32) + 1))) j2 hj2 ((List.getElem?_set_ne hne4_2).trans ((List.getElem?_set_ne hne3_2).trans (List.getElem?_set_self (by simpa using hl2))))) at_382 0 rfl 23 rfl 24 rfl 6 rfl 27 rfl 26 rfl 25 rfl ⟨by decide, by decide⟩ pd_3 rfl rfl rfl 0 rfl (by decide) (by decide) (by decide) (by decide) 385 rfl (fun T v L w h => ?_)
      obtain ⟨rfl, rfl⟩ := h
      refine g_int (x' := (2 : Int32)) (by decide) ?_
      refine g_iconst w at_385 (2 : Int32) rfl 386 rfl ?_
      refine g_icmp_ne w at_386 393 (by decide) (by decide) 389 rfl (fun h => absurd (by decide) h) (fun hc386 => ?_)
      refine g_iconst w at_389 (1 : Int32) rfl 390 rfl ?_
      refine g_goto w at_390 394 (by decide) (by decide) ?_
      refine g_istore w at_394 396 rfl rfl #[.val (.int u0), .val (.int u1), .val (.int u2), .val (.int u3), .val (.int (8 : Int32)), .val (.int (7 : Int32)), .val (.int (5 : Int32)), .val (.int st), .val (.int s0), .val (.int s1), .val (.int s2), .val (.int s3), .val (.int s4), .val (.int sF), .val (.ref b12), .val (.int (1 : Int32))] rfl ?_
      refine g_iload w at_396 rfl 398 rfl ?_
      refine g_iconst w at_398 (3 : Int32) rfl 399 rfl ?_
      refine g_icmp_le w at_399 425 (by decide) (by decide) 402 rfl (fun h => absurd (by decide) h) (fun hc399 => ?_)
      refine g_iload w at_402 rfl 404 rfl ?_
      refine g_if_eq w at_404 422 (by decide) (by decide) 407 rfl (fun h => absurd h (by decide)) (fun hc404 => ?_)
      refine g_aload w at_407 rfl rfl 409 rfl ?_
      refine g_iload w at_409 rfl 411 rfl ?_
      refine g_virt w (argsL := [(.int s3)]) (rest := []) (rm5 l Z a0 hw n0 b12 ar s3 (5 : Int32) ((3 : Int32) + 1) ((((((List.replicate 8 (.int (0 : Int32))).set j0 (.int ((0 : Int32) + 1))).set j1 (.int ((1 : Int32) + 1))).set j2 (.int ((2 : Int32) + 1))).set j3 (.int ((3 : Int32) + 1))).set j4 (.int ((4 : Int32) + 1))) j3 hj3 ((List.getElem?_set_ne hne4_3).trans (List.getElem?_set_self (by simpa using hl3)))) at_411 0 rfl 23 rfl 24 rfl 6 rfl 27 rfl 26 rfl 25 rfl ⟨by decide, by decide⟩ pd_3 rfl rfl rfl 0 rfl (by decide) (by decide) (by decide) (by decide) 414 rfl (fun T v L w h => ?_)
      obtain ⟨rfl, rfl⟩ := h
      refine g_int (x' := (3 : Int32)) (by decide) ?_
      refine g_iconst w at_414 (3 : Int32) rfl 415 rfl ?_
      refine g_icmp_ne w at_415 422 (by decide) (by decide) 418 rfl (fun h => absurd (by decide) h) (fun hc415 => ?_)
      refine g_iconst w at_418 (1 : Int32) rfl 419 rfl ?_
      refine g_goto w at_419 423 (by decide) (by decide) ?_
      refine g_istore w at_423 425 rfl rfl #[.val (.int u0), .val (.int u1), .val (.int u2), .val (.int u3), .val (.int (8 : Int32)), .val (.int (7 : Int32)), .val (.int (5 : Int32)), .val (.int st), .val (.int s0), .val (.int s1), .val (.int s2), .val (.int s3), .val (.int s4), .val (.int sF), .val (.ref b12), .val (.int (1 : Int32))] rfl ?_
      refine g_iload w at_425 rfl 427 rfl ?_
      refine g_iconst w at_427 (4 : Int32) rfl 428 rfl ?_
      refine g_icmp_le w at_428 454 (by decide) (by decide) 431 rfl (fun h => absurd (by decide) h) (fun hc428 => ?_)
      refine g_iload w at_431 rfl 433 rfl ?_
      refine g_if_eq w at_433 451 (by decide) (by decide) 436 rfl (fun h => absurd h (by decide)) (fun hc433 => ?_)
      refine g_aload w at_436 rfl rfl 438 rfl ?_
      refine g_iload w at_438 rfl 440 rfl ?_
      refine g_virt w (argsL := [(.int s4)]) (rest := []) (rm5 l Z a0 hw n0 b12 ar s4 (5 : Int32) ((4 : Int32) + 1) ((((((List.replicate 8 (.int (0 : Int32))).set j0 (.int ((0 : Int32) + 1))).set j1 (.int ((1 : Int32) + 1))).set j2 (.int ((2 : Int32) + 1))).set j3 (.int ((3 : Int32) + 1))).set j4 (.int ((4 : Int32) + 1))) j4 hj4 (List.getElem?_set_self (by simpa using hl4))) at_440 0 rfl 23 rfl 24 rfl 6 rfl 27 rfl 26 rfl 25 rfl ⟨by decide, by decide⟩ pd_3 rfl rfl rfl 0 rfl (by decide) (by decide) (by decide) (by decide) 443 rfl (fun T v L w h => ?_)
      obtain ⟨rfl, rfl⟩ := h
      refine g_int (x' := (4 : Int32)) (by decide) ?_
      refine g_iconst w at_443 (4 : Int32) rfl 444 rfl ?_
      refine g_icmp_ne w at_444 451 (by decide) (by decide) 447 rfl (fun h => absurd (by decide) h) (fun hc444 => ?_)
      refine g_iconst w at_447 (1 : Int32) rfl 448 rfl ?_
      refine g_goto w at_448 452 (by decide) (by decide) ?_
      refine g_istore w at_452 454 rfl rfl #[.val (.int u0), .val (.int u1), .val (.int u2), .val (.int u3), .val (.int (8 : Int32)), .val (.int (7 : Int32)), .val (.int (5 : Int32)), .val (.int st), .val (.int s0), .val (.int s1), .val (.int s2), .val (.int s3), .val (.int s4), .val (.int sF), .val (.ref b12), .val (.int (1 : Int32))] rfl ?_
      refine g_iload w at_454 rfl 456 rfl ?_
      refine g_iload w at_456 rfl 458 rfl ?_
      refine g_icmp_ge w at_458 484 (by decide) (by decide) 461 rfl (fun h => absurd (by decide) h) (fun hc458 => ?_)
      refine g_iload w at_461 rfl 463 rfl ?_
      refine g_if_eq w at_463 481 (by decide) (by decide) 466 rfl (fun h => absurd h (by decide)) (fun hc463 => ?_)
      refine g_aload w at_466 rfl rfl 468 rfl ?_
      refine g_iload w at_468 rfl 470 rfl ?_
      refine g_virt w (argsL := [(.int sF)]) (rest := []) (rm5 l Z a0 hw n0 b12 ar sF (5 : Int32) (0 : Int32) ((((((List.replicate 8 (.int (0 : Int32))).set j0 (.int ((0 : Int32) + 1))).set j1 (.int ((1 : Int32) + 1))).set j2 (.int ((2 : Int32) + 1))).set j3 (.int ((3 : Int32) + 1))).set j4 (.int ((4 : Int32) + 1))) jF hjF ((List.getElem?_set_ne hne4_F).trans ((List.getElem?_set_ne hne3_F).trans ((List.getElem?_set_ne hne2_F).trans ((List.getElem?_set_ne hne1_F).trans ((List.getElem?_set_ne hne0_F).trans (List.getElem?_replicate_of_lt hlF))))))) at_470 0 rfl 23 rfl 24 rfl 6 rfl 27 rfl 26 rfl 25 rfl ⟨by decide, by decide⟩ pd_3 rfl rfl rfl 0 rfl (by decide) (by decide) (by decide) (by decide) 473 rfl (fun T v L w h => ?_)
      obtain ⟨rfl, rfl⟩ := h
      refine g_int (x' := (-1 : Int32)) (by decide) ?_
      refine g_iconst w at_473 (-1 : Int32) rfl 474 rfl ?_
      refine g_icmp_ne w at_474 481 (by decide) (by decide) 477 rfl (fun h => absurd (by decide) h) (fun hc474 => ?_)
      refine g_iconst w at_477 (1 : Int32) rfl 478 rfl ?_
      refine g_goto w at_478 482 (by decide) (by decide) ?_
      refine g_istore w at_482 484 rfl rfl #[.val (.int u0), .val (.int u1), .val (.int u2), .val (.int u3), .val (.int (8 : Int32)), .val (.int (7 : Int32)), .val (.int (5 : Int32)), .val (.int st), .val (.int s0), .val (.int s1), .val (.int s2), .val (.int s3), .val (.int s4), .val (.int sF), .val (.ref b12), .val (.int (1 : Int32))] rfl ?_
      refine g_iload w at_484 rfl 486 rfl ?_
      exact g_iretn w (by simp) at_486 (by decide) (by decide) rfl
set_option maxRecDepth 65536 in
set_option maxHeartbeats 40000000 in
theorem comes_1 {Post : Tables → Env → Array Value → State → Outcome → State → Prop} (hpost : ∀ tb e args s v u, (limb_1_1.after args s (.returned v) u = true ∧ limb_1_2.after args s (.returned v) u = true ∧ True) → FrameEnd s (.returned v) u (Jvm.fieldLocs frame_1_writes args s ++ Jvm.arrayLocs frame_1_arrays args s ++ Jvm.staticLocs frame_1_statics s) 16 128 → Post tb e args s (.returned v) u) :
    ArmFor flags0 classFile x code maxLocals ret World_1 tables_1 room_1 Calls_1 rest_1 Pre_1 Post := by
  intro l hfl _ _ p e ha hc hk s m args below hf hA hF happ hP
  obtain ⟨hcalls, hrest, hpre⟩ := hP
  obtain ⟨-, -, -, hnamed, -, -, -, hat⟩ := (Spec.applies_iff hf).mp happ
  obtain ⟨hg, hn⟩ := and_e (Cond.before_iff.mp (show (Jvm.Cond.and given_1 narrow_1).before args s = true from hpre))
  obtain ⟨hcnt, g0⟩ := and_e hg
  obtain ⟨k0, g1⟩ := and_e g0
  obtain ⟨k1, g2⟩ := and_e g1
  obtain ⟨k2, g3⟩ := and_e g2
  have k3 := g3
  obtain ⟨w0, w1, w2, w3, rfl⟩ : ∃ w0 w1 w2 w3 : Value, args = #[w0, w1, w2, w3] := by
    have hs : args.size = 4 := by simpa [Cond.value, given_1] using hcnt
    obtain ⟨L⟩ := args
    match L, hs with
    | [w0, w1, w2, w3], _ => exact ⟨w0, w1, w2, w3, rfl⟩
  have hw := fun d (hd : d ∈ tables_1) => atoms_spec (ws := Jvm.Cond.code x code maxLocals ret :: tables_1) hat d (List.mem_cons_of_mem _ hd)
  obtain ⟨i0, e0⟩ := is_v k0
  obtain rfl : w0 = (.int i0) := Option.some.inj e0
  obtain ⟨i1, e1⟩ := is_v k1
  obtain rfl : w1 = (.int i1) := Option.some.inj e1
  obtain ⟨i2, e2⟩ := is_v k2
  obtain rfl : w2 = (.int i2) := Option.some.inj e2
  obtain ⟨i3, e3⟩ := is_v k3
  obtain rfl : w3 = (.int i3) := Option.some.inj e3
  obtain ⟨n, o, h1, h2, h3, _, Lc, rfl, ⟨N, LL, hH, rfl⟩, hq⟩ := rm0 l s _ hw s.heap.size i0 i1 i2 i3 tables_1 0 s.heap (Hp.nil (Old.start s) (Nat.zero_le _)) p e ha hc hk s m _ below hf ((Spec.applies_iff_loose hf).mp happ).1 ⟨rfl, State.Warmed39.refl s, rfl⟩ trivial
  exact ⟨n, _, h1, h2, h3, hpost _ _ _ _ _ _ ⟨Cond.after_iff.mpr rfl, Cond.after_iff.mpr (eq_i res_at (Term.int_eval (1)) rfl), trivial⟩ (fr_end N hq _ (by decide) (by decide))⟩
theorem main_1_1 : Claimed_1_1 := comes_1 fun _ _ _ _ _ _ h hF => ⟨h.1, hF⟩
theorem main_1_2 : Claimed_1_2 := comes_1 fun _ _ _ _ _ _ h hF => ⟨h.2.1, hF⟩
end Jvm.Pilot.@@N@@
namespace Jvm.Pilot.@@N@@
open Jvm Jvm.ClassFile Sem Op Lib Jvm.Free Jvm.Stand Jvm.Pilot.@@N@@.Jvm.D
/-! MADE BY PROGRAM (witnessworld.py) out of the Statement's table words and the real class files: 10 classes; the members and pool entries that the words name. The judged class is class 1, her method 1. -/
namespace start1
open Jvm.ClassFile
def u (s : String) : CpInfo := .utf8 (stringToUtf16 s)
/-- a pool by its gaps: so many unusable entries, then the entry; so many at the end -/
def gap : Nat → List CpInfo → List CpInfo
  | 0, r => r
  | n + 1, r => .unusable :: gap n r
def poolList (es : List (Nat × CpInfo)) (last : Nat) : List CpInfo := es.foldr (fun e r => gap e.1 (e.2 :: r)) (gap last [])
def pool (es : List (Nat × CpInfo)) (last : Nat) : Array CpInfo := ⟨poolList es last⟩
def fileOf (pool : Array CpInfo) (this : Nat) (attrs : Array Attribute := #[]) (ms : Array MethodInfo := #[]) (fl : Nat := 33) (sup : Nat := 0) (ifs : Array Nat := #[]) (fds : Array FieldInfo := #[]) : ClassFile where
  minorVersion := 0
  majorVersion := 65
  constantPool := pool
  accessFlags := fl
  thisClass := this
  superClass := sup
  interfaces := ifs
  fields := fds
  methods := ms
  attributes := attrs
def plain (name : String) (sup : Option ClassId) : Class where
  name := name
  kind := .ordinary
  loader := none
  accessFlags := 33
  super := sup
  interfaces := #[]
  cf := none
  fields := #[]
  methods := #[]
  instanceTypes := #[]
  staticTypes := #[]
  resolved := #[]
  callSites := []
  init := .initialized
  statics := none
  mirror := none

def pool0 : Array CpInfo := pool [(5, u "<init>"), (0, u "()V"), (1, .class_ 10), (1, u "java/lang/Object")] 113

def k0c0 : Code := { maxStack := 0, maxLocals := 1, code := object_method_1_code, exceptionTable := #[], attributes := #[] }
def k0m0 : Method := { name := "<init>", desc := "()V", sig := { parameters := [], returnType := none }, accessFlags := 1, code := some k0c0 }
/-- java/lang/Object -/
def k0 : Class := { plain "java/lang/Object" none with
  accessFlags := 33
  interfaces := #[]
  cf := some (fileOf pool0 8 #[] #[{ accessFlags := 1, nameIndex := 5, descriptorIndex := 6, attributes := #[] }] 33 0 #[] #[])
  fields := #[]
  methods := #[k0m0]
  instanceTypes := #[]
  staticTypes := #[]
  resolved := Array.replicate 124 none
  statics := none }

def pool1 : Array CpInfo := pool [(2, .class_ 4), (1, u "java/lang/Object"), (0, u "<init>"), (0, u "()V"), (0, .methodref 8 9), (0, .class_ 10), (0, .nameAndType 11 12), (0, u "java/lang/Math"), (0, u "min"), (0, u "(II)I"), (0, .class_ 14), (0, u "tidestone/parquet/HashSlots"), (0, .methodref 13 16), (0, .nameAndType 5 17), (0, u "(I)V"), (0, .methodref 13 19), (0, .nameAndType 20 21), (0, u "put"), (0, u "(II)Z"), (0, .methodref 13 23), (0, .nameAndType 24 25), (0, u "id"), (0, u "(I)I"), (0, .class_ 27), (0, u "tidestone/parquet/HashSlotsPutPinLaw"), (2, u "law"), (0, u "(IIII)Z")] 3

def k1m0 : Method := { name := "<init>", desc := "()V", sig := { parameters := [], returnType := none }, accessFlags := 1, code := none }
def k1c1 : Code := { maxStack := 3, maxLocals := 16, code := code, exceptionTable := #[], attributes := #[] }
def k1m1 : Method := { name := "law", desc := "(IIII)Z", sig := { parameters := [.int, .int, .int, .int], returnType := some .boolean }, accessFlags := 9, code := some k1c1 }
/-- tidestone/parquet/HashSlotsPutPinLaw -/
def k1 : Class := { plain "tidestone/parquet/HashSlotsPutPinLaw" (some 0) with
  accessFlags := 49
  interfaces := #[]
  cf := some (fileOf pool1 26 #[] #[{ accessFlags := 1, nameIndex := 5, descriptorIndex := 6, attributes := #[] }, { accessFlags := 9, nameIndex := 30, descriptorIndex := 31, attributes := #[] }] 49 2 #[] #[])
  fields := #[]
  methods := #[k1m0, k1m1]
  instanceTypes := #[]
  staticTypes := #[]
  resolved := Array.replicate 35 none
  statics := none }

def pool2 : Array CpInfo := pool [(1, .class_ 2), (0, u "java/lang/Math"), (1, .class_ 6), (1, u "java/lang/Object"), (0, u "<init>"), (0, u "()V"), (89, .class_ 100), (1, u "java/lang/Math$RandomNumberGeneratorHolder"), (71, u "negativeZeroFloatBits"), (0, u "J"), (2, u "negativeZeroDoubleBits"), (24, u "min"), (43, u "$assertionsDisabled"), (0, u "Z"), (88, u "(II)I"), (2, u "twoToTheDoubleScaleDown"), (0, u "D"), (4, u "twoToTheDoubleScaleUp"), (9, u "E"), (3, u "PI"), (2, u "TAU"), (2, u "DEGREES_TO_RADIANS"), (0, u "RADIANS_TO_DEGREES")] 94

def k2m0 : Method := { name := "<init>", desc := "()V", sig := { parameters := [], returnType := none }, accessFlags := 2, code := none }
def k2c1 : Code := { maxStack := 2, maxLocals := 2, code := jdk_29_method_69_code, exceptionTable := #[], attributes := #[] }
def k2m1 : Method := { name := "min", desc := "(II)I", sig := { parameters := [.int, .int], returnType := some .int }, accessFlags := 9, code := some k2c1 }
/-- java/lang/Math -/
def k2 : Class := { plain "java/lang/Math" (some 0) with
  accessFlags := 49
  interfaces := #[]
  cf := some (fileOf pool2 1 #[.nestMembers #[98]] #[{ accessFlags := 2, nameIndex := 7, descriptorIndex := 8, attributes := #[] }, { accessFlags := 9, nameIndex := 201, descriptorIndex := 335, attributes := #[] }] 49 4 #[] #[{ accessFlags := 25, nameIndex := 354, descriptorIndex := 339, attributes := #[] }, { accessFlags := 25, nameIndex := 358, descriptorIndex := 339, attributes := #[] }, { accessFlags := 25, nameIndex := 361, descriptorIndex := 339, attributes := #[] }, { accessFlags := 26, nameIndex := 364, descriptorIndex := 339, attributes := #[] }, { accessFlags := 26, nameIndex := 365, descriptorIndex := 339, attributes := #[] }, { accessFlags := 26, nameIndex := 172, descriptorIndex := 173, attributes := #[] }, { accessFlags := 26, nameIndex := 176, descriptorIndex := 173, attributes := #[] }, { accessFlags := 8, nameIndex := 344, descriptorIndex := 339, attributes := #[] }, { accessFlags := 8, nameIndex := 338, descriptorIndex := 339, attributes := #[] }, { accessFlags := 4120, nameIndex := 245, descriptorIndex := 246, attributes := #[] }])
  fields := #[{ name := "E", type := .double, accessFlags := 25, slot := 0, constantValue := 0 }, { name := "PI", type := .double, accessFlags := 25, slot := 1, constantValue := 0 }, { name := "TAU", type := .double, accessFlags := 25, slot := 2, constantValue := 0 }, { name := "DEGREES_TO_RADIANS", type := .double, accessFlags := 26, slot := 3, constantValue := 0 }, { name := "RADIANS_TO_DEGREES", type := .double, accessFlags := 26, slot := 4, constantValue := 0 }, { name := "negativeZeroFloatBits", type := .long, accessFlags := 26, slot := 5, constantValue := 0 }, { name := "negativeZeroDoubleBits", type := .long, accessFlags := 26, slot := 6, constantValue := 0 }, { name := "twoToTheDoubleScaleUp", type := .double, accessFlags := 8, slot := 7, constantValue := 0 }, { name := "twoToTheDoubleScaleDown", type := .double, accessFlags := 8, slot := 8, constantValue := 0 }, { name := "$assertionsDisabled", type := .boolean, accessFlags := 4120, slot := 9, constantValue := 0 }]
  methods := #[k2m0, k2m1]
  instanceTypes := #[]
  staticTypes := #[.double, .double, .double, .double, .double, .long, .long, .double, .double, .boolean]
  resolved := Array.replicate 460 none
  statics := none }

def pool3 : Array CpInfo := pool [(1, .methodref 2 3), (0, .class_ 4), (0, .nameAndType 5 6), (0, u "java/lang/Object"), (0, u "<init>"), (0, u "()V"), (0, .fieldref 8 9), (0, .class_ 10), (0, .nameAndType 11 12), (0, u "tidestone/parquet/HashSlots"), (0, u "slots"), (0, u "[I"), (0, .fieldref 8 14), (0, .nameAndType 15 16), (0, u "taken"), (0, u "I"), (5, u "(I)I"), (6, u "(I)V"), (4, u "id"), (0, u "put"), (0, u "(II)Z")] 8

def k3c0 : Code := { maxStack := 2, maxLocals := 2, code := prog_84_method_1_code, exceptionTable := #[], attributes := #[] }
def k3m0 : Method := { name := "<init>", desc := "(I)V", sig := { parameters := [.int], returnType := none }, accessFlags := 1, code := some k3c0 }
def k3c1 : Code := { maxStack := 2, maxLocals := 2, code := prog_84_method_4_code, exceptionTable := #[], attributes := #[] }
def k3m1 : Method := { name := "id", desc := "(I)I", sig := { parameters := [.int], returnType := some .int }, accessFlags := 1, code := some k3c1 }
def k3c2 : Code := { maxStack := 4, maxLocals := 3, code := prog_84_method_5_code, exceptionTable := #[], attributes := #[] }
def k3m2 : Method := { name := "put", desc := "(II)Z", sig := { parameters := [.int, .int], returnType := some .boolean }, accessFlags := 1, code := some k3c2 }
/-- tidestone/parquet/HashSlots -/
def k3 : Class := { plain "tidestone/parquet/HashSlots" (some 0) with
  accessFlags := 49
  interfaces := #[]
  cf := some (fileOf pool3 8 #[] #[{ accessFlags := 1, nameIndex := 5, descriptorIndex := 29, attributes := #[] }, { accessFlags := 1, nameIndex := 34, descriptorIndex := 22, attributes := #[] }, { accessFlags := 1, nameIndex := 35, descriptorIndex := 36, attributes := #[] }] 49 2 #[] #[{ accessFlags := 2, nameIndex := 11, descriptorIndex := 12, attributes := #[] }, { accessFlags := 2, nameIndex := 15, descriptorIndex := 16, attributes := #[] }])
  fields := #[{ name := "slots", type := (.array .int), accessFlags := 2, slot := 0, constantValue := 0 }, { name := "taken", type := .int, accessFlags := 2, slot := 1, constantValue := 0 }]
  methods := #[k3m0, k3m1, k3m2]
  instanceTypes := #[(.array .int), .int]
  staticTypes := #[]
  resolved := Array.replicate 45 none
  statics := none }

def pool4 : Array CpInfo := pool [(1, u "java/lang/Cloneable"), (0, .class_ 1), (0, u "java/lang/Object"), (0, .class_ 3)] 3

/-- java/lang/Cloneable -/
def k4 : Class := { plain "java/lang/Cloneable" (some 0) with
  accessFlags := 1537
  interfaces := #[]
  cf := some (fileOf pool4 2 #[] #[] 1537 4 #[] #[])
  fields := #[]
  methods := #[]
  instanceTypes := #[]
  staticTypes := #[]
  resolved := Array.replicate 8 none
  statics := none }

def pool5 : Array CpInfo := pool [(1, u "java/io/Serializable"), (0, .class_ 1), (0, u "java/lang/Object"), (0, .class_ 3)] 3

/-- java/io/Serializable -/
def k5 : Class := { plain "java/io/Serializable" (some 0) with
  accessFlags := 1537
  interfaces := #[]
  cf := some (fileOf pool5 2 #[] #[] 1537 4 #[] #[])
  fields := #[]
  methods := #[]
  instanceTypes := #[]
  staticTypes := #[]
  resolved := Array.replicate 8 none
  statics := none }

/-- the primitive byte -/
def k6 : Class := { plain "byte" none with kind := .primitive 'B', accessFlags := 0x411 }
/-- [B -/
def k7 : Class := { plain "[B" (some 0) with kind := .array 6 .byte, interfaces := #[4, 5], accessFlags := 1041 }

/-- the primitive int -/
def k8 : Class := { plain "int" none with kind := .primitive 'I', accessFlags := 0x411 }
/-- [I -/
def k9 : Class := { plain "[I" (some 0) with kind := .array 8 .int, interfaces := #[4, 5], accessFlags := 1041 }

def heap : Heap := #[]
def classes : Array Class := #[k0, k1, k2, k3, k4, k5, k6, k7, k8, k9]
def interned : List (Array UInt16 × Addr) := []
def slotsUsed : Nat := 0
def theMethod : MethodId := ⟨1, 1⟩
def args0 : Array Value := #[.int 3, .int 4, .int 9, .int 18]
def aboutOver (below : List Frame) : State where
  vm := { classes := classes, interned := interned.toArray }
  heap := heap
  slotsUsed := slotsUsed
  threads := #[{ frames := .invoking theMethod args0 :: below }]
def below0 : List Frame := [.native { method := ⟨0, 0⟩, args := #[] }]
def about1 : State := aboutOver below0
def p0 : Program := .bare "" "" ""
def e0 : Env := launch0.env 0 0 0
theorem w_frames : about1.frames = Frame.invoking theMethod args0 :: below0 := rfl
set_option maxRecDepth 65536 in
theorem w_args : argsFit about1.vm theMethod args0 = true := by decide +kernel
set_option maxRecDepth 65536 in
theorem w_heap : heapFits about1 = true := by decide +kernel
set_option maxRecDepth 65536 in
theorem w_runnable : about1.curStatus? = some .runnable := by decide +kernel
set_option maxRecDepth 65536 in
theorem w_alone : about1.alone = true := by decide +kernel
set_option maxRecDepth 65536 in
theorem w_named : about1.methodNamed? x = some theMethod := by decide +kernel
set_option maxRecDepth 65536 in
theorem w_hears : about1.hears theMethod below0 = true := by decide +kernel
set_option maxRecDepth 65536 in
theorem w_ripe : about1.ripe theMethod args0 below0 = true := by decide +kernel
theorem w_running : about1.status = .running := rfl
set_option maxRecDepth 65536 in
theorem w_room : about1.hasRoom e0.platform room_1 = true :=
  launch0.hasRoom_least _ room_1 (by decide +kernel) (by decide +kernel) (by decide +kernel) (by decide +kernel) (by decide +kernel) (by decide +kernel)
theorem allAtoms_all (ts : List Jvm.Cond) (a : Array Jvm.Value) (st : Jvm.State) : (allAtoms ts).before a st = ts.all (fun c => c.before a st) := by
  induction ts with
  | nil => rfl
  | cons c t ih =>
    show (Jvm.Cond.and c (allAtoms t)).before a st = _
    rw [Jvm.Cond.before_and, ih, List.all_cons]
def words1 : List Jvm.Cond := Jvm.Cond.code x code maxLocals ret :: tables_1
/-- a 'code' word, met by the world's own term for the bytes: nothing is compared byte by byte -/
theorem code_word {y : MethodName} {bytes : ByteArray} {mx : Nat} {rt : Option FieldType} {a : Array Value} {s : State} {m : MethodId} {meth : Method} {c : Code} (h1 : s.methodNamed? y = some m) (h2 : s.vm.method? m = some meth) (h3 : meth.code = some c) (h4 : c.code = bytes)
    (h5 : (c.maxLocals == mx && c.exceptionTable.isEmpty && decide (c.maxStack ≤ mostOperands) && decide (meth.sig.returnType = rt) && !meth.locks && decide (parseMethodDescriptor y.desc = some meth.sig)) = true) : (Jvm.Cond.code y bytes mx rt).before a s = true := by
  simp only [Bool.and_eq_true, beq_iff_eq, Bool.not_eq_true', decide_eq_true_eq] at h5
  obtain ⟨⟨⟨⟨⟨g1, g2⟩, g3⟩, g4⟩, g5⟩, g6⟩ := h5
  simp [Cond.before, Cond.holds, Cond.value, h1, h2, h3, h4, g1, g2, g3, g4, g5, g6]
def isCode : Jvm.Cond → Bool
  | .code _ _ _ _ => true
  | _ => false
theorem all_split {L : List Jvm.Cond} {P : Jvm.Cond → Bool} (h1 : L.all (fun c => isCode c || P c) = true) (h2 : ∀ c ∈ L.filter isCode, P c = true) : L.all P = true := by
  refine List.all_eq_true.mpr fun c hc => ?_
  have h := List.all_eq_true.mp h1 c hc
  rcases Bool.eq_false_or_eq_true (isCode c) with hi | hi
  · exact h2 c (List.mem_filter.mpr ⟨hc, hi⟩)
  · simpa [hi] using h
set_option maxRecDepth 65536 in
theorem w_c0 : (Jvm.Cond.code x code maxLocals ret).before args0 about1 = true := code_word (m := ⟨1, 1⟩) (meth := k1m1) (c := k1c1) (by decide +kernel) rfl rfl rfl (by decide +kernel)
set_option maxRecDepth 65536 in
theorem w_c1 : (Jvm.Cond.code ({ cls := "java/lang/Math", name := "min", desc := "(II)I" } : Jvm.MethodName) jdk_29_method_69_code (2 : Nat) (Option.some Jvm.ClassFile.FieldType.int)).before args0 about1 = true := code_word (m := ⟨2, 1⟩) (meth := k2m1) (c := k2c1) (by decide +kernel) rfl rfl rfl (by decide +kernel)
set_option maxRecDepth 65536 in
theorem w_c2 : (Jvm.Cond.code ({ cls := "tidestone/parquet/HashSlots", name := "<init>", desc := "(I)V" } : Jvm.MethodName) prog_84_method_1_code (2 : Nat) (Option.none : Option Jvm.ClassFile.FieldType)).before args0 about1 = true := code_word (m := ⟨3, 0⟩) (meth := k3m0) (c := k3c0) (by decide +kernel) rfl rfl rfl (by decide +kernel)
set_option maxRecDepth 65536 in
theorem w_c3 : (Jvm.Cond.code ({ cls := "java/lang/Object", name := "<init>", desc := "()V" } : Jvm.MethodName) object_method_1_code (1 : Nat) (Option.none : Option Jvm.ClassFile.FieldType)).before args0 about1 = true := code_word (m := ⟨0, 0⟩) (meth := k0m0) (c := k0c0) (by decide +kernel) rfl rfl rfl (by decide +kernel)
set_option maxRecDepth 65536 in
theorem w_c4 : (Jvm.Cond.code ({ cls := "tidestone/parquet/HashSlots", name := "put", desc := "(II)Z" } : Jvm.MethodName) prog_84_method_5_code (3 : Nat) (Option.some Jvm.ClassFile.FieldType.boolean)).before args0 about1 = true := code_word (m := ⟨3, 2⟩) (meth := k3m2) (c := k3c2) (by decide +kernel) rfl rfl rfl (by decide +kernel)
set_option maxRecDepth 65536 in
theorem w_c5 : (Jvm.Cond.code ({ cls := "tidestone/parquet/HashSlots", name := "id", desc := "(I)I" } : Jvm.MethodName) prog_84_method_4_code (2 : Nat) (Option.some Jvm.ClassFile.FieldType.int)).before args0 about1 = true := code_word (m := ⟨3, 1⟩) (meth := k3m1) (c := k3c1) (by decide +kernel) rfl rfl rfl (by decide +kernel)
def codes1 : List Jvm.Cond := [Jvm.Cond.code x code maxLocals ret, Jvm.Cond.code ({ cls := "java/lang/Math", name := "min", desc := "(II)I" } : Jvm.MethodName) jdk_29_method_69_code (2 : Nat) (Option.some Jvm.ClassFile.FieldType.int), Jvm.Cond.code ({ cls := "tidestone/parquet/HashSlots", name := "<init>", desc := "(I)V" } : Jvm.MethodName) prog_84_method_1_code (2 : Nat) (Option.none : Option Jvm.ClassFile.FieldType), Jvm.Cond.code ({ cls := "java/lang/Object", name := "<init>", desc := "()V" } : Jvm.MethodName) object_method_1_code (1 : Nat) (Option.none : Option Jvm.ClassFile.FieldType), Jvm.Cond.code ({ cls := "tidestone/parquet/HashSlots", name := "put", desc := "(II)Z" } : Jvm.MethodName) prog_84_method_5_code (3 : Nat) (Option.some Jvm.ClassFile.FieldType.boolean), Jvm.Cond.code ({ cls := "tidestone/parquet/HashSlots", name := "id", desc := "(I)I" } : Jvm.MethodName) prog_84_method_4_code (2 : Nat) (Option.some Jvm.ClassFile.FieldType.int)]
set_option maxRecDepth 65536 in
theorem codes_eq : words1.filter isCode = codes1 := rfl
theorem w_codes : ∀ c ∈ words1.filter isCode, c.before args0 about1 = true := by
  rw [codes_eq]
  intro c hc
  simp only [codes1, List.mem_cons, List.not_mem_nil, or_false] at hc
  rcases hc with rfl | rfl | rfl | rfl | rfl | rfl
  · exact w_c0
  · exact w_c1
  · exact w_c2
  · exact w_c3
  · exact w_c4
  · exact w_c5
set_option maxRecDepth 65536 in
theorem w_t1 : (words1.take 24).all (fun c => isCode c || c.before args0 about1) = true := by decide +kernel
set_option maxRecDepth 65536 in
theorem w_t2 : (words1.drop 24).all (fun c => isCode c || c.before args0 about1) = true := by decide +kernel
theorem w_tables : (allAtoms (Jvm.Cond.code x code maxLocals ret :: tables_1)).before args0 about1 = true := by
  rw [allAtoms_all]
  show words1.all (fun c => c.before args0 about1) = true
  refine all_split ?_ w_codes
  rw [← List.take_append_drop 24 words1, List.all_append, w_t1, w_t2]
  rfl
set_option maxRecDepth 65536 in
theorem w_case : (Jvm.Cond.and given_1 narrow_1).before args0 about1 = true := by decide +kernel
theorem w_applies : (headSpec (Jvm.Cond.code x code maxLocals ret :: tables_1) room_1).applies x e0.platform about1 = true :=
  (Spec.applies_iff w_frames).mpr ⟨w_running, w_runnable, w_alone, w_named, w_hears, w_ripe, w_room, w_tables⟩
theorem atStart : AtStart classFile x code maxLocals ret World_1 tables_1 room_1 Calls_1 rest_1 Pre_1 launch0 p0 e0 about1 theMethod args0 below0 :=
  ⟨lists_1, trivial, launch0.admits_env _ _ _, launch0.least_env, fairChoices_fair.cas, fairChoices_fair.clock, w_frames, w_args, w_heap, w_applies, trivial, trivial, w_case⟩
end start1
theorem witness_1 : WitnessClaimed_1 := ⟨start1.p0, start1.e0, start1.about1, start1.theMethod, start1.args0, start1.below0, start1.atStart⟩
end Jvm.Pilot.@@N@@
