import JvmDerived
import JvmDerived.Pilot.@@N@@Statement
import JvmDerived.Pilot.@@N@@Code
set_option linter.unusedVariables false
set_option linter.unusedSimpArgs false
namespace Jvm.OwnW
open Jvm Jvm.ClassFile Sem Op Lib Jvm.Free Jvm.Stand Jvm.LawKit Jvm.RoadKit
/-! ## shifts -/
def ushrI (x y : Int32) : Int32 := (x.toUInt32 >>> (y &&& 31).toUInt32).toInt32
def shlL (x : Int64) (y : Int32) : Int64 := x <<< (y &&& 0x3f).toInt64
def shrL (x : Int64) (y : Int32) : Int64 := x >>> (y &&& 0x3f).toInt64
def ushrL (x : Int64) (y : Int32) : Int64 := (x.toUInt64 >>> (y &&& 0x3f).toInt64.toUInt64).toInt64
theorem ushrI_c (x q : Int32) (k : Nat) (hk : q.toBitVec.toNat % 32 = k) (h0 : 0 < k) : (ushrI x q).toInt = (x.toInt % 4294967296) / (2 ^ k : Nat) := c_iushr x q k hk h0
theorem shlL_c (x : Int64) (q : Int32) (k : Nat) (hk : q.toBitVec.toNat % 64 = k) : ((shlL x q).toInt - x.toInt * (2 ^ k : Nat)) % 18446744073709551616 = 0 := c_lshl x q k hk
theorem shrL_c (x : Int64) (q : Int32) (k : Nat) (hk : q.toBitVec.toNat % 64 = k) : (shrL x q).toInt = x.toInt / (2 ^ k : Nat) := c_lshr x q k hk
theorem ushrL_c (x : Int64) (q : Int32) (k : Nat) (hk : q.toBitVec.toNat % 64 = k) (h0 : 0 < k) : (ushrL x q).toInt = (x.toInt % 18446744073709551616) / (2 ^ k : Nat) := c_lushr x q k hk h0
theorem ushrL_0 (x : Int64) : ushrL x 0 = x := by
  show (x.toUInt64 >>> (0 : UInt64)).toInt64 = x
  simp
/-! ## what the walk's own cells hold -/
/-- a field: the class that declares it, its name, its descriptor, its value -/
abbrev FldE := String × String × String × Value
/-- an object (its class, its fields) or an array (its component's kind, its values) -/
abbrev Obj := (String × List FldE) ⊕ (FieldType × List Value)
abbrev HL := List (Addr × Obj)
def Is (Z : State) (h : Heap) (a : Addr) : Obj → Prop
  | .inl (C, fs) => Exa Z h a C ∧ (∀ f ∈ fs, Fld Z h a f.1 f.2.1 f.2.2.1 f.2.2.2) ∧ fs.Pairwise fun f g => RoadKit.slotOf Z f.1 f.2.1 f.2.2.1 ≠ RoadKit.slotOf Z g.1 g.2.1 g.2.2.1
  | .inr (ty, vs) => ∃ c : Cell, Arr Z h a c ty ∧ Exa Z h a ("[" ++ ty.toString) ∧ c.slots.toList = vs ∧ vs.length < 2 ^ 31
def Hp (Z : State) (n0 kb : Nat) (h : Heap) (L : HL) : Prop :=
  (Old Z n0 h ∧ kb ≤ h.size) ∧ (∀ (i : Nat) (a : Addr) (o : Obj), L[i]? = some (a, o) → n0 ≤ a ∧ Is Z h a o) ∧ ∀ (i j : Nat) (a : Addr) (o o' : Obj), L[i]? = some (a, o) → L[j]? = some (a, o') → i = j
section Heaps
variable {Z : State} {a0 : Array Value} {n0 kb : Nat} {h h' : Heap} {a b : Addr} {o : Obj} {L : HL}
theorem Is.lt (F : Is Z h a o) : a < h.size := by
  rcases o with ⟨C, fs⟩ | ⟨ty, vs⟩
  · exact F.1.lt
  · obtain ⟨c, A, -⟩ := F; exact A.lt
theorem Is.ext (F : Is Z h a o) (E : Ext h h') : Is Z h' a o := by
  rcases o with ⟨C, fs⟩ | ⟨ty, vs⟩
  · exact ⟨F.1.ext E, fun f hf => (F.2.1 f hf).ext E, F.2.2⟩
  · obtain ⟨c, A, X, r⟩ := F; exact ⟨c, A.ext E, X.ext E, r⟩
theorem Is.other {sl : Nat} {v : Value} (F : Is Z h b o) (W : Wr h h' a sl v) (q : b ≠ a) : Is Z h' b o := by
  rcases o with ⟨C, fs⟩ | ⟨ty, vs⟩
  · exact ⟨F.1.wr W, fun f hf => (F.2.1 f hf).other W (Or.inl q), F.2.2⟩
  · obtain ⟨c, A, X, r⟩ := F; exact ⟨c, A.other W q, X.wr W, r⟩
theorem Hp.nil (O : Old Z n0 h) (hk : kb ≤ h.size) : Hp Z n0 kb h [] := ⟨⟨O, hk⟩, fun i a o q => by simp at q, fun i j a o o' q => by simp at q⟩
theorem Hp.at (H : Hp Z n0 kb h L) {i : Nat} (q : L[i]? = some (a, o)) : Is Z h a o := (H.2.1 i a o q).2
theorem Hp.obj {C : String} {fs : List FldE} (H : Hp Z n0 kb h L) {i : Nat} (q : L[i]? = some (a, .inl (C, fs))) : Exa Z h a C ∧ (∀ f ∈ fs, Fld Z h a f.1 f.2.1 f.2.2.1 f.2.2.2) ∧ fs.Pairwise fun f g => RoadKit.slotOf Z f.1 f.2.1 f.2.2.1 ≠ RoadKit.slotOf Z g.1 g.2.1 g.2.2.1 := (H.2.1 i a _ q).2
theorem Hp.arr {ty : FieldType} {vs : List Value} (H : Hp Z n0 kb h L) {i : Nat} (q : L[i]? = some (a, .inr (ty, vs))) : ∃ c : Cell, Arr Z h a c ty ∧ Exa Z h a ("[" ++ ty.toString) ∧ c.slots.toList = vs ∧ vs.length < 2 ^ 31 := (H.2.1 i a _ q).2
theorem Hp.ge (H : Hp Z n0 kb h L) {i : Nat} (q : L[i]? = some (a, o)) : n0 ≤ a := (H.2.1 i a o q).1
theorem Hp.push (H : Hp Z n0 kb h L) (E : Ext h h') (hn : n0 ≤ h.size) (F : Is Z h' h.size o) : Hp Z n0 kb h' (L ++ [(h.size, o)]) := by
  have lt : ∀ {i : Nat} {b : Addr} {o' : Obj}, (L ++ [(h.size, o)])[i]? = some (b, o') → (i < L.length ∧ L[i]? = some (b, o') ∧ b < h.size) ∨ (i = L.length ∧ b = h.size ∧ o' = o) := by
    intro i b o' q
    by_cases hi : i < L.length
    · rw [List.getElem?_append_left hi] at q
      exact Or.inl ⟨hi, q, (H.at q).lt⟩
    · rw [List.getElem?_append_right (Nat.le_of_not_lt hi)] at q
      have : i - L.length = 0 := by
        cases hk : i - L.length with
        | zero => rfl
        | succ k => rw [hk] at q; simp at q
      rw [this] at q
      simp at q
      exact Or.inr ⟨by omega, q.1.symm, q.2.symm⟩
  refine ⟨⟨H.1.1.ext E, Nat.le_trans H.1.2 E.1⟩, fun i b o' q => ?_, fun i j b o1 o2 q1 q2 => ?_⟩
  · rcases lt q with ⟨-, q', -⟩ | ⟨-, rfl, rfl⟩
    · exact ⟨H.ge q', (H.at q').ext E⟩
    · exact ⟨hn, F⟩
  · rcases lt q1 with ⟨-, q1', r1⟩ | ⟨e1, r1, -⟩ <;> rcases lt q2 with ⟨-, q2', r2⟩ | ⟨e2, r2, -⟩
    · exact H.2.2 i j b o1 o2 q1' q2'
    · exact absurd r2 (Nat.ne_of_lt r1)
    · exact absurd r1 (Nat.ne_of_lt r2)
    · exact e1.trans e2.symm
theorem Hp.size (H : Hp Z n0 kb h L) : n0 ≤ h.size := H.1.1.1 ▸ H.1.1.2.1
theorem Hp.lower {kb' : Nat} (H : Hp Z n0 kb h L) (q : kb' ≤ h.size) : Hp Z n0 kb' h L := ⟨⟨H.1.1, q⟩, H.2⟩
theorem Hp.put {sl : Nat} {v : Value} {o' : Obj} (H : Hp Z n0 kb h L) {i : Nat} (q : L[i]? = some (a, o)) (W : Wr h h' a sl v) (F : Is Z h' a o') : Hp Z n0 kb h' (L.set i (a, o')) := by
  have at' : ∀ {j : Nat} {b : Addr} {o2 : Obj}, (L.set i (a, o'))[j]? = some (b, o2) → (j = i ∧ b = a ∧ o2 = o') ∨ (j ≠ i ∧ L[j]? = some (b, o2)) := by
    intro j b o2 r
    by_cases hj : j = i
    · subst hj
      rw [List.getElem?_set_self (List.getElem?_eq_some_iff.mp q).1] at r
      simp at r
      exact Or.inl ⟨rfl, r.1.symm, r.2.symm⟩
    · rw [List.getElem?_set_ne (Ne.symm hj)] at r
      exact Or.inr ⟨hj, r⟩
  refine ⟨⟨H.1.1.wr W (H.ge q), by rw [W.size]; exact H.1.2⟩, fun j b o2 r => ?_, fun j j' b o1 o2 r1 r2 => ?_⟩
  · rcases at' r with ⟨rfl, rfl, rfl⟩ | ⟨hj, r'⟩
    · exact ⟨H.ge q, F⟩
    · exact ⟨H.ge r', (H.at r').other W fun e => hj (by subst e; exact H.2.2 _ _ _ _ _ r' q)⟩
  · rcases at' r1 with ⟨rfl, rfl, rfl⟩ | ⟨n1, r1'⟩ <;> rcases at' r2 with ⟨rfl, e2, -⟩ | ⟨n2, r2'⟩
    · rfl
    · exact absurd (H.2.2 _ _ _ _ _ r2' q) n2
    · subst e2; exact absurd (H.2.2 _ _ _ _ _ r1' q) n1
    · exact H.2.2 _ _ _ _ _ r1' r2'
theorem Is.field {C : String} {fs : List FldE} {j : Nat} {O n d : String} {v w : Value} (F : Is Z h a (.inl (C, fs))) (q : fs[j]? = some (O, n, d, w)) (W : Wr h h' a (RoadKit.slotOf Z O n d) v) : Is Z h' a (.inl (C, fs.set j (O, n, d, v))) := by
  obtain ⟨E, A, D⟩ := F
  obtain ⟨hj, e⟩ := List.getElem?_eq_some_iff.mp q
  have nth : ∀ k g, k ≠ j → fs[k]? = some g → RoadKit.slotOf Z g.1 g.2.1 g.2.2.1 ≠ RoadKit.slotOf Z O n d := by
    intro k g hk r
    obtain ⟨hk', e'⟩ := List.getElem?_eq_some_iff.mp r
    rw [List.pairwise_iff_getElem] at D
    rcases Nat.lt_or_gt_of_ne hk with u | u
    · have := D k j hk' hj u; rw [e, e'] at this; exact this
    · have := D j k hj hk' u; rw [e, e'] at this; exact Ne.symm this
  refine ⟨E.wr W, fun f hf => ?_, ?_⟩
  · obtain ⟨k, hk, ek⟩ := List.mem_iff_getElem.mp hf
    by_cases hkj : k = j
    · subst hkj
      have : f = (O, n, d, v) := by rw [← ek]; simp
      subst this
      exact (A (O, n, d, w) (List.mem_of_getElem? q)).same W
    · have r : fs[k]? = some f := by
        have : (fs.set j (O, n, d, v))[k]? = some f := List.getElem?_eq_some_iff.mpr ⟨hk, ek⟩
        rwa [List.getElem?_set_ne (Ne.symm hkj)] at this
      exact (A f (List.mem_of_getElem? r)).other W (Or.inr (nth k f hkj r))
  · have em : (fs.set j (O, n, d, v)).map (fun f => RoadKit.slotOf Z f.1 f.2.1 f.2.2.1) = fs.map (fun f => RoadKit.slotOf Z f.1 f.2.1 f.2.2.1) := by
      rw [List.map_set]
      refine List.ext_getElem? fun k => ?_
      by_cases hkj : j = k
      · subst hkj
        rw [List.getElem?_set_self (by simpa using hj)]
        simp [q]
      · rw [List.getElem?_set_ne hkj]
    have D' : (fs.map (fun f => RoadKit.slotOf Z f.1 f.2.1 f.2.2.1)).Pairwise (· ≠ ·) := List.pairwise_map.mpr D
    rw [← em] at D'
    exact List.pairwise_map.mp D'
theorem Is.elem {ty : FieldType} {vs : List Value} {v : Value} {c : Cell} (A : Arr Z h a c ty) (X : Exa Z h a ("[" ++ ty.toString)) (e : c.slots.toList = vs) (hl : vs.length < 2 ^ 31) {j : Nat} (W : Wr h h' a j v) : Is Z h' a (.inr (ty, vs.set j v)) :=
  ⟨c.setSlot j v, A.same W, X.wr W, by subst e; simp [Cell.setSlot], by simpa using hl⟩
/-- the fields of a fresh object -/
def FOk (Z : State) (a0 : Array Value) (C : String) : List FldE → Prop
  | [] => True
  | (O, n, d, v) :: r => Laid Z a0 C O n d ∧ (∃ ty, parseFieldDescriptor d = some ty ∧ v = defaultValue ty) ∧ FOk Z a0 C r
theorem FOk.cons {C O n d : String} {v : Value} {ty : FieldType} {r : List FldE} (l : Laid Z a0 C O n d) (p : parseFieldDescriptor d = some ty) (e : v = defaultValue ty) (k : FOk Z a0 C r) : FOk Z a0 C ((O, n, d, v) :: r) := ⟨l, ⟨ty, p, e⟩, k⟩
theorem FOk.mem {C : String} : ∀ {fs : List FldE}, FOk Z a0 C fs → ∀ f ∈ fs, Laid Z a0 C f.1 f.2.1 f.2.2.1 ∧ ∃ ty, parseFieldDescriptor f.2.2.1 = some ty ∧ f.2.2.2 = defaultValue ty
  | [], _, _, hf => by simp at hf
  | (O, n, d, v) :: r, k, f, hf => by
    rcases List.mem_cons.mp hf with rfl | hf
    · exact ⟨k.1, k.2.1⟩
    · exact FOk.mem k.2.2 f hf
theorem FOk.pw {C : String} {fs : List FldE} (k : FOk Z a0 C fs) (hn : (fs.map fun f => f.2.1).Nodup) : fs.Pairwise fun f g => RoadKit.slotOf Z f.1 f.2.1 f.2.2.1 ≠ RoadKit.slotOf Z g.1 g.2.1 g.2.2.1 := by
  have hn' : fs.Pairwise fun f g => f.2.1 ≠ g.2.1 := List.pairwise_map.mp hn
  refine List.Pairwise.imp_of_mem ?_ hn'
  intro f g hf hg q
  obtain ⟨l1, t1, p1, -⟩ := k.mem f hf
  obtain ⟨l2, t2, p2, -⟩ := k.mem g hg
  exact slot_ne l1 l2 q p1 p2
theorem set_at {L : HL} {i : Nat} {q r : Addr × Obj} (h : L[i]? = some q) : (L.set i r)[i]? = some r := List.getElem?_set_self (List.getElem?_eq_some_iff.mp h).1
theorem set_ne {L : HL} {i j : Nat} {q r : Addr × Obj} (n : i ≠ j) (h : L[j]? = some q) : (L.set i r)[j]? = some q := (List.getElem?_set_ne n).trans h
end Heaps
/-! ## the walk: where it stands, and that it comes to its end -/
def Wd (p : Program) (l : Launch) (e : Env) (R : Room) (s : State) (m : MethodId) (args : Array Value) (below : List Frame) (meth : Method) (c : Code) (Z : State) (a0 : Array Value) (n0 kb : Nat) (ws : List Cond)
    (y : MethodName) (bytes : ByteArray) (ml : Nat) (ret : Option FieldType) (T : State) (L : HL) (cells slots : Nat) : Prop :=
  (∃ locs, Stand p l e R s m args below meth c T locs cells slots ∧ Fr n0 locs) ∧ Hp Z n0 kb T.heap L ∧ p.tables.exec = Jvm.exec ∧ Z.Warmed39 s.vm ∧ s.vm.findClass y.cls = some m.cls ∧ c.code = bytes ∧ c.maxLocals = ml ∧
    meth.sig.returnType = ret ∧ meth.locks = false ∧ meth.name = y.name ∧ ∀ d ∈ ws, d.before a0 Z = true
/-- how a narrow walk ends: nothing of the tables has changed but what has been resolved -/
def EndN (s : State) (kc ks : Nat) (v : Option Value) (t : State) (Lc : List Loc) : Prop := FrameEnd s (.returned v) t Lc kc ks
def Go (p : Program) (e : Env) (below : List Frame) (Z : State) (n0 kg : Nat) (E : Option Value → State → List Loc → Prop) (P : Option Value → HL → Prop) (T : State) (g : JFrame) : Prop :=
  ∃ s₂ o, Steps p.tables e below (T.setTop g) s₂ ∧ s₂.status = .running ∧ Ended s₂ below o ∧ ∃ v Lc, o = .returned v ∧ (Fr n0 Lc ∧ ∃ L', Hp Z n0 kg s₂.heap L' ∧ P v L') ∧ E v s₂ Lc
/-- a method's contract: at these arguments and these cells it returns, with P of what it returns and of the cells -/
def Con (l : Launch) (y : MethodName) (bytes : ByteArray) (ml : Nat) (ret : Option FieldType) (rm : Room) (Z : State) (n0 : Nat) (as' : Array Value) (L : HL) (P : Option Value → HL → Prop) : Prop :=
  ∀ (wx : List Cond) (kb : Nat) (h : Heap), Hp Z n0 kb h L → MetFree l y (head1 (Cond.code y bytes ml ret :: wx) rm) (fun a U => a = as' ∧ Z.Warmed39 U.vm ∧ U.heap = h) (fun _ _ _ _ _ => True)
    (fun _ U o U' => ∃ v Lc, o = .returned v ∧ (Fr n0 Lc ∧ ∃ L', Hp Z n0 kb U'.heap L' ∧ P v L') ∧ FrameEnd U o U' Lc rm.cells rm.slots)
/-- what a call leaves on the stack -/
def pushV : Option Value → List Value → List Value
  | some v, r => v :: r
  | none, r => r
theorem pushV_eq (v : Option Value) (r : List Value) : v.toList ++ r = pushV v r := by cases v <;> rfl
section Walk
variable {p : Program} {l : Launch} {e : Env} {R : Room} {s : State} {m : MethodId} {args : Array Value} {below : List Frame} {meth : Method} {c : Code} {Z : State} {a0 : Array Value} {n0 kb kg : Nat} {ws : List Cond} {y : MethodName} {bytes : ByteArray} {ml : Nat} {ret : Option FieldType} {T T' : State} {L : HL} {cells slots : Nat} {P : Option Value → HL → Prop} {E : Option Value → State → List Loc → Prop} {kc ks : Nat}
theorem Go.pre {g g' : JFrame} (k : Go p e below Z n0 kg E P T' g') (f : ∀ t, Steps p.tables e below (T'.setTop g') t → Steps p.tables e below (T.setTop g) t) : Go p e below Z n0 kg E P T g := by
  obtain ⟨s₂, o, h1, r⟩ := k
  exact ⟨s₂, o, f _ h1, r⟩
theorem Go.mono {g : JFrame} {P' : Option Value → HL → Prop} (k : Go p e below Z n0 kg E P' T g) (f : ∀ v L, P' v L → P v L) : Go p e below Z n0 kg E P T g := by
  obtain ⟨s₂, o, h1, h2, h3, v, Lc, h4, ⟨h5, L', h6, h7⟩, h8⟩ := k
  exact ⟨s₂, o, h1, h2, h3, v, Lc, h4, ⟨h5, L', h6, f _ _ h7⟩, h8⟩
section Wds
variable (w : Wd p l e R s m args below meth c Z a0 n0 kb ws y bytes ml ret T L cells slots)
theorem Wd.here (w : Wd p l e R s m args below meth c Z a0 n0 kb ws y bytes ml ret T L cells slots) : At T m c below := by obtain ⟨⟨_, X, -⟩, -⟩ := w; exact X.here
theorem Wd.hx (w : Wd p l e R s m args below meth c Z a0 n0 kb ws y bytes ml ret T L cells slots) : p.tables.exec = Jvm.exec := w.2.2.1
theorem Wd.hby (w : Wd p l e R s m args below meth c Z a0 n0 kb ws y bytes ml ret T L cells slots) : c.code = bytes := w.2.2.2.2.2.1
theorem Wd.hp (w : Wd p l e R s m args below meth c Z a0 n0 kb ws y bytes ml ret T L cells slots) : Hp Z n0 kb T.heap L := w.2.1
theorem Wd.hw (w : Wd p l e R s m args below meth c Z a0 n0 kb ws y bytes ml ret T L cells slots) {k : Nat} {d : Cond} (h : ws[k]? = some d) : d.before a0 Z = true := w.2.2.2.2.2.2.2.2.2.2 _ (List.mem_of_getElem? h)
theorem Wd.to {L' : HL} (w : Wd p l e R s m args below meth c Z a0 n0 kb ws y bytes ml ret T L cells slots) (q : L = L') : Wd p l e R s m args below meth c Z a0 n0 kb ws y bytes ml ret T L' cells slots := q ▸ w
end Wds
theorem Con.of {rm : Room} {as' : Array Value} (hpl : plainFor y = true) (hws : ∀ d ∈ ws, d.before a0 Z = true)
    (body : ∀ {p : Program} {e : Env} {s : State} {m : MethodId} {below : List Frame} {meth : Method} {c : Code} {T : State} {kb : Nat}, Wd p l e rm s m as' below meth c Z a0 n0 kb ws y bytes ml ret T L 0 0 → Go p e below Z n0 kb (EndN s rm.cells rm.slots) P T (entryFrame m as' ml)) :
    Con l y bytes ml ret rm Z n0 as' L P := by
  intro wx kb h hH
  refine MetFree.of_bodySF hpl hisR ?_
  intro p e s m args below meth c s₁ Bd hml hP hK
  obtain ⟨rfl, hZ, hh⟩ := hP
  have X0 : Stand p l e rm s m args below meth c s₁ [] 0 0 := Stand.of_body Bd
  have e0 : s₁.heap = h := by rw [← hh, Bd.state]; rfl
  obtain ⟨s₂, o, h1, h2, h3, v, Lc, rfl, h5, h6⟩ := body ⟨⟨[], X0, Fr.nil n0⟩, by rw [e0]; exact hH, Bd.exec, hZ, findClass_of_methodNamed Bd.named, Bd.bytes, hml, Bd.returns, Bd.notSynchronized, (name_of_methodNamed Bd.named Bd.method).1, hws⟩
  obtain ⟨h5a, L', h5b, h5c⟩ := h5
  exact ⟨s₂, _, h1, h2, h3, v, Lc, rfl, ⟨h5a, L', h5b, h5c⟩, h6⟩
theorem g_entry {as' : Array Value} (Ls : Array Slot) (q : entryFrame m as' ml = mkF m 0 Ls []) (k : Go p e below Z n0 kg E P T (mkF m 0 Ls [])) : Go p e below Z n0 kg E P T (entryFrame m as' ml) := by rw [q]; exact k
theorem g_int {pc : Nat} {Ls : Array Slot} {x x' : Int32} {st : List Value} (q : x = x') (k : Go p e below Z n0 kg E P T (mkF m pc Ls (.int x' :: st))) : Go p e below Z n0 kg E P T (mkF m pc Ls (.int x :: st)) := by rw [q]; exact k
theorem g_long {pc : Nat} {Ls : Array Slot} {x x' : Int64} {st : List Value} (q : x = x') (k : Go p e below Z n0 kg E P T (mkF m pc Ls (.long x' :: st))) : Go p e below Z n0 kg E P T (mkF m pc Ls (.long x :: st)) := by rw [q]; exact k
theorem g_end {f : State → State} {fs : List Frame} {v : Option Value} {g : JFrame} {locs : List Loc} (X : Stand p l e R s m args below meth c T locs cells slots) (N : Fr n0 locs) (H : Hp Z n0 kb T.heap L) (hc : cells ≤ kc) (hs : slots ≤ ks) (hP : P v L)
    (st : Steps p.tables e below (T.setTop g) (T.setFrames fs)) (h1 : (T.setFrames fs).status = .running) (h2 : Ended (T.setFrames fs) below (.returned v)) (h3 : s.WarmedH (T.setFrames fs).vm) (h4 : s.sameButNew ({ T.setFrames fs with vm := s.vm } : State) locs cells slots) :
    Go p e below Z n0 kb (EndN s kc ks) P T g :=
  ⟨_, _, st, h1, h2, v, locs, rfl, ⟨N, L, H, hP⟩, ⟨_, rfl⟩, h3, h4.mono hc hs⟩
theorem g_ret (w : Wd p l e R s m args below meth c Z a0 n0 kb ws y bytes ml none T L cells slots) {pc : Nat} {Ls : Array Slot} (hd : decode bytes pc = .ok (.return_, 1)) (hc : cells ≤ kc) (hs : slots ≤ ks) (hP : P none L) :
    Go p e below Z n0 kb (EndN s kc ks) P T (mkF m pc Ls []) := by
  obtain ⟨⟨locs, X, N⟩, H, hx, hZ, hown, hby, hml, hret, hlk, hnm, hws⟩ := w
  obtain ⟨fs, hr, h1, h2, h3, h4⟩ := X.leave (v := none) (fun _ => rfl) hlk
  exact g_end (f := id) X N H hc hs hP (X.returnOut hx hret (hb hby hd) hr) h1 h2 h3 h4
theorem g_retW {t : FieldType} {i : Instr} (w : Wd p l e R s m args below meth c Z a0 n0 kb ws y bytes ml (some t) T L cells slots) {pc : Nat} {Ls : Array Slot} {v : Value} {st : List Value} (hd : decode bytes pc = .ok (i, 1)) (hn : narrow t v = v)
    (hi : (i = .ireturn ∧ (t = .int ∨ t = .boolean ∨ t = .byte ∨ t = .char ∨ t = .short) ∧ ∃ z, v = .int z) ∨ (i = .lreturn ∧ t = .long ∧ ∃ z, v = .long z) ∨ (i = .dreturn ∧ t = .double ∧ ∃ z, v = .double z) ∨ (i = .freturn ∧ t = .float ∧ ∃ z, v = .float z) ∨ (i = .areturn ∧ t.isReference = true ∧ v.isRef = true))
    (hc : cells ≤ kc) (hs : slots ≤ ks) (hP : P (some v) L) : Go p e below Z n0 kb (EndN s kc ks) P T (mkF m pc Ls (v :: st)) := by
  obtain ⟨⟨locs, X, N⟩, H, hx, hZ, hown, hby, hml, hret, hlk, hnm, hws⟩ := w
  obtain ⟨fs, hr, h1, h2, h3, h4⟩ := X.leave (v := some v) (fun q => by rw [hret] at q; cases q) hlk
  exact g_end (f := id) X N H hc hs hP (retOut X hx hret hn hi (hb hby hd) hr) h1 h2 h3 h4
theorem g_ireti (w : Wd p l e R s m args below meth c Z a0 n0 kb ws y bytes ml (some .int) T L cells slots) {pc : Nat} {Ls : Array Slot} {z : Int32} {st : List Value} (hd : decode bytes pc = .ok (.ireturn, 1)) (hc : cells ≤ kc) (hs : slots ≤ ks) (hP : P (some (.int z)) L) :
    Go p e below Z n0 kb (EndN s kc ks) P T (mkF m pc Ls (.int z :: st)) := g_retW w hd rfl (Or.inl ⟨rfl, Or.inl rfl, z, rfl⟩) hc hs hP
theorem g_lret (w : Wd p l e R s m args below meth c Z a0 n0 kb ws y bytes ml (some .long) T L cells slots) {pc : Nat} {Ls : Array Slot} {z : Int64} {st : List Value} (hd : decode bytes pc = .ok (.lreturn, 1)) (hc : cells ≤ kc) (hs : slots ≤ ks) (hP : P (some (.long z)) L) :
    Go p e below Z n0 kb (EndN s kc ks) P T (mkF m pc Ls (.long z :: st)) := g_retW w hd rfl (Or.inr (Or.inl ⟨rfl, rfl, z, rfl⟩)) hc hs hP
theorem g_aret {t : FieldType} (w : Wd p l e R s m args below meth c Z a0 n0 kb ws y bytes ml (some t) T L cells slots) {pc : Nat} {Ls : Array Slot} {v : Value} {st : List Value} (hd : decode bytes pc = .ok (.areturn, 1)) (ht : t.isReference = true) (hv : v.isRef = true) (hn : narrow t v = v) (hc : cells ≤ kc) (hs : slots ≤ ks) (hP : P (some v) L) :
    Go p e below Z n0 kb (EndN s kc ks) P T (mkF m pc Ls (v :: st)) := g_retW w hd hn (Or.inr (Or.inr (Or.inr (Or.inr ⟨rfl, ht, hv⟩)))) hc hs hP
/-- a boolean, byte, char or short: narrowed -/
theorem g_iretn {t : FieldType} (w : Wd p l e R s m args below meth c Z a0 n0 kb ws y bytes ml (some t) T L cells slots) (ht : t = .boolean ∨ t = .byte ∨ t = .char ∨ t = .short) {pc : Nat} {Ls : Array Slot} {z : Int32} {st : List Value} (hd : decode bytes pc = .ok (.ireturn, 1)) (hc : cells ≤ kc) (hs : slots ≤ ks) (hP : P (some (.int (nar t z))) L) :
    Go p e below Z n0 kb (EndN s kc ks) P T (mkF m pc Ls (.int z :: st)) := by
  obtain ⟨⟨locs, X, N⟩, H, hx, hZ, hown, hby, hml, hret, hlk, hnm, hws⟩ := w
  obtain ⟨fs, hr, h1, h2, h3, h4⟩ := X.leave (v := some (.int (nar t z))) (fun q => by rw [hret] at q; cases q) hlk
  exact g_end (f := id) X N H hc hs hP (retN X hx hret ht (hb hby hd) hr) h1 h2 h3 h4
/-! ## constants of the pool -/
theorem g_ldci (w : Wd p l e R s m args below meth c Z a0 n0 kb ws y bytes ml ret T L cells slots) {pc : Nat} {Ls : Array Slot} {st : List Value} {idx : Nat} (hd : decode bytes pc = .ok (.ldc idx, 2)) (k : Nat) {v : Int32} (hk : ws[k]? = some (.constant y.cls idx v)) (pc' : Nat) (hp : pc + 2 = pc')
    (kt : Go p e below Z n0 kg E P T (mkF m pc' Ls (.int v :: st))) : Go p e below Z n0 kg E P T (mkF m pc Ls st) := by
  subst hp
  have hk' := w.hw hk
  obtain ⟨⟨locs, X, N⟩, H, hx, hZ, hown, hby, hml, hret, hlk, hnm, hws⟩ := w
  exact kt.pre fun t q => X.ldcInt hx hown (mvT hZ hk') (g := mkF m pc Ls st) rfl (hb hby hd) t q
theorem g_ldcl (w : Wd p l e R s m args below meth c Z a0 n0 kb ws y bytes ml ret T L cells slots) {pc : Nat} {Ls : Array Slot} {st : List Value} {idx : Nat} (hd : decode bytes pc = .ok (.ldc2_w idx, 3)) (k : Nat) {v : Int64} (hk : ws[k]? = some (.constantLong y.cls idx v)) (pc' : Nat) (hp : pc + 3 = pc')
    (kt : Go p e below Z n0 kg E P T (mkF m pc' Ls (.long v :: st))) : Go p e below Z n0 kg E P T (mkF m pc Ls st) := by
  subst hp
  have hk' := w.hw hk
  obtain ⟨⟨locs, X, N⟩, H, hx, hZ, hown, hby, hml, hret, hlk, hnm, hws⟩ := w
  exact kt.pre fun t q => X.ldc2Long hx hown (mvT hZ hk') (g := mkF m pc Ls st) rfl (hb hby hd) t q
/-! ## fields -/
theorem g_getf (w : Wd p l e R s m args below meth c Z a0 n0 kb ws y bytes ml ret T L cells slots) {pc : Nat} {Ls : Array Slot} {st : List Value} {idx : Nat} {a : Addr} {C R0 O n d : String} {fs : List FldE} {v : Value} (hd : decode bytes pc = .ok (.getfield idx, 3)) (i : Nat) (hi : L[i]? = some (a, .inl (C, fs))) (j : Nat) (hj : fs[j]? = some (O, n, d, v))
    (k : Nat) (hk : ws[k]? = some (.fieldLink y.cls idx R0 n d)) (via : Via Z R0 O n d) (pc' : Nat) (hp : pc + 3 = pc')
    (kt : ∀ T', Wd p l e R s m args below meth c Z a0 n0 kb ws y bytes ml ret T' L cells slots → Go p e below Z n0 kg E P T' (mkF m pc' Ls (v :: st))) : Go p e below Z n0 kg E P T (mkF m pc Ls (.ref a :: st)) := by
  subst hp
  have hk' := w.hw hk
  obtain ⟨⟨locs, X, N⟩, H, hx, hZ, hown, hby, hml, hret, hlk, hnm, hws⟩ := w
  have F := (H.obj hi).2.1 _ (List.mem_of_getElem? hj)
  obtain ⟨T', X', e', st'⟩ := getF X hx hZ hown (host := "") (Or.inl hk') via rfl F (g := mkF m pc Ls (.ref a :: st)) rfl rfl (hb hby hd)
  exact (kt T' ⟨⟨locs, X', N⟩, by rw [e']; exact H, hx, hZ, hown, hby, hml, hret, hlk, hnm, hws⟩).pre st'
theorem g_putf (w : Wd p l e R s m args below meth c Z a0 n0 kb ws y bytes ml ret T L cells slots) {pc : Nat} {Ls : Array Slot} {st : List Value} {idx kk : Nat} {a : Addr} {C R0 O n d : String} {fs : List FldE} {u v : Value} {ty : FieldType} (hd : decode bytes pc = .ok (.putfield idx, 3)) (i : Nat) (hi : L[i]? = some (a, .inl (C, fs))) (j : Nat) (hj : fs[j]? = some (O, n, d, u))
    (k : Nat) (hk : ws[k]? = some (.fieldLink y.cls idx R0 n d)) (via : Via Z R0 O n d) (k2 : Nat) (hk2 : ws[k2]? = some (.lays C O n d) ∨ (ws[k2]? = some (.laysFinal C O n d) ∧ y.cls = O ∧ y.name = "<init>")) (k3 : Nat) (hk3 : ws[k3]? = some (.instantiable C kk)) (hty : parseFieldDescriptor d = some ty) (hn : narrow ty v = v) (hf : fits ty v = true) (pc' : Nat) (hp : pc + 3 = pc')
    (kt : ∀ T', Wd p l e R s m args below meth c Z a0 n0 kb ws y bytes ml ret T' (L.set i (a, .inl (C, fs.set j (O, n, d, v)))) cells slots → Go p e below Z n0 kg E P T' (mkF m pc' Ls st)) : Go p e below Z n0 kg E P T (mkF m pc Ls (v :: .ref a :: st)) := by
  subst hp
  have hk' := w.hw hk
  have hk3' := w.hw hk3
  have hk2' : (Cond.lays C O n d).before a0 Z = true ∨ ((Cond.laysFinal C O n d).before a0 Z = true ∧ y.cls = O ∧ y.name = "<init>") := hk2.imp (fun q => w.hw q) fun q => ⟨w.hw q.1, q.2⟩
  obtain ⟨⟨locs, X, N⟩, H, hx, hZ, hown, hby, hml, hret, hlk, hnm, hws⟩ := w
  have I := H.obj hi
  have F := I.2.1 _ (List.mem_of_getElem? hj)
  obtain ⟨T', h', X', e', W, st'⟩ := putF X hx hZ hown (host := "") (Or.inl hk') via rfl F I.1 (hk2'.imp id fun q => ⟨q.1, q.2.1, hnm.trans q.2.2⟩) hk3' hty hn hf (g := mkF m pc Ls (v :: .ref a :: st)) rfl rfl (hb hby hd)
  refine (kt T' ⟨⟨_, X', Fr.snoc X' N (H.ge hi)⟩, ?_, hx, hZ, hown, hby, hml, hret, hlk, hnm, hws⟩).pre st'
  rw [e']
  exact H.put hi W (Is.field (H.at hi) hj W)
/-! ## new objects and arrays -/
theorem g_new (w : Wd p l e R s m args below meth c Z a0 n0 kb ws y bytes ml ret T L cells slots) {pc : Nat} {Ls : Array Slot} {st : List Value} {idx n : Nat} {C : String} (fs : List FldE) (hd : decode bytes pc = .ok (.new idx, 3)) (k1 : Nat) (hk1 : ws[k1]? = some (.classLink y.cls idx C)) (k2 : Nat) (hk2 : ws[k2]? = some (.instantiable C n)) (k3 : Nat) (hk3 : ws[k3]? = some (.initialized C))
    (hfs : FOk Z a0 C fs) (hnd : (fs.map fun f => f.2.1).Nodup) (hc : cells + 1 ≤ R.cells) (hs : slots + n ≤ R.slots) (pc' : Nat) (hp : pc + 3 = pc')
    (kt : ∀ T' a, Wd p l e R s m args below meth c Z a0 n0 kb ws y bytes ml ret T' (L ++ [(a, .inl (C, fs))]) (cells + 1) (slots + n) → Go p e below Z n0 kg E P T' (mkF m pc' Ls (.ref a :: st))) : Go p e below Z n0 kg E P T (mkF m pc Ls st) := by
  subst hp
  have hk1' := w.hw hk1
  have hk2' := w.hw hk2
  have hk3' := w.hw hk3
  obtain ⟨⟨locs, X, N⟩, H, hx, hZ, hown, hby, hml, hret, hlk, hnm, hws⟩ := w
  obtain ⟨T', h', X', e', E, A, D, -, st'⟩ := newO X hx hZ hown hk1' hk2' hk3' rfl (g := mkF m pc Ls st) rfl (hb hby hd) hc hs
  refine (kt T' T.heap.size ⟨⟨_, X', N⟩, ?_, hx, hZ, hown, hby, hml, hret, hlk, hnm, hws⟩).pre st'
  rw [e']
  refine H.push E H.size (show Exa _ _ _ _ ∧ _ ∧ _ from ⟨A, fun f hf => ?_, hfs.pw hnd⟩)
  obtain ⟨l1, t1, p1, v1⟩ := hfs.mem f hf
  rw [v1]
  exact D l1 p1
theorem g_newarr (w : Wd p l e R s m args below meth c Z a0 n0 kb ws y bytes ml ret T L cells slots) {pc : Nat} {Ls : Array Slot} {st : List Value} {aty : ArrayType} {n : Int32} (hd : decode bytes pc = .ok (.newarray aty, 2)) (k1 : Nat) (hk1 : ws[k1]? = some (.arrayClass (newarray.typeOf aty))) (nn cap : Nat) (hn : n.toInt = (nn : Int)) (hcap : nn ≤ cap) (hb8 : cap * 8 ≤ 536870912)
    (vs : List Value) (hvs : vs = List.replicate nn (defaultValue (newarray.typeOf aty))) (hc : cells + 1 ≤ R.cells) (hs : slots + cap ≤ R.slots) (pc' : Nat) (hp : pc + 2 = pc')
    (kt : ∀ T' a, Wd p l e R s m args below meth c Z a0 n0 kb ws y bytes ml ret T' (L ++ [(a, .inr (newarray.typeOf aty, vs))]) (cells + 1) (slots + cap) → Go p e below Z n0 kg E P T' (mkF m pc' Ls (.ref a :: st))) : Go p e below Z n0 kg E P T (mkF m pc Ls (.int n :: st)) := by
  subst hp hvs
  have hk1' := w.hw hk1
  obtain ⟨⟨locs, X, N⟩, H, hx, hZ, hown, hby, hml, hret, hlk, hnm, hws⟩ := w
  have q0 : ¬ n < 0 := by rw [Int32.lt_iff_toInt_lt, hn]; show ¬ ((nn : Int) < 0); omega
  have q1 : n.toNatClampNeg = nn := by have := nat_of q0; rw [hn] at this; exact (Int.ofNat.inj this).symm
  obtain ⟨T', h', cA, X', e', E, A, XA, st'⟩ := newPE X hx hZ hk1' rfl (g := mkF m pc Ls (.int n :: st)) rfl (hb hby hd) rfl q0 (cap := cap) (by rw [q1]; exact hcap) hb8 hc hs (ad := "[" ++ (newarray.typeOf aty).toString) rfl
  refine (kt T' T.heap.size ⟨⟨_, X', N⟩, ?_, hx, hZ, hown, hby, hml, hret, hlk, hnm, hws⟩).pre st'
  rw [e']
  refine H.push E H.size (show ∃ c : Cell, _ from ⟨_, A, XA, by simp [newA, q1], ?_⟩)
  have := Int32.toInt_lt n
  rw [hn] at this
  simp only [List.length_replicate]
  omega
theorem inb {j : Int32} {jn : Nat} {cl : Cell} {vs : List Value} (hj : j.toInt = (jn : Int)) (e : cl.slots.toList = vs) (hl : jn < vs.length) : ¬ (j < 0 ∨ cl.slots.size ≤ j.toNatClampNeg) ∧ j.toNatClampNeg = jn := by
  have q0 : ¬ j < 0 := by rw [Int32.lt_iff_toInt_lt, hj]; show ¬ ((jn : Int) < 0); omega
  have q1 : j.toNatClampNeg = jn := by have := nat_of q0; rw [hj] at this; exact (Int.ofNat.inj this).symm
  refine ⟨fun q => q.elim q0 fun r => ?_, q1⟩
  rw [q1] at r
  have : cl.slots.size = vs.length := by rw [← e]; simp
  omega
theorem g_alen (w : Wd p l e R s m args below meth c Z a0 n0 kb ws y bytes ml ret T L cells slots) {pc : Nat} {Ls : Array Slot} {st : List Value} {a : Addr} {ty : FieldType} {vs : List Value} (hd : decode bytes pc = .ok (.arraylength, 1)) (i : Nat) (hi : L[i]? = some (a, .inr (ty, vs))) (z : Int32) (hz : z.toInt = (vs.length : Int)) (pc' : Nat) (hp : pc + 1 = pc')
    (kt : Go p e below Z n0 kg E P T (mkF m pc' Ls (.int z :: st))) : Go p e below Z n0 kg E P T (mkF m pc Ls (.ref a :: st)) := by
  subst hp
  obtain ⟨⟨locs, X, N⟩, H, hx, hZ, hown, hby, hml, hret, hlk, hnm, hws⟩ := w
  obtain ⟨cl, A, -, ev, hl⟩ := H.arr hi
  refine kt.pre fun t q => X.arraylength hx A.1 (State.isArrayOf_alike hZ.alike A.2.1) (g := mkF m pc Ls (.ref a :: st)) rfl rfl (hb hby hd) t ?_
  have : cl.slots.size.toInt32 = z := by
    apply Int32.toInt_inj.mp
    have e1 : cl.slots.size = vs.length := by rw [← ev]; simp
    rw [hz, e1]
    exact len_toInt hl
  rw [this]
  exact q
theorem g_castA (w : Wd p l e R s m args below meth c Z a0 n0 kb ws y bytes ml ret T L cells slots) {pc : Nat} {Ls : Array Slot} {st : List Value} {a : Addr} {ty : FieldType} {vs : List Value} {idx : Nat} {K : String} (hd : decode bytes pc = .ok (.checkcast idx, 3)) (i : Nat) (hi : L[i]? = some (a, .inr (ty, vs))) (k : Nat) (hk : ws[k]? = some (.classLink y.cls idx K)) (hK : "[" ++ ty.toString = K) (pc' : Nat) (hp : pc + 3 = pc')
    (kt : ∀ T', Wd p l e R s m args below meth c Z a0 n0 kb ws y bytes ml ret T' L cells slots → Go p e below Z n0 kg E P T' (mkF m pc' Ls (.ref a :: st))) : Go p e below Z n0 kg E P T (mkF m pc Ls (.ref a :: st)) := by
  subst hp hK
  have hk' := w.hw hk
  obtain ⟨⟨locs, X, N⟩, H, hx, hZ, hown, hby, hml, hret, hlk, hnm, hws⟩ := w
  obtain ⟨cl, A, XA, ev, hl⟩ := H.arr hi
  obtain ⟨T', X', e', st'⟩ := castY X hx hZ hown hk' rfl (Ins.self XA) (g := mkF m pc Ls (.ref a :: st)) rfl rfl (hb hby hd)
  exact (kt T' ⟨⟨locs, X', N⟩, by rw [e']; exact H, hx, hZ, hown, hby, hml, hret, hlk, hnm, hws⟩).pre st'
theorem g_cloneA (w : Wd p l e R s m args below meth c Z a0 n0 kb ws y bytes ml ret T L cells slots) {pc : Nat} {Ls : Array Slot} {st : List Value} {a : Addr} {ty : FieldType} {vs : List Value} {idx : Nat} {ad : String} (hd : decode bytes pc = .ok (.invokevirtual idx, 3)) (i : Nat) (hi : L[i]? = some (a, .inr (ty, vs))) (had : "[" ++ ty.toString = ad)
    (k1 : Nat) (hk1 : ws[k1]? = some (.methodLink y.cls idx ⟨ad, "clone", "()Ljava/lang/Object;"⟩)) (k2 : Nat) (hk2 : ws[k2]? = some (.sameMethod ad "java/lang/Object" "clone" "()Ljava/lang/Object;")) (k3 : Nat) (hk3 : ws[k3]? = some (.native ⟨"java/lang/Object", "clone", "()Ljava/lang/Object;"⟩)) (k4 : Nat) (hk4 : ws[k4]? = some (.instanceMethod ⟨"java/lang/Object", "clone", "()Ljava/lang/Object;"⟩))
    (k5 : Nat) (hk5 : ws[k5]? = some (.selects ad ⟨ad, "clone", "()Ljava/lang/Object;"⟩ ⟨"java/lang/Object", "clone", "()Ljava/lang/Object;"⟩)) (k6 : Nat) (hk6 : ws[k6]? = some (.castable ad "java/lang/Cloneable")) (hfit : ∀ v ∈ vs, fits ty v = true) (hsz : Ls.size = ml) (hf : 1 ≤ R.frames) (W cap : Nat) (hW : (st.map fun v => v.category).sum = W) (hl : W + 14 ≤ R.locals) (hcap : vs.length ≤ cap) (hc : cells + 1 ≤ R.cells) (hs : slots + cap ≤ R.slots) (pc' : Nat) (hp : pc + 3 = pc')
    (kt : ∀ T' a', Wd p l e R s m args below meth c Z a0 n0 kb ws y bytes ml ret T' (L ++ [(a', .inr (ty, vs))]) (cells + 1) (slots + cap) → Go p e below Z n0 kg E P T' (mkF m pc' Ls (.ref a' :: st))) : Go p e below Z n0 kg E P T (mkF m pc Ls (.ref a :: st)) := by
  subst hp had
  have hk1' := w.hw hk1
  have hk2' := w.hw hk2
  have hk3' := w.hw hk3
  have hk4' := w.hw hk4
  have hk5' := w.hw hk5
  have hk6' := w.hw hk6
  obtain ⟨⟨locs, X, N⟩, H, hx, hZ, hown, hby, hml, hret, hlk, hnm, hws⟩ := w
  obtain ⟨cl, A, XA, ev, hL⟩ := H.arr hi
  have FC : FitC Z cl := fitC_of A fun i hi v hv => hfit v (by rw [← ev]; exact Array.mem_toList_iff.mpr (Array.mem_of_getElem? hv))
  have hlen : cl.slots.size = vs.length := by rw [← ev]; simp
  obtain ⟨T', h', X', e', E, A', XA', st'⟩ := cloneA X hx hZ hown hk1' hk2' hk3' hk4' hk5' hk6' rfl A XA FC (g := mkF m pc Ls (.ref a :: st)) rfl (by rw [hml]; exact hsz) rfl (hb hby hd) hf (W := W) (cap := cap) (by show 2 * 0 + _ ≤ _; rw [hW]; omega) hl (by rw [hlen]; exact hcap) hc hs
  refine (kt T' T.heap.size ⟨⟨_, X', N⟩, ?_, hx, hZ, hown, hby, hml, hret, hlk, hnm, hws⟩).pre st'
  rw [e']
  exact H.push E H.size ⟨_, A', XA', ev, hL⟩
/-! ## what stood at the start: statics and old objects (never written) -/
theorem Hp.old (H : Hp Z n0 kb T.heap L) : Ext Z.heap T.heap := H.1.1.2
theorem g_gets (w : Wd p l e R s m args below meth c Z a0 n0 kb ws y bytes ml ret T L cells slots) {pc : Nat} {Ls : Array Slot} {st : List Value} {idx : Nat} {O n d : String} {v : Value} (F : Sta Z Z.heap O n d v) (hd : decode bytes pc = .ok (.getstatic idx, 3)) (k : Nat) (hk : ws[k]? = some (.fieldLink y.cls idx O n d)) (pc' : Nat) (hp : pc + 3 = pc')
    (kt : ∀ T', Wd p l e R s m args below meth c Z a0 n0 kb ws y bytes ml ret T' L cells slots → Go p e below Z n0 kg E P T' (mkF m pc' Ls (v :: st))) : Go p e below Z n0 kg E P T (mkF m pc Ls st) := by
  subst hp
  have hk' := w.hw hk
  obtain ⟨⟨locs, X, N⟩, H, hx, hZ, hown, hby, hml, hret, hlk, hnm, hws⟩ := w
  obtain ⟨T', X', e', st'⟩ := getS X hx hZ hown (host := "") hk' Via.refl rfl (F.ext H.old) (g := mkF m pc Ls st) rfl (hb hby hd)
  exact (kt T' ⟨⟨locs, X', N⟩, by rw [e']; exact H, hx, hZ, hown, hby, hml, hret, hlk, hnm, hws⟩).pre st'
theorem g_getfO (w : Wd p l e R s m args below meth c Z a0 n0 kb ws y bytes ml ret T L cells slots) {pc : Nat} {Ls : Array Slot} {st : List Value} {idx : Nat} {a : Addr} {O n d : String} {v : Value} (F : Fld Z Z.heap a O n d v) (hd : decode bytes pc = .ok (.getfield idx, 3)) (k : Nat) (hk : ws[k]? = some (.fieldLink y.cls idx O n d)) (pc' : Nat) (hp : pc + 3 = pc')
    (kt : ∀ T', Wd p l e R s m args below meth c Z a0 n0 kb ws y bytes ml ret T' L cells slots → Go p e below Z n0 kg E P T' (mkF m pc' Ls (v :: st))) : Go p e below Z n0 kg E P T (mkF m pc Ls (.ref a :: st)) := by
  subst hp
  have hk' := w.hw hk
  obtain ⟨⟨locs, X, N⟩, H, hx, hZ, hown, hby, hml, hret, hlk, hnm, hws⟩ := w
  obtain ⟨T', X', e', st'⟩ := getF X hx hZ hown (host := "") (Or.inl hk') Via.refl rfl (F.ext H.old) (g := mkF m pc Ls (.ref a :: st)) rfl rfl (hb hby hd)
  exact (kt T' ⟨⟨locs, X', N⟩, by rw [e']; exact H, hx, hZ, hown, hby, hml, hret, hlk, hnm, hws⟩).pre st'
theorem g_iaload (w : Wd p l e R s m args below meth c Z a0 n0 kb ws y bytes ml ret T L cells slots) {pc : Nat} {Ls : Array Slot} {st : List Value} {a : Addr} {vs : List Value} {j : Int32} {v : Value} (hd : decode bytes pc = .ok (.iaload, 1)) (i : Nat) (hi : L[i]? = some (a, .inr (.int, vs))) (jn : Nat) (hj : j.toInt = (jn : Int)) (hv : vs[jn]? = some v) (pc' : Nat) (hp : pc + 1 = pc')
    (kt : Go p e below Z n0 kg E P T (mkF m pc' Ls (v :: st))) : Go p e below Z n0 kg E P T (mkF m pc Ls (.int j :: .ref a :: st)) := by
  subst hp
  obtain ⟨⟨locs, X, N⟩, H, hx, hZ, hown, hby, hml, hret, hlk, hnm, hws⟩ := w
  obtain ⟨cl, A, -, ev, hl⟩ := H.arr hi
  obtain ⟨q1, q2⟩ := inb hj ev (List.getElem?_eq_some_iff.mp hv).1
  exact kt.pre fun t q => X.iaload hx (j := j) (v := v) A.1 (State.isArrayOf_alike hZ.alike A.2.1) A.2.2 q1 (by rw [q2, ← hv, ← ev]; simp) (g := mkF m pc Ls (.int j :: .ref a :: st)) rfl rfl (hb hby hd) t q
theorem g_laload (w : Wd p l e R s m args below meth c Z a0 n0 kb ws y bytes ml ret T L cells slots) {pc : Nat} {Ls : Array Slot} {st : List Value} {a : Addr} {vs : List Value} {j : Int32} {v : Value} (hd : decode bytes pc = .ok (.laload, 1)) (i : Nat) (hi : L[i]? = some (a, .inr (.long, vs))) (jn : Nat) (hj : j.toInt = (jn : Int)) (hv : vs[jn]? = some v) (pc' : Nat) (hp : pc + 1 = pc')
    (kt : Go p e below Z n0 kg E P T (mkF m pc' Ls (v :: st))) : Go p e below Z n0 kg E P T (mkF m pc Ls (.int j :: .ref a :: st)) := by
  subst hp
  obtain ⟨⟨locs, X, N⟩, H, hx, hZ, hown, hby, hml, hret, hlk, hnm, hws⟩ := w
  obtain ⟨cl, A, -, ev, hl⟩ := H.arr hi
  obtain ⟨q1, q2⟩ := inb hj ev (List.getElem?_eq_some_iff.mp hv).1
  exact kt.pre fun t q => X.laload hx (j := j) (v := v) A.1 (State.isArrayOf_alike hZ.alike A.2.1) A.2.2 q1 (by rw [q2, ← hv, ← ev]; simp) (g := mkF m pc Ls (.int j :: .ref a :: st)) rfl rfl (hb hby hd) t q
theorem g_caload (w : Wd p l e R s m args below meth c Z a0 n0 kb ws y bytes ml ret T L cells slots) {pc : Nat} {Ls : Array Slot} {st : List Value} {a : Addr} {vs : List Value} {j : Int32} {v : Value} (hd : decode bytes pc = .ok (.caload, 1)) (i : Nat) (hi : L[i]? = some (a, .inr (.char, vs))) (jn : Nat) (hj : j.toInt = (jn : Int)) (hv : vs[jn]? = some v) (pc' : Nat) (hp : pc + 1 = pc')
    (kt : Go p e below Z n0 kg E P T (mkF m pc' Ls (v :: st))) : Go p e below Z n0 kg E P T (mkF m pc Ls (.int j :: .ref a :: st)) := by
  subst hp
  obtain ⟨⟨locs, X, N⟩, H, hx, hZ, hown, hby, hml, hret, hlk, hnm, hws⟩ := w
  obtain ⟨cl, A, -, ev, hl⟩ := H.arr hi
  obtain ⟨q1, q2⟩ := inb hj ev (List.getElem?_eq_some_iff.mp hv).1
  exact kt.pre fun t q => X.caload hx (j := j) (v := v) A.1 (State.isArrayOf_alike hZ.alike A.2.1) A.2.2 q1 (by rw [q2, ← hv, ← ev]; simp) (g := mkF m pc Ls (.int j :: .ref a :: st)) rfl rfl (hb hby hd) t q
theorem g_baload (w : Wd p l e R s m args below meth c Z a0 n0 kb ws y bytes ml ret T L cells slots) {pc : Nat} {Ls : Array Slot} {st : List Value} {a : Addr} {vs : List Value} {j : Int32} {v : Value} (hd : decode bytes pc = .ok (.baload, 1)) (i : Nat) (hi : L[i]? = some (a, .inr (.byte, vs))) (jn : Nat) (hj : j.toInt = (jn : Int)) (hv : vs[jn]? = some v) (pc' : Nat) (hp : pc + 1 = pc')
    (kt : Go p e below Z n0 kg E P T (mkF m pc' Ls (v :: st))) : Go p e below Z n0 kg E P T (mkF m pc Ls (.int j :: .ref a :: st)) := by
  subst hp
  obtain ⟨⟨locs, X, N⟩, H, hx, hZ, hown, hby, hml, hret, hlk, hnm, hws⟩ := w
  obtain ⟨cl, A, -, ev, hl⟩ := H.arr hi
  obtain ⟨q1, q2⟩ := inb hj ev (List.getElem?_eq_some_iff.mp hv).1
  exact kt.pre fun t q => X.baloadBytes hx (j := j) (v := v) A.1 (State.isArrayOf_alike hZ.alike A.2.1) A.2.2 q1 (by rw [q2, ← hv, ← ev]; simp) (g := mkF m pc Ls (.int j :: .ref a :: st)) rfl rfl (hb hby hd) t q
theorem g_zaload (w : Wd p l e R s m args below meth c Z a0 n0 kb ws y bytes ml ret T L cells slots) {pc : Nat} {Ls : Array Slot} {st : List Value} {a : Addr} {vs : List Value} {j : Int32} {v : Value} (hd : decode bytes pc = .ok (.baload, 1)) (i : Nat) (hi : L[i]? = some (a, .inr (.boolean, vs))) (jn : Nat) (hj : j.toInt = (jn : Int)) (hv : vs[jn]? = some v) (pc' : Nat) (hp : pc + 1 = pc')
    (kt : Go p e below Z n0 kg E P T (mkF m pc' Ls (v :: st))) : Go p e below Z n0 kg E P T (mkF m pc Ls (.int j :: .ref a :: st)) := by
  subst hp
  obtain ⟨⟨locs, X, N⟩, H, hx, hZ, hown, hby, hml, hret, hlk, hnm, hws⟩ := w
  obtain ⟨cl, A, -, ev, hl⟩ := H.arr hi
  obtain ⟨q1, q2⟩ := inb hj ev (List.getElem?_eq_some_iff.mp hv).1
  exact kt.pre fun t q => X.baloadBooleans hx (j := j) (v := v) A.1 (State.isArrayOf_alike hZ.alike A.2.1) A.2.2 q1 (by rw [q2, ← hv, ← ev]; simp) (g := mkF m pc Ls (.int j :: .ref a :: st)) rfl rfl (hb hby hd) t q
theorem g_iastore (w : Wd p l e R s m args below meth c Z a0 n0 kb ws y bytes ml ret T L cells slots) {pc : Nat} {Ls : Array Slot} {st : List Value} {a : Addr} {vs : List Value} {j : Int32} {x : Int32} (hd : decode bytes pc = .ok (.iastore, 1)) (i : Nat) (hi : L[i]? = some (a, .inr (.int, vs))) (jn : Nat) (hj : j.toInt = (jn : Int)) (hl : jn < vs.length) (v : Value) (hv : (.int x) = v) (pc' : Nat) (hp : pc + 1 = pc')
    (kt : ∀ T', Wd p l e R s m args below meth c Z a0 n0 kb ws y bytes ml ret T' (L.set i (a, .inr (.int, vs.set jn v))) cells slots → Go p e below Z n0 kg E P T' (mkF m pc' Ls st)) : Go p e below Z n0 kg E P T (mkF m pc Ls (.int x :: .int j :: .ref a :: st)) := by
  subst hp hv
  obtain ⟨⟨locs, X, N⟩, H, hx, hZ, hown, hby, hml, hret, hlk, hnm, hws⟩ := w
  obtain ⟨cl, A, XA, ev, hL⟩ := H.arr hi
  obtain ⟨q1, q2⟩ := inb hj ev hl
  obtain ⟨T', h', X', e', W, st'⟩ := stI X hx hZ rfl A (j := j) (x := x) q1 (g := mkF m pc Ls (.int x :: .int j :: .ref a :: st)) rfl rfl (hb hby hd)
  rw [q2] at W
  refine (kt T' ⟨⟨_, X', Fr.snoc X' N (H.ge hi)⟩, ?_, hx, hZ, hown, hby, hml, hret, hlk, hnm, hws⟩).pre st'
  rw [e']
  exact H.put hi W (Is.elem A XA ev hL W)
theorem g_lastore (w : Wd p l e R s m args below meth c Z a0 n0 kb ws y bytes ml ret T L cells slots) {pc : Nat} {Ls : Array Slot} {st : List Value} {a : Addr} {vs : List Value} {j : Int32} {x : Int64} (hd : decode bytes pc = .ok (.lastore, 1)) (i : Nat) (hi : L[i]? = some (a, .inr (.long, vs))) (jn : Nat) (hj : j.toInt = (jn : Int)) (hl : jn < vs.length) (v : Value) (hv : (.long x) = v) (pc' : Nat) (hp : pc + 1 = pc')
    (kt : ∀ T', Wd p l e R s m args below meth c Z a0 n0 kb ws y bytes ml ret T' (L.set i (a, .inr (.long, vs.set jn v))) cells slots → Go p e below Z n0 kg E P T' (mkF m pc' Ls st)) : Go p e below Z n0 kg E P T (mkF m pc Ls (.long x :: .int j :: .ref a :: st)) := by
  subst hp hv
  obtain ⟨⟨locs, X, N⟩, H, hx, hZ, hown, hby, hml, hret, hlk, hnm, hws⟩ := w
  obtain ⟨cl, A, XA, ev, hL⟩ := H.arr hi
  obtain ⟨q1, q2⟩ := inb hj ev hl
  obtain ⟨T', h', X', e', W, st'⟩ := stJ X hx hZ rfl A (j := j) (x := x) q1 (g := mkF m pc Ls (.long x :: .int j :: .ref a :: st)) rfl rfl (hb hby hd)
  rw [q2] at W
  refine (kt T' ⟨⟨_, X', Fr.snoc X' N (H.ge hi)⟩, ?_, hx, hZ, hown, hby, hml, hret, hlk, hnm, hws⟩).pre st'
  rw [e']
  exact H.put hi W (Is.elem A XA ev hL W)
theorem g_castore (w : Wd p l e R s m args below meth c Z a0 n0 kb ws y bytes ml ret T L cells slots) {pc : Nat} {Ls : Array Slot} {st : List Value} {a : Addr} {vs : List Value} {j : Int32} {x : Int32} (hd : decode bytes pc = .ok (.castore, 1)) (i : Nat) (hi : L[i]? = some (a, .inr (.char, vs))) (jn : Nat) (hj : j.toInt = (jn : Int)) (hl : jn < vs.length) (v : Value) (hv : (.int (nar .char x)) = v) (pc' : Nat) (hp : pc + 1 = pc')
    (kt : ∀ T', Wd p l e R s m args below meth c Z a0 n0 kb ws y bytes ml ret T' (L.set i (a, .inr (.char, vs.set jn v))) cells slots → Go p e below Z n0 kg E P T' (mkF m pc' Ls st)) : Go p e below Z n0 kg E P T (mkF m pc Ls (.int x :: .int j :: .ref a :: st)) := by
  subst hp hv
  obtain ⟨⟨locs, X, N⟩, H, hx, hZ, hown, hby, hml, hret, hlk, hnm, hws⟩ := w
  obtain ⟨cl, A, XA, ev, hL⟩ := H.arr hi
  obtain ⟨q1, q2⟩ := inb hj ev hl
  obtain ⟨T', h', X', e', W, st'⟩ := stC X hx hZ rfl A (j := j) (x := x) q1 (g := mkF m pc Ls (.int x :: .int j :: .ref a :: st)) rfl rfl (hb hby hd)
  rw [q2] at W
  refine (kt T' ⟨⟨_, X', Fr.snoc X' N (H.ge hi)⟩, ?_, hx, hZ, hown, hby, hml, hret, hlk, hnm, hws⟩).pre st'
  rw [e']
  exact H.put hi W (Is.elem A XA ev hL W)
theorem g_bastore (w : Wd p l e R s m args below meth c Z a0 n0 kb ws y bytes ml ret T L cells slots) {pc : Nat} {Ls : Array Slot} {st : List Value} {a : Addr} {vs : List Value} {j : Int32} {x : Int32} (hd : decode bytes pc = .ok (.bastore, 1)) (i : Nat) (hi : L[i]? = some (a, .inr (.byte, vs))) (jn : Nat) (hj : j.toInt = (jn : Int)) (hl : jn < vs.length) (v : Value) (hv : (.int (nar .byte x)) = v) (pc' : Nat) (hp : pc + 1 = pc')
    (kt : ∀ T', Wd p l e R s m args below meth c Z a0 n0 kb ws y bytes ml ret T' (L.set i (a, .inr (.byte, vs.set jn v))) cells slots → Go p e below Z n0 kg E P T' (mkF m pc' Ls st)) : Go p e below Z n0 kg E P T (mkF m pc Ls (.int x :: .int j :: .ref a :: st)) := by
  subst hp hv
  obtain ⟨⟨locs, X, N⟩, H, hx, hZ, hown, hby, hml, hret, hlk, hnm, hws⟩ := w
  obtain ⟨cl, A, XA, ev, hL⟩ := H.arr hi
  obtain ⟨q1, q2⟩ := inb hj ev hl
  obtain ⟨T', h', X', e', W, st'⟩ := stB X hx hZ rfl A (j := j) (x := x) q1 (g := mkF m pc Ls (.int x :: .int j :: .ref a :: st)) rfl rfl (hb hby hd)
  rw [q2] at W
  refine (kt T' ⟨⟨_, X', Fr.snoc X' N (H.ge hi)⟩, ?_, hx, hZ, hown, hby, hml, hret, hlk, hnm, hws⟩).pre st'
  rw [e']
  exact H.put hi W (Is.elem A XA ev hL W)
theorem g_zastore (w : Wd p l e R s m args below meth c Z a0 n0 kb ws y bytes ml ret T L cells slots) {pc : Nat} {Ls : Array Slot} {st : List Value} {a : Addr} {vs : List Value} {j : Int32} {x : Int32} (hd : decode bytes pc = .ok (.bastore, 1)) (i : Nat) (hi : L[i]? = some (a, .inr (.boolean, vs))) (jn : Nat) (hj : j.toInt = (jn : Int)) (hl : jn < vs.length) (v : Value) (hv : (.int (nar .boolean x)) = v) (pc' : Nat) (hp : pc + 1 = pc')
    (kt : ∀ T', Wd p l e R s m args below meth c Z a0 n0 kb ws y bytes ml ret T' (L.set i (a, .inr (.boolean, vs.set jn v))) cells slots → Go p e below Z n0 kg E P T' (mkF m pc' Ls st)) : Go p e below Z n0 kg E P T (mkF m pc Ls (.int x :: .int j :: .ref a :: st)) := by
  subst hp hv
  obtain ⟨⟨locs, X, N⟩, H, hx, hZ, hown, hby, hml, hret, hlk, hnm, hws⟩ := w
  obtain ⟨cl, A, XA, ev, hL⟩ := H.arr hi
  obtain ⟨q1, q2⟩ := inb hj ev hl
  obtain ⟨T', h', X', e', W, st'⟩ := stZ X hx hZ rfl A (j := j) (x := x) q1 (g := mkF m pc Ls (.int x :: .int j :: .ref a :: st)) rfl rfl (hb hby hd)
  rw [q2] at W
  refine (kt T' ⟨⟨_, X', Fr.snoc X' N (H.ge hi)⟩, ?_, hx, hZ, hown, hby, hml, hret, hlk, hnm, hws⟩).pre st'
  rw [e']
  exact H.put hi W (Is.elem A XA ev hL W)
theorem g_iadd (w : Wd p l e R s m args below meth c Z a0 n0 kb ws y bytes ml ret T L cells slots) {pc : Nat} {Ls : Array Slot} {x y : Int32} {st : List Value} (hd : decode bytes pc = .ok (.iadd, 1)) (pc' : Nat) (hp : pc + 1 = pc')
    (k : Go p e below Z n0 kg E P T (mkF m pc' Ls (.int (x + y) :: st))) : Go p e below Z n0 kg E P T (mkF m pc Ls (.int y :: .int x :: st)) := by
  subst hp
  exact k.pre fun t q => XS.iadd w.here w.hx rfl (hb w.hby hd) rfl q
theorem g_isub (w : Wd p l e R s m args below meth c Z a0 n0 kb ws y bytes ml ret T L cells slots) {pc : Nat} {Ls : Array Slot} {x y : Int32} {st : List Value} (hd : decode bytes pc = .ok (.isub, 1)) (pc' : Nat) (hp : pc + 1 = pc')
    (k : Go p e below Z n0 kg E P T (mkF m pc' Ls (.int (x - y) :: st))) : Go p e below Z n0 kg E P T (mkF m pc Ls (.int y :: .int x :: st)) := by
  subst hp
  exact k.pre fun t q => XS.isub w.here w.hx rfl (hb w.hby hd) rfl q
theorem g_imul (w : Wd p l e R s m args below meth c Z a0 n0 kb ws y bytes ml ret T L cells slots) {pc : Nat} {Ls : Array Slot} {x y : Int32} {st : List Value} (hd : decode bytes pc = .ok (.imul, 1)) (pc' : Nat) (hp : pc + 1 = pc')
    (k : Go p e below Z n0 kg E P T (mkF m pc' Ls (.int (x * y) :: st))) : Go p e below Z n0 kg E P T (mkF m pc Ls (.int y :: .int x :: st)) := by
  subst hp
  exact k.pre fun t q => XS.imul w.here w.hx rfl (hb w.hby hd) rfl q
theorem g_iand (w : Wd p l e R s m args below meth c Z a0 n0 kb ws y bytes ml ret T L cells slots) {pc : Nat} {Ls : Array Slot} {x y : Int32} {st : List Value} (hd : decode bytes pc = .ok (.iand, 1)) (pc' : Nat) (hp : pc + 1 = pc')
    (k : Go p e below Z n0 kg E P T (mkF m pc' Ls (.int (x &&& y) :: st))) : Go p e below Z n0 kg E P T (mkF m pc Ls (.int y :: .int x :: st)) := by
  subst hp
  exact k.pre fun t q => XS.iand w.here w.hx rfl (hb w.hby hd) rfl q
theorem g_ior (w : Wd p l e R s m args below meth c Z a0 n0 kb ws y bytes ml ret T L cells slots) {pc : Nat} {Ls : Array Slot} {x y : Int32} {st : List Value} (hd : decode bytes pc = .ok (.ior, 1)) (pc' : Nat) (hp : pc + 1 = pc')
    (k : Go p e below Z n0 kg E P T (mkF m pc' Ls (.int (x ||| y) :: st))) : Go p e below Z n0 kg E P T (mkF m pc Ls (.int y :: .int x :: st)) := by
  subst hp
  exact k.pre fun t q => XT.ior w.here w.hx rfl (hb w.hby hd) rfl q
theorem g_ixor (w : Wd p l e R s m args below meth c Z a0 n0 kb ws y bytes ml ret T L cells slots) {pc : Nat} {Ls : Array Slot} {x y : Int32} {st : List Value} (hd : decode bytes pc = .ok (.ixor, 1)) (pc' : Nat) (hp : pc + 1 = pc')
    (k : Go p e below Z n0 kg E P T (mkF m pc' Ls (.int (x ^^^ y) :: st))) : Go p e below Z n0 kg E P T (mkF m pc Ls (.int y :: .int x :: st)) := by
  subst hp
  exact k.pre fun t q => XT.ixor w.here w.hx rfl (hb w.hby hd) rfl q
theorem g_ishl (w : Wd p l e R s m args below meth c Z a0 n0 kb ws y bytes ml ret T L cells slots) {pc : Nat} {Ls : Array Slot} {x y : Int32} {st : List Value} (hd : decode bytes pc = .ok (.ishl, 1)) (pc' : Nat) (hp : pc + 1 = pc')
    (k : Go p e below Z n0 kg E P T (mkF m pc' Ls (.int (x <<< (y &&& 31)) :: st))) : Go p e below Z n0 kg E P T (mkF m pc Ls (.int y :: .int x :: st)) := by
  subst hp
  exact k.pre fun t q => XS.ishl w.here w.hx rfl (hb w.hby hd) rfl q
theorem g_ishr (w : Wd p l e R s m args below meth c Z a0 n0 kb ws y bytes ml ret T L cells slots) {pc : Nat} {Ls : Array Slot} {x y : Int32} {st : List Value} (hd : decode bytes pc = .ok (.ishr, 1)) (pc' : Nat) (hp : pc + 1 = pc')
    (k : Go p e below Z n0 kg E P T (mkF m pc' Ls (.int (x >>> (y &&& 31)) :: st))) : Go p e below Z n0 kg E P T (mkF m pc Ls (.int y :: .int x :: st)) := by
  subst hp
  exact k.pre fun t q => XS.ishr w.here w.hx rfl (hb w.hby hd) rfl q
theorem g_iushr (w : Wd p l e R s m args below meth c Z a0 n0 kb ws y bytes ml ret T L cells slots) {pc : Nat} {Ls : Array Slot} {x y : Int32} {st : List Value} (hd : decode bytes pc = .ok (.iushr, 1)) (pc' : Nat) (hp : pc + 1 = pc')
    (k : Go p e below Z n0 kg E P T (mkF m pc' Ls (.int (ushrI x y) :: st))) : Go p e below Z n0 kg E P T (mkF m pc Ls (.int y :: .int x :: st)) := by
  subst hp
  exact k.pre fun t q => XS.iushr w.here w.hx rfl (hb w.hby hd) rfl q
theorem g_ladd (w : Wd p l e R s m args below meth c Z a0 n0 kb ws y bytes ml ret T L cells slots) {pc : Nat} {Ls : Array Slot} {x y : Int64} {st : List Value} (hd : decode bytes pc = .ok (.ladd, 1)) (pc' : Nat) (hp : pc + 1 = pc')
    (k : Go p e below Z n0 kg E P T (mkF m pc' Ls (.long (x + y) :: st))) : Go p e below Z n0 kg E P T (mkF m pc Ls (.long y :: .long x :: st)) := by
  subst hp
  exact k.pre fun t q => XT.ladd w.here w.hx rfl (hb w.hby hd) rfl q
theorem g_lsub (w : Wd p l e R s m args below meth c Z a0 n0 kb ws y bytes ml ret T L cells slots) {pc : Nat} {Ls : Array Slot} {x y : Int64} {st : List Value} (hd : decode bytes pc = .ok (.lsub, 1)) (pc' : Nat) (hp : pc + 1 = pc')
    (k : Go p e below Z n0 kg E P T (mkF m pc' Ls (.long (x - y) :: st))) : Go p e below Z n0 kg E P T (mkF m pc Ls (.long y :: .long x :: st)) := by
  subst hp
  exact k.pre fun t q => XT.lsub w.here w.hx rfl (hb w.hby hd) rfl q
theorem g_lmul (w : Wd p l e R s m args below meth c Z a0 n0 kb ws y bytes ml ret T L cells slots) {pc : Nat} {Ls : Array Slot} {x y : Int64} {st : List Value} (hd : decode bytes pc = .ok (.lmul, 1)) (pc' : Nat) (hp : pc + 1 = pc')
    (k : Go p e below Z n0 kg E P T (mkF m pc' Ls (.long (x * y) :: st))) : Go p e below Z n0 kg E P T (mkF m pc Ls (.long y :: .long x :: st)) := by
  subst hp
  exact k.pre fun t q => XT.lmul w.here w.hx rfl (hb w.hby hd) rfl q
theorem g_land (w : Wd p l e R s m args below meth c Z a0 n0 kb ws y bytes ml ret T L cells slots) {pc : Nat} {Ls : Array Slot} {x y : Int64} {st : List Value} (hd : decode bytes pc = .ok (.land, 1)) (pc' : Nat) (hp : pc + 1 = pc')
    (k : Go p e below Z n0 kg E P T (mkF m pc' Ls (.long (x &&& y) :: st))) : Go p e below Z n0 kg E P T (mkF m pc Ls (.long y :: .long x :: st)) := by
  subst hp
  exact k.pre fun t q => XT.land w.here w.hx rfl (hb w.hby hd) rfl q
theorem g_lor (w : Wd p l e R s m args below meth c Z a0 n0 kb ws y bytes ml ret T L cells slots) {pc : Nat} {Ls : Array Slot} {x y : Int64} {st : List Value} (hd : decode bytes pc = .ok (.lor, 1)) (pc' : Nat) (hp : pc + 1 = pc')
    (k : Go p e below Z n0 kg E P T (mkF m pc' Ls (.long (x ||| y) :: st))) : Go p e below Z n0 kg E P T (mkF m pc Ls (.long y :: .long x :: st)) := by
  subst hp
  exact k.pre fun t q => XT.lor w.here w.hx rfl (hb w.hby hd) rfl q
theorem g_lxor (w : Wd p l e R s m args below meth c Z a0 n0 kb ws y bytes ml ret T L cells slots) {pc : Nat} {Ls : Array Slot} {x y : Int64} {st : List Value} (hd : decode bytes pc = .ok (.lxor, 1)) (pc' : Nat) (hp : pc + 1 = pc')
    (k : Go p e below Z n0 kg E P T (mkF m pc' Ls (.long (x ^^^ y) :: st))) : Go p e below Z n0 kg E P T (mkF m pc Ls (.long y :: .long x :: st)) := by
  subst hp
  exact k.pre fun t q => XT.lxor w.here w.hx rfl (hb w.hby hd) rfl q
theorem g_lshl (w : Wd p l e R s m args below meth c Z a0 n0 kb ws y bytes ml ret T L cells slots) {pc : Nat} {Ls : Array Slot} {x : Int64} {y : Int32} {st : List Value} (hd : decode bytes pc = .ok (.lshl, 1)) (pc' : Nat) (hp : pc + 1 = pc')
    (k : Go p e below Z n0 kg E P T (mkF m pc' Ls (.long (shlL x y) :: st))) : Go p e below Z n0 kg E P T (mkF m pc Ls (.int y :: .long x :: st)) := by
  subst hp
  exact k.pre fun t q => XS.lshl w.here w.hx rfl (hb w.hby hd) rfl q
theorem g_lshr (w : Wd p l e R s m args below meth c Z a0 n0 kb ws y bytes ml ret T L cells slots) {pc : Nat} {Ls : Array Slot} {x : Int64} {y : Int32} {st : List Value} (hd : decode bytes pc = .ok (.lshr, 1)) (pc' : Nat) (hp : pc + 1 = pc')
    (k : Go p e below Z n0 kg E P T (mkF m pc' Ls (.long (shrL x y) :: st))) : Go p e below Z n0 kg E P T (mkF m pc Ls (.int y :: .long x :: st)) := by
  subst hp
  exact k.pre fun t q => XS.lshr w.here w.hx rfl (hb w.hby hd) rfl q
theorem g_lushr (w : Wd p l e R s m args below meth c Z a0 n0 kb ws y bytes ml ret T L cells slots) {pc : Nat} {Ls : Array Slot} {x : Int64} {y : Int32} {st : List Value} (hd : decode bytes pc = .ok (.lushr, 1)) (pc' : Nat) (hp : pc + 1 = pc')
    (k : Go p e below Z n0 kg E P T (mkF m pc' Ls (.long (ushrL x y) :: st))) : Go p e below Z n0 kg E P T (mkF m pc Ls (.int y :: .long x :: st)) := by
  subst hp
  exact k.pre fun t q => XS.lushr w.here w.hx rfl (hb w.hby hd) rfl q
theorem g_lcmp (w : Wd p l e R s m args below meth c Z a0 n0 kb ws y bytes ml ret T L cells slots) {pc : Nat} {Ls : Array Slot} {x y : Int64} {st : List Value} (hd : decode bytes pc = .ok (.lcmp, 1)) (pc' : Nat) (hp : pc + 1 = pc')
    (k : Go p e below Z n0 kg E P T (mkF m pc' Ls (.int (XT.cmpL x y) :: st))) : Go p e below Z n0 kg E P T (mkF m pc Ls (.long y :: .long x :: st)) := by
  subst hp
  exact k.pre fun t q => XT.lcmp w.here w.hx rfl (hb w.hby hd) rfl q
theorem g_idiv (w : Wd p l e R s m args below meth c Z a0 n0 kb ws y bytes ml ret T L cells slots) {pc : Nat} {Ls : Array Slot} {x y : Int32} {st : List Value} (hd : decode bytes pc = .ok (.idiv, 1)) (hy : y ≠ 0) (pc' : Nat) (hp : pc + 1 = pc')
    (k : Go p e below Z n0 kg E P T (mkF m pc' Ls (.int (x / y) :: st))) : Go p e below Z n0 kg E P T (mkF m pc Ls (.int y :: .int x :: st)) := by
  subst hp
  exact k.pre fun t q => XS.idiv w.here w.hx rfl (hb w.hby hd) rfl hy q
theorem g_ldiv (w : Wd p l e R s m args below meth c Z a0 n0 kb ws y bytes ml ret T L cells slots) {pc : Nat} {Ls : Array Slot} {x y : Int64} {st : List Value} (hd : decode bytes pc = .ok (.ldiv, 1)) (hy : y ≠ 0) (pc' : Nat) (hp : pc + 1 = pc')
    (k : Go p e below Z n0 kg E P T (mkF m pc' Ls (.long (x / y) :: st))) : Go p e below Z n0 kg E P T (mkF m pc Ls (.long y :: .long x :: st)) := by
  subst hp
  exact k.pre fun t q => XT.ldiv w.here w.hx rfl (hb w.hby hd) rfl hy q
theorem g_irem (w : Wd p l e R s m args below meth c Z a0 n0 kb ws y bytes ml ret T L cells slots) {pc : Nat} {Ls : Array Slot} {x y : Int32} {st : List Value} (hd : decode bytes pc = .ok (.irem, 1)) (hy : y ≠ 0) (pc' : Nat) (hp : pc + 1 = pc')
    (k : Go p e below Z n0 kg E P T (mkF m pc' Ls (.int (x % y) :: st))) : Go p e below Z n0 kg E P T (mkF m pc Ls (.int y :: .int x :: st)) := by
  subst hp
  exact k.pre fun t q => XS.irem w.here w.hx rfl (hb w.hby hd) rfl hy (by rw [irem_eq_mod]; exact q)
theorem g_lrem (w : Wd p l e R s m args below meth c Z a0 n0 kb ws y bytes ml ret T L cells slots) {pc : Nat} {Ls : Array Slot} {x y : Int64} {st : List Value} (hd : decode bytes pc = .ok (.lrem, 1)) (hy : y ≠ 0) (pc' : Nat) (hp : pc + 1 = pc')
    (k : Go p e below Z n0 kg E P T (mkF m pc' Ls (.long (x % y) :: st))) : Go p e below Z n0 kg E P T (mkF m pc Ls (.long y :: .long x :: st)) := by
  subst hp
  exact k.pre fun t q => XT.lrem w.here w.hx rfl (hb w.hby hd) rfl hy (by rw [lrem_mod]; exact q)
theorem g_ineg (w : Wd p l e R s m args below meth c Z a0 n0 kb ws y bytes ml ret T L cells slots) {pc : Nat} {Ls : Array Slot} {x : Int32} {st : List Value} (hd : decode bytes pc = .ok (.ineg, 1)) (pc' : Nat) (hp : pc + 1 = pc')
    (k : Go p e below Z n0 kg E P T (mkF m pc' Ls (.int (-x) :: st))) : Go p e below Z n0 kg E P T (mkF m pc Ls (.int x :: st)) := by
  subst hp
  exact k.pre fun t q => XS.ineg w.here w.hx rfl (hb w.hby hd) rfl q
theorem g_lneg (w : Wd p l e R s m args below meth c Z a0 n0 kb ws y bytes ml ret T L cells slots) {pc : Nat} {Ls : Array Slot} {x : Int64} {st : List Value} (hd : decode bytes pc = .ok (.lneg, 1)) (pc' : Nat) (hp : pc + 1 = pc')
    (k : Go p e below Z n0 kg E P T (mkF m pc' Ls (.long (-x) :: st))) : Go p e below Z n0 kg E P T (mkF m pc Ls (.long x :: st)) := by
  subst hp
  exact k.pre fun t q => XT.lneg w.here w.hx rfl (hb w.hby hd) rfl q
theorem g_i2l (w : Wd p l e R s m args below meth c Z a0 n0 kb ws y bytes ml ret T L cells slots) {pc : Nat} {Ls : Array Slot} {x : Int32} {st : List Value} (hd : decode bytes pc = .ok (.i2l, 1)) (pc' : Nat) (hp : pc + 1 = pc')
    (k : Go p e below Z n0 kg E P T (mkF m pc' Ls (.long (x.toInt64) :: st))) : Go p e below Z n0 kg E P T (mkF m pc Ls (.int x :: st)) := by
  subst hp
  exact k.pre fun t q => XT.i2l w.here w.hx rfl (hb w.hby hd) rfl q
theorem g_l2i (w : Wd p l e R s m args below meth c Z a0 n0 kb ws y bytes ml ret T L cells slots) {pc : Nat} {Ls : Array Slot} {x : Int64} {st : List Value} (hd : decode bytes pc = .ok (.l2i, 1)) (pc' : Nat) (hp : pc + 1 = pc')
    (k : Go p e below Z n0 kg E P T (mkF m pc' Ls (.int (x.toInt32) :: st))) : Go p e below Z n0 kg E P T (mkF m pc Ls (.long x :: st)) := by
  subst hp
  exact k.pre fun t q => XT.l2i w.here w.hx rfl (hb w.hby hd) rfl q
theorem g_i2b (w : Wd p l e R s m args below meth c Z a0 n0 kb ws y bytes ml ret T L cells slots) {pc : Nat} {Ls : Array Slot} {x : Int32} {st : List Value} (hd : decode bytes pc = .ok (.i2b, 1)) (pc' : Nat) (hp : pc + 1 = pc')
    (k : Go p e below Z n0 kg E P T (mkF m pc' Ls (.int (x.toInt8.toInt32) :: st))) : Go p e below Z n0 kg E P T (mkF m pc Ls (.int x :: st)) := by
  subst hp
  exact k.pre fun t q => XT.i2b w.here w.hx rfl (hb w.hby hd) rfl q
theorem g_i2c (w : Wd p l e R s m args below meth c Z a0 n0 kb ws y bytes ml ret T L cells slots) {pc : Nat} {Ls : Array Slot} {x : Int32} {st : List Value} (hd : decode bytes pc = .ok (.i2c, 1)) (pc' : Nat) (hp : pc + 1 = pc')
    (k : Go p e below Z n0 kg E P T (mkF m pc' Ls (.int (x.toUInt32.toUInt16.toUInt32.toInt32) :: st))) : Go p e below Z n0 kg E P T (mkF m pc Ls (.int x :: st)) := by
  subst hp
  exact k.pre fun t q => XT.i2c w.here w.hx rfl (hb w.hby hd) rfl q
theorem g_i2s (w : Wd p l e R s m args below meth c Z a0 n0 kb ws y bytes ml ret T L cells slots) {pc : Nat} {Ls : Array Slot} {x : Int32} {st : List Value} (hd : decode bytes pc = .ok (.i2s, 1)) (pc' : Nat) (hp : pc + 1 = pc')
    (k : Go p e below Z n0 kg E P T (mkF m pc' Ls (.int (x.toInt16.toInt32) :: st))) : Go p e below Z n0 kg E P T (mkF m pc Ls (.int x :: st)) := by
  subst hp
  exact k.pre fun t q => XT.i2s w.here w.hx rfl (hb w.hby hd) rfl q
theorem g_iload (w : Wd p l e R s m args below meth c Z a0 n0 kb ws y bytes ml ret T L cells slots) {pc : Nat} {Ls : Array Slot} {i : Nat} {v : Int32} {st : List Value} (hd : decode bytes pc = .ok (.iload i, 2)) (hl : Ls[i]? = some (.val (.int v))) (pc' : Nat) (hp : pc + 2 = pc')
    (k : Go p e below Z n0 kg E P T (mkF m pc' Ls (.int v :: st))) : Go p e below Z n0 kg E P T (mkF m pc Ls (st)) := by
  subst hp
  exact k.pre fun t q => XS.iload w.here w.hx rfl (hb w.hby hd) hl q
theorem g_iloadN (w : Wd p l e R s m args below meth c Z a0 n0 kb ws y bytes ml ret T L cells slots) {pc : Nat} {Ls : Array Slot} {i : Fin 4} {v : Int32} {st : List Value} (hd : decode bytes pc = .ok (.iload_n i, 1)) (hl : Ls[i.val]? = some (.val (.int v))) (pc' : Nat) (hp : pc + 1 = pc')
    (k : Go p e below Z n0 kg E P T (mkF m pc' Ls (.int v :: st))) : Go p e below Z n0 kg E P T (mkF m pc Ls (st)) := by
  subst hp
  exact k.pre fun t q => XS.iloadN w.here w.hx rfl (hb w.hby hd) hl q
theorem g_lload (w : Wd p l e R s m args below meth c Z a0 n0 kb ws y bytes ml ret T L cells slots) {pc : Nat} {Ls : Array Slot} {i : Nat} {v : Int64} {st : List Value} (hd : decode bytes pc = .ok (.lload i, 2)) (hl : Ls[i]? = some (.val (.long v))) (pc' : Nat) (hp : pc + 2 = pc')
    (k : Go p e below Z n0 kg E P T (mkF m pc' Ls (.long v :: st))) : Go p e below Z n0 kg E P T (mkF m pc Ls (st)) := by
  subst hp
  exact k.pre fun t q => XT.lload w.here w.hx rfl (hb w.hby hd) hl q
theorem g_lloadN (w : Wd p l e R s m args below meth c Z a0 n0 kb ws y bytes ml ret T L cells slots) {pc : Nat} {Ls : Array Slot} {i : Fin 4} {v : Int64} {st : List Value} (hd : decode bytes pc = .ok (.lload_n i, 1)) (hl : Ls[i.val]? = some (.val (.long v))) (pc' : Nat) (hp : pc + 1 = pc')
    (k : Go p e below Z n0 kg E P T (mkF m pc' Ls (.long v :: st))) : Go p e below Z n0 kg E P T (mkF m pc Ls (st)) := by
  subst hp
  exact k.pre fun t q => XT.lloadN w.here w.hx rfl (hb w.hby hd) hl q
theorem g_aload (w : Wd p l e R s m args below meth c Z a0 n0 kb ws y bytes ml ret T L cells slots) {pc : Nat} {Ls : Array Slot} {i : Nat} {v : Value} {st : List Value} (hd : decode bytes pc = .ok (.aload i, 2)) (hl : Ls[i]? = some (.val v)) (hv : v.isRef = true) (pc' : Nat) (hp : pc + 2 = pc')
    (k : Go p e below Z n0 kg E P T (mkF m pc' Ls (v :: st))) : Go p e below Z n0 kg E P T (mkF m pc Ls (st)) := by
  subst hp
  exact k.pre fun t q => XS.aload w.here w.hx rfl (hb w.hby hd) hl hv q
theorem g_aloadN (w : Wd p l e R s m args below meth c Z a0 n0 kb ws y bytes ml ret T L cells slots) {pc : Nat} {Ls : Array Slot} {i : Fin 4} {v : Value} {st : List Value} (hd : decode bytes pc = .ok (.aload_n i, 1)) (hl : Ls[i.val]? = some (.val v)) (hv : v.isRef = true) (pc' : Nat) (hp : pc + 1 = pc')
    (k : Go p e below Z n0 kg E P T (mkF m pc' Ls (v :: st))) : Go p e below Z n0 kg E P T (mkF m pc Ls (st)) := by
  subst hp
  exact k.pre fun t q => XS.aloadN w.here w.hx rfl (hb w.hby hd) hl hv q
theorem g_iconst (w : Wd p l e R s m args below meth c Z a0 n0 kb ws y bytes ml ret T L cells slots) {pc : Nat} {Ls : Array Slot} {i : Int} {st : List Value} (hd : decode bytes pc = .ok (.iconst i, 1)) (z : Int32) (hz : Int32.ofInt i = z) (pc' : Nat) (hp : pc + 1 = pc')
    (k : Go p e below Z n0 kg E P T (mkF m pc' Ls (.int z :: st))) : Go p e below Z n0 kg E P T (mkF m pc Ls (st)) := by
  subst hp
  exact k.pre fun t q => XS.iconst w.here w.hx rfl (hb w.hby hd) (by rw [hz]; exact q)
theorem g_bipush (w : Wd p l e R s m args below meth c Z a0 n0 kb ws y bytes ml ret T L cells slots) {pc : Nat} {Ls : Array Slot} {i : Int} {st : List Value} (hd : decode bytes pc = .ok (.bipush i, 2)) (z : Int32) (hz : (Int8.ofInt i).toInt32 = z) (pc' : Nat) (hp : pc + 2 = pc')
    (k : Go p e below Z n0 kg E P T (mkF m pc' Ls (.int z :: st))) : Go p e below Z n0 kg E P T (mkF m pc Ls (st)) := by
  subst hp
  exact k.pre fun t q => XS.bipush w.here w.hx rfl (hb w.hby hd) (by rw [hz]; exact q)
theorem g_sipush (w : Wd p l e R s m args below meth c Z a0 n0 kb ws y bytes ml ret T L cells slots) {pc : Nat} {Ls : Array Slot} {i : Int} {st : List Value} (hd : decode bytes pc = .ok (.sipush i, 3)) (z : Int32) (hz : (Int16.ofInt i).toInt32 = z) (pc' : Nat) (hp : pc + 3 = pc')
    (k : Go p e below Z n0 kg E P T (mkF m pc' Ls (.int z :: st))) : Go p e below Z n0 kg E P T (mkF m pc Ls (st)) := by
  subst hp
  exact k.pre fun t q => XS.sipush w.here w.hx rfl (hb w.hby hd) (by rw [hz]; exact q)
theorem g_lconst (w : Wd p l e R s m args below meth c Z a0 n0 kb ws y bytes ml ret T L cells slots) {pc : Nat} {Ls : Array Slot} {i : Fin 2} {st : List Value} (hd : decode bytes pc = .ok (.lconst i, 1)) (z : Int64) (hz : Int64.ofNat i = z) (pc' : Nat) (hp : pc + 1 = pc')
    (k : Go p e below Z n0 kg E P T (mkF m pc' Ls (.long z :: st))) : Go p e below Z n0 kg E P T (mkF m pc Ls (st)) := by
  subst hp
  exact k.pre fun t q => XT.lconst w.here w.hx rfl (hb w.hby hd) (by rw [hz]; exact q)
theorem g_anull (w : Wd p l e R s m args below meth c Z a0 n0 kb ws y bytes ml ret T L cells slots) {pc : Nat} {Ls : Array Slot} {st : List Value} (hd : decode bytes pc = .ok (.aconst_null, 1)) (pc' : Nat) (hp : pc + 1 = pc')
    (k : Go p e below Z n0 kg E P T (mkF m pc' Ls (.null :: st))) : Go p e below Z n0 kg E P T (mkF m pc Ls (st)) := by
  subst hp
  exact k.pre fun t q => XS.aconstNull w.here w.hx rfl (hb w.hby hd) q
theorem g_dup (w : Wd p l e R s m args below meth c Z a0 n0 kb ws y bytes ml ret T L cells slots) {pc : Nat} {Ls : Array Slot} {x : Value} {st : List Value} (hd : decode bytes pc = .ok (.dup, 1)) (hc : x.category = 1) (pc' : Nat) (hp : pc + 1 = pc')
    (k : Go p e below Z n0 kg E P T (mkF m pc' Ls (x :: x :: st))) : Go p e below Z n0 kg E P T (mkF m pc Ls (x :: st)) := by
  subst hp
  exact k.pre fun t q => XS.dup w.here w.hx rfl (hb w.hby hd) rfl hc q
theorem g_pop (w : Wd p l e R s m args below meth c Z a0 n0 kb ws y bytes ml ret T L cells slots) {pc : Nat} {Ls : Array Slot} {x : Value} {st : List Value} (hd : decode bytes pc = .ok (.pop, 1)) (hc : x.category = 1) (pc' : Nat) (hp : pc + 1 = pc')
    (k : Go p e below Z n0 kg E P T (mkF m pc' Ls (st))) : Go p e below Z n0 kg E P T (mkF m pc Ls (x :: st)) := by
  subst hp
  exact k.pre fun t q => XT.pop w.here w.hx rfl (hb w.hby hd) rfl hc q
theorem g_dup_x1 (w : Wd p l e R s m args below meth c Z a0 n0 kb ws y bytes ml ret T L cells slots) {pc : Nat} {Ls : Array Slot} {x x' : Value} {st : List Value} (hd : decode bytes pc = .ok (.dup_x1, 1)) (hc : x.category = 1) (hc' : x'.category = 1) (pc' : Nat) (hp : pc + 1 = pc')
    (k : Go p e below Z n0 kg E P T (mkF m pc' Ls (x :: x' :: x :: st))) : Go p e below Z n0 kg E P T (mkF m pc Ls (x :: x' :: st)) := by
  subst hp
  exact k.pre fun t q => XT.dupX1 w.here w.hx rfl (hb w.hby hd) rfl hc hc' q
theorem g_dup2 (w : Wd p l e R s m args below meth c Z a0 n0 kb ws y bytes ml ret T L cells slots) {pc : Nat} {Ls : Array Slot} {x x' : Value} {st : List Value} (hd : decode bytes pc = .ok (.dup2, 1)) (hc : x.category = 1) (hc' : x'.category = 1) (pc' : Nat) (hp : pc + 1 = pc')
    (k : Go p e below Z n0 kg E P T (mkF m pc' Ls (x :: x' :: x :: x' :: st))) : Go p e below Z n0 kg E P T (mkF m pc Ls (x :: x' :: st)) := by
  subst hp
  exact k.pre fun t q => XT.dup2 w.here w.hx rfl (hb w.hby hd) rfl hc hc' q
theorem g_istore (w : Wd p l e R s m args below meth c Z a0 n0 kb ws y bytes ml ret T L cells slots) {pc : Nat} {Ls : Array Slot} {i : Nat} {x x' : Int32} {st : List Value} (hd : decode bytes pc = .ok (.istore i, 2)) (pc' : Nat) (hp : pc + 2 = pc') (e1 : x = x') (Ls' : Array Slot) (hl : storeLocals Ls i (.int x') = some Ls')
    (k : Go p e below Z n0 kg E P T (mkF m pc' Ls' st)) : Go p e below Z n0 kg E P T (mkF m pc Ls (.int x :: st)) := by
  subst hp e1
  exact k.pre fun t q => XS.istore w.here w.hx rfl (hb w.hby hd) rfl hl q
theorem g_istoreN (w : Wd p l e R s m args below meth c Z a0 n0 kb ws y bytes ml ret T L cells slots) {pc : Nat} {Ls : Array Slot} {i : Fin 4} {x x' : Int32} {st : List Value} (hd : decode bytes pc = .ok (.istore_n i, 1)) (pc' : Nat) (hp : pc + 1 = pc') (e1 : x = x') (Ls' : Array Slot) (hl : storeLocals Ls i.val (.int x') = some Ls')
    (k : Go p e below Z n0 kg E P T (mkF m pc' Ls' st)) : Go p e below Z n0 kg E P T (mkF m pc Ls (.int x :: st)) := by
  subst hp e1
  exact k.pre fun t q => XS.istoreN w.here w.hx rfl (hb w.hby hd) rfl hl q
theorem g_lstore (w : Wd p l e R s m args below meth c Z a0 n0 kb ws y bytes ml ret T L cells slots) {pc : Nat} {Ls : Array Slot} {i : Nat} {x x' : Int64} {st : List Value} (hd : decode bytes pc = .ok (.lstore i, 2)) (pc' : Nat) (hp : pc + 2 = pc') (e1 : x = x') (Ls' : Array Slot) (hl : storeLocals Ls i (.long x') = some Ls')
    (k : Go p e below Z n0 kg E P T (mkF m pc' Ls' st)) : Go p e below Z n0 kg E P T (mkF m pc Ls (.long x :: st)) := by
  subst hp e1
  exact k.pre fun t q => XT.lstore w.here w.hx rfl (hb w.hby hd) rfl hl q
theorem g_lstoreN (w : Wd p l e R s m args below meth c Z a0 n0 kb ws y bytes ml ret T L cells slots) {pc : Nat} {Ls : Array Slot} {i : Fin 4} {x x' : Int64} {st : List Value} (hd : decode bytes pc = .ok (.lstore_n i, 1)) (pc' : Nat) (hp : pc + 1 = pc') (e1 : x = x') (Ls' : Array Slot) (hl : storeLocals Ls i.val (.long x') = some Ls')
    (k : Go p e below Z n0 kg E P T (mkF m pc' Ls' st)) : Go p e below Z n0 kg E P T (mkF m pc Ls (.long x :: st)) := by
  subst hp e1
  exact k.pre fun t q => XT.lstoreN w.here w.hx rfl (hb w.hby hd) rfl hl q
theorem g_astore (w : Wd p l e R s m args below meth c Z a0 n0 kb ws y bytes ml ret T L cells slots) {pc : Nat} {Ls : Array Slot} {i : Nat} {x : Value} {st : List Value} (hd : decode bytes pc = .ok (.astore i, 2)) (pc' : Nat) (hp : pc + 2 = pc') (hv : x.isRef = true) (Ls' : Array Slot) (hl : storeLocals Ls i x = some Ls')
    (k : Go p e below Z n0 kg E P T (mkF m pc' Ls' st)) : Go p e below Z n0 kg E P T (mkF m pc Ls (x :: st)) := by
  subst hp
  exact k.pre fun t q => XS.astore w.here w.hx rfl (hb w.hby hd) rfl hv hl q
theorem g_astoreN (w : Wd p l e R s m args below meth c Z a0 n0 kb ws y bytes ml ret T L cells slots) {pc : Nat} {Ls : Array Slot} {i : Fin 4} {x : Value} {st : List Value} (hd : decode bytes pc = .ok (.astore_n i, 1)) (pc' : Nat) (hp : pc + 1 = pc') (hv : x.isRef = true) (Ls' : Array Slot) (hl : storeLocals Ls i.val x = some Ls')
    (k : Go p e below Z n0 kg E P T (mkF m pc' Ls' st)) : Go p e below Z n0 kg E P T (mkF m pc Ls (x :: st)) := by
  subst hp
  exact k.pre fun t q => XS.astoreN w.here w.hx rfl (hb w.hby hd) rfl hv hl q
theorem g_iinc (w : Wd p l e R s m args below meth c Z a0 n0 kb ws y bytes ml ret T L cells slots) {pc : Nat} {Ls : Array Slot} {i : Nat} {cst : Int} {x x' : Int32} {st : List Value} (hd : decode bytes pc = .ok (.iinc i cst, 3)) (pc' : Nat) (hp : pc + 3 = pc') (hl0 : Ls[i]? = some (.val (.int x))) (e1 : x + Int32.ofInt cst = x') (Ls' : Array Slot) (hl : storeLocals Ls i (.int x') = some Ls')
    (k : Go p e below Z n0 kg E P T (mkF m pc' Ls' st)) : Go p e below Z n0 kg E P T (mkF m pc Ls st) := by
  subst hp e1
  exact k.pre fun t q => XS.iinc w.here w.hx rfl (hb w.hby hd) hl0 hl q
theorem g_goto (w : Wd p l e R s m args below meth c Z a0 n0 kb ws y bytes ml ret T L cells slots) {pc : Nat} {Ls : Array Slot} {o : Int} {st : List Value} (hd : decode bytes pc = .ok (.goto o, 3)) (pc' : Nat) (ho : 0 ≤ (pc : Int) + o) (hp : ((pc : Int) + o).toNat = pc')
    (k : Go p e below Z n0 kg E P T (mkF m pc' Ls st)) : Go p e below Z n0 kg E P T (mkF m pc Ls st) := k.pre fun t q => XS.goto w.here w.hx rfl rfl (hb w.hby hd) ho hp q
theorem g_icmp_eq (w : Wd p l e R s m args below meth c Z a0 n0 kb ws y bytes ml ret T L cells slots) {pc : Nat} {Ls : Array Slot} {x y' : Int32} {o : Int} {st : List Value} (hd : decode bytes pc = .ok (.if_icmp .eq o, 3)) (pcT : Nat) (ho : 0 ≤ (pc : Int) + o) (hT : ((pc : Int) + o).toNat = pcT) (pcF : Nat) (hF : pc + 3 = pcF)
    (k1 : x = y' → Go p e below Z n0 kg E P T (mkF m pcT Ls st)) (k2 : ¬ x = y' → Go p e below Z n0 kg E P T (mkF m pcF Ls st)) : Go p e below Z n0 kg E P T (mkF m pc Ls (.int y' :: .int x :: st)) := by
  subst hF
  by_cases h : x = y'
  · exact (k1 h).pre fun t q => XS.icmpYes w.here w.hx rfl rfl (hb w.hby hd) rfl (XT.ii_eq_t h) ho hT q
  · exact (k2 h).pre fun t q => XS.icmpNo w.here w.hx rfl (hb w.hby hd) rfl (XT.ii_eq_f h) q
theorem g_if_eq (w : Wd p l e R s m args below meth c Z a0 n0 kb ws y bytes ml ret T L cells slots) {pc : Nat} {Ls : Array Slot} {x : Int32} {o : Int} {st : List Value} (hd : decode bytes pc = .ok (.ifCond .eq o, 3)) (pcT : Nat) (ho : 0 ≤ (pc : Int) + o) (hT : ((pc : Int) + o).toNat = pcT) (pcF : Nat) (hF : pc + 3 = pcF)
    (k1 : x = 0 → Go p e below Z n0 kg E P T (mkF m pcT Ls st)) (k2 : ¬ x = 0 → Go p e below Z n0 kg E P T (mkF m pcF Ls st)) : Go p e below Z n0 kg E P T (mkF m pc Ls (.int x :: st)) := by
  subst hF
  by_cases h : x = 0
  · exact (k1 h).pre fun t q => XS.ifYes w.here w.hx rfl rfl (hb w.hby hd) rfl (XT.i0_eq_t h) ho hT q
  · exact (k2 h).pre fun t q => XS.ifNo w.here w.hx rfl (hb w.hby hd) rfl (XT.i0_eq_f h) q
theorem g_lif_eq (w : Wd p l e R s m args below meth c Z a0 n0 kb ws y bytes ml ret T L cells slots) {pc : Nat} {Ls : Array Slot} {x y' : Int64} {o : Int} {st : List Value} (hd : decode bytes pc = .ok (.ifCond .eq o, 3)) (pcT : Nat) (ho : 0 ≤ (pc : Int) + o) (hT : ((pc : Int) + o).toNat = pcT) (pcF : Nat) (hF : pc + 3 = pcF)
    (k1 : x = y' → Go p e below Z n0 kg E P T (mkF m pcT Ls st)) (k2 : ¬ x = y' → Go p e below Z n0 kg E P T (mkF m pcF Ls st)) : Go p e below Z n0 kg E P T (mkF m pc Ls (.int (XT.cmpL x y') :: st)) := by
  subst hF
  by_cases h : x = y'
  · exact (k1 h).pre fun t q => XS.ifYes w.here w.hx rfl rfl (hb w.hby hd) rfl (XT.ll_eq_t h) ho hT q
  · exact (k2 h).pre fun t q => XS.ifNo w.here w.hx rfl (hb w.hby hd) rfl (XT.ll_eq_f h) q
theorem g_icmp_ne (w : Wd p l e R s m args below meth c Z a0 n0 kb ws y bytes ml ret T L cells slots) {pc : Nat} {Ls : Array Slot} {x y' : Int32} {o : Int} {st : List Value} (hd : decode bytes pc = .ok (.if_icmp .ne o, 3)) (pcT : Nat) (ho : 0 ≤ (pc : Int) + o) (hT : ((pc : Int) + o).toNat = pcT) (pcF : Nat) (hF : pc + 3 = pcF)
    (k1 : ¬ x = y' → Go p e below Z n0 kg E P T (mkF m pcT Ls st)) (k2 : x = y' → Go p e below Z n0 kg E P T (mkF m pcF Ls st)) : Go p e below Z n0 kg E P T (mkF m pc Ls (.int y' :: .int x :: st)) := by
  subst hF
  by_cases h : x = y'
  · exact (k2 h).pre fun t q => XS.icmpNo w.here w.hx rfl (hb w.hby hd) rfl (XT.ii_ne_f h) q
  · exact (k1 h).pre fun t q => XS.icmpYes w.here w.hx rfl rfl (hb w.hby hd) rfl (XT.ii_ne_t h) ho hT q
theorem g_if_ne (w : Wd p l e R s m args below meth c Z a0 n0 kb ws y bytes ml ret T L cells slots) {pc : Nat} {Ls : Array Slot} {x : Int32} {o : Int} {st : List Value} (hd : decode bytes pc = .ok (.ifCond .ne o, 3)) (pcT : Nat) (ho : 0 ≤ (pc : Int) + o) (hT : ((pc : Int) + o).toNat = pcT) (pcF : Nat) (hF : pc + 3 = pcF)
    (k1 : ¬ x = 0 → Go p e below Z n0 kg E P T (mkF m pcT Ls st)) (k2 : x = 0 → Go p e below Z n0 kg E P T (mkF m pcF Ls st)) : Go p e below Z n0 kg E P T (mkF m pc Ls (.int x :: st)) := by
  subst hF
  by_cases h : x = 0
  · exact (k2 h).pre fun t q => XS.ifNo w.here w.hx rfl (hb w.hby hd) rfl (XT.i0_ne_f h) q
  · exact (k1 h).pre fun t q => XS.ifYes w.here w.hx rfl rfl (hb w.hby hd) rfl (XT.i0_ne_t h) ho hT q
theorem g_lif_ne (w : Wd p l e R s m args below meth c Z a0 n0 kb ws y bytes ml ret T L cells slots) {pc : Nat} {Ls : Array Slot} {x y' : Int64} {o : Int} {st : List Value} (hd : decode bytes pc = .ok (.ifCond .ne o, 3)) (pcT : Nat) (ho : 0 ≤ (pc : Int) + o) (hT : ((pc : Int) + o).toNat = pcT) (pcF : Nat) (hF : pc + 3 = pcF)
    (k1 : ¬ x = y' → Go p e below Z n0 kg E P T (mkF m pcT Ls st)) (k2 : x = y' → Go p e below Z n0 kg E P T (mkF m pcF Ls st)) : Go p e below Z n0 kg E P T (mkF m pc Ls (.int (XT.cmpL x y') :: st)) := by
  subst hF
  by_cases h : x = y'
  · exact (k2 h).pre fun t q => XS.ifNo w.here w.hx rfl (hb w.hby hd) rfl (XT.ll_ne_f h) q
  · exact (k1 h).pre fun t q => XS.ifYes w.here w.hx rfl rfl (hb w.hby hd) rfl (XT.ll_ne_t h) ho hT q
theorem g_icmp_lt (w : Wd p l e R s m args below meth c Z a0 n0 kb ws y bytes ml ret T L cells slots) {pc : Nat} {Ls : Array Slot} {x y' : Int32} {o : Int} {st : List Value} (hd : decode bytes pc = .ok (.if_icmp .lt o, 3)) (pcT : Nat) (ho : 0 ≤ (pc : Int) + o) (hT : ((pc : Int) + o).toNat = pcT) (pcF : Nat) (hF : pc + 3 = pcF)
    (k1 : x < y' → Go p e below Z n0 kg E P T (mkF m pcT Ls st)) (k2 : ¬ x < y' → Go p e below Z n0 kg E P T (mkF m pcF Ls st)) : Go p e below Z n0 kg E P T (mkF m pc Ls (.int y' :: .int x :: st)) := by
  subst hF
  by_cases h : x < y'
  · exact (k1 h).pre fun t q => XS.icmpYes w.here w.hx rfl rfl (hb w.hby hd) rfl (XT.ii_lt_t h) ho hT q
  · exact (k2 h).pre fun t q => XS.icmpNo w.here w.hx rfl (hb w.hby hd) rfl (XT.ii_lt_f h) q
theorem g_if_lt (w : Wd p l e R s m args below meth c Z a0 n0 kb ws y bytes ml ret T L cells slots) {pc : Nat} {Ls : Array Slot} {x : Int32} {o : Int} {st : List Value} (hd : decode bytes pc = .ok (.ifCond .lt o, 3)) (pcT : Nat) (ho : 0 ≤ (pc : Int) + o) (hT : ((pc : Int) + o).toNat = pcT) (pcF : Nat) (hF : pc + 3 = pcF)
    (k1 : x < 0 → Go p e below Z n0 kg E P T (mkF m pcT Ls st)) (k2 : ¬ x < 0 → Go p e below Z n0 kg E P T (mkF m pcF Ls st)) : Go p e below Z n0 kg E P T (mkF m pc Ls (.int x :: st)) := by
  subst hF
  by_cases h : x < 0
  · exact (k1 h).pre fun t q => XS.ifYes w.here w.hx rfl rfl (hb w.hby hd) rfl (XT.i0_lt_t h) ho hT q
  · exact (k2 h).pre fun t q => XS.ifNo w.here w.hx rfl (hb w.hby hd) rfl (XT.i0_lt_f h) q
theorem g_lif_lt (w : Wd p l e R s m args below meth c Z a0 n0 kb ws y bytes ml ret T L cells slots) {pc : Nat} {Ls : Array Slot} {x y' : Int64} {o : Int} {st : List Value} (hd : decode bytes pc = .ok (.ifCond .lt o, 3)) (pcT : Nat) (ho : 0 ≤ (pc : Int) + o) (hT : ((pc : Int) + o).toNat = pcT) (pcF : Nat) (hF : pc + 3 = pcF)
    (k1 : x < y' → Go p e below Z n0 kg E P T (mkF m pcT Ls st)) (k2 : ¬ x < y' → Go p e below Z n0 kg E P T (mkF m pcF Ls st)) : Go p e below Z n0 kg E P T (mkF m pc Ls (.int (XT.cmpL x y') :: st)) := by
  subst hF
  by_cases h : x < y'
  · exact (k1 h).pre fun t q => XS.ifYes w.here w.hx rfl rfl (hb w.hby hd) rfl (XT.ll_lt_t h) ho hT q
  · exact (k2 h).pre fun t q => XS.ifNo w.here w.hx rfl (hb w.hby hd) rfl (XT.ll_lt_f h) q
theorem g_icmp_ge (w : Wd p l e R s m args below meth c Z a0 n0 kb ws y bytes ml ret T L cells slots) {pc : Nat} {Ls : Array Slot} {x y' : Int32} {o : Int} {st : List Value} (hd : decode bytes pc = .ok (.if_icmp .ge o, 3)) (pcT : Nat) (ho : 0 ≤ (pc : Int) + o) (hT : ((pc : Int) + o).toNat = pcT) (pcF : Nat) (hF : pc + 3 = pcF)
    (k1 : ¬ x < y' → Go p e below Z n0 kg E P T (mkF m pcT Ls st)) (k2 : x < y' → Go p e below Z n0 kg E P T (mkF m pcF Ls st)) : Go p e below Z n0 kg E P T (mkF m pc Ls (.int y' :: .int x :: st)) := by
  subst hF
  by_cases h : x < y'
  · exact (k2 h).pre fun t q => XS.icmpNo w.here w.hx rfl (hb w.hby hd) rfl (XT.ii_ge_f h) q
  · exact (k1 h).pre fun t q => XS.icmpYes w.here w.hx rfl rfl (hb w.hby hd) rfl (XT.ii_ge_t h) ho hT q
theorem g_if_ge (w : Wd p l e R s m args below meth c Z a0 n0 kb ws y bytes ml ret T L cells slots) {pc : Nat} {Ls : Array Slot} {x : Int32} {o : Int} {st : List Value} (hd : decode bytes pc = .ok (.ifCond .ge o, 3)) (pcT : Nat) (ho : 0 ≤ (pc : Int) + o) (hT : ((pc : Int) + o).toNat = pcT) (pcF : Nat) (hF : pc + 3 = pcF)
    (k1 : ¬ x < 0 → Go p e below Z n0 kg E P T (mkF m pcT Ls st)) (k2 : x < 0 → Go p e below Z n0 kg E P T (mkF m pcF Ls st)) : Go p e below Z n0 kg E P T (mkF m pc Ls (.int x :: st)) := by
  subst hF
  by_cases h : x < 0
  · exact (k2 h).pre fun t q => XS.ifNo w.here w.hx rfl (hb w.hby hd) rfl (XT.i0_ge_f h) q
  · exact (k1 h).pre fun t q => XS.ifYes w.here w.hx rfl rfl (hb w.hby hd) rfl (XT.i0_ge_t h) ho hT q
theorem g_lif_ge (w : Wd p l e R s m args below meth c Z a0 n0 kb ws y bytes ml ret T L cells slots) {pc : Nat} {Ls : Array Slot} {x y' : Int64} {o : Int} {st : List Value} (hd : decode bytes pc = .ok (.ifCond .ge o, 3)) (pcT : Nat) (ho : 0 ≤ (pc : Int) + o) (hT : ((pc : Int) + o).toNat = pcT) (pcF : Nat) (hF : pc + 3 = pcF)
    (k1 : ¬ x < y' → Go p e below Z n0 kg E P T (mkF m pcT Ls st)) (k2 : x < y' → Go p e below Z n0 kg E P T (mkF m pcF Ls st)) : Go p e below Z n0 kg E P T (mkF m pc Ls (.int (XT.cmpL x y') :: st)) := by
  subst hF
  by_cases h : x < y'
  · exact (k2 h).pre fun t q => XS.ifNo w.here w.hx rfl (hb w.hby hd) rfl (XT.ll_ge_f h) q
  · exact (k1 h).pre fun t q => XS.ifYes w.here w.hx rfl rfl (hb w.hby hd) rfl (XT.ll_ge_t h) ho hT q
theorem g_icmp_gt (w : Wd p l e R s m args below meth c Z a0 n0 kb ws y bytes ml ret T L cells slots) {pc : Nat} {Ls : Array Slot} {x y' : Int32} {o : Int} {st : List Value} (hd : decode bytes pc = .ok (.if_icmp .gt o, 3)) (pcT : Nat) (ho : 0 ≤ (pc : Int) + o) (hT : ((pc : Int) + o).toNat = pcT) (pcF : Nat) (hF : pc + 3 = pcF)
    (k1 : y' < x → Go p e below Z n0 kg E P T (mkF m pcT Ls st)) (k2 : ¬ y' < x → Go p e below Z n0 kg E P T (mkF m pcF Ls st)) : Go p e below Z n0 kg E P T (mkF m pc Ls (.int y' :: .int x :: st)) := by
  subst hF
  by_cases h : y' < x
  · exact (k1 h).pre fun t q => XS.icmpYes w.here w.hx rfl rfl (hb w.hby hd) rfl (XT.ii_gt_t h) ho hT q
  · exact (k2 h).pre fun t q => XS.icmpNo w.here w.hx rfl (hb w.hby hd) rfl (XT.ii_gt_f h) q
theorem g_if_gt (w : Wd p l e R s m args below meth c Z a0 n0 kb ws y bytes ml ret T L cells slots) {pc : Nat} {Ls : Array Slot} {x : Int32} {o : Int} {st : List Value} (hd : decode bytes pc = .ok (.ifCond .gt o, 3)) (pcT : Nat) (ho : 0 ≤ (pc : Int) + o) (hT : ((pc : Int) + o).toNat = pcT) (pcF : Nat) (hF : pc + 3 = pcF)
    (k1 : 0 < x → Go p e below Z n0 kg E P T (mkF m pcT Ls st)) (k2 : ¬ 0 < x → Go p e below Z n0 kg E P T (mkF m pcF Ls st)) : Go p e below Z n0 kg E P T (mkF m pc Ls (.int x :: st)) := by
  subst hF
  by_cases h : 0 < x
  · exact (k1 h).pre fun t q => XS.ifYes w.here w.hx rfl rfl (hb w.hby hd) rfl (XT.i0_gt_t h) ho hT q
  · exact (k2 h).pre fun t q => XS.ifNo w.here w.hx rfl (hb w.hby hd) rfl (XT.i0_gt_f h) q
theorem g_lif_gt (w : Wd p l e R s m args below meth c Z a0 n0 kb ws y bytes ml ret T L cells slots) {pc : Nat} {Ls : Array Slot} {x y' : Int64} {o : Int} {st : List Value} (hd : decode bytes pc = .ok (.ifCond .gt o, 3)) (pcT : Nat) (ho : 0 ≤ (pc : Int) + o) (hT : ((pc : Int) + o).toNat = pcT) (pcF : Nat) (hF : pc + 3 = pcF)
    (k1 : y' < x → Go p e below Z n0 kg E P T (mkF m pcT Ls st)) (k2 : ¬ y' < x → Go p e below Z n0 kg E P T (mkF m pcF Ls st)) : Go p e below Z n0 kg E P T (mkF m pc Ls (.int (XT.cmpL x y') :: st)) := by
  subst hF
  by_cases h : y' < x
  · exact (k1 h).pre fun t q => XS.ifYes w.here w.hx rfl rfl (hb w.hby hd) rfl (XT.ll_gt_t h) ho hT q
  · exact (k2 h).pre fun t q => XS.ifNo w.here w.hx rfl (hb w.hby hd) rfl (XT.ll_gt_f h) q
theorem g_icmp_le (w : Wd p l e R s m args below meth c Z a0 n0 kb ws y bytes ml ret T L cells slots) {pc : Nat} {Ls : Array Slot} {x y' : Int32} {o : Int} {st : List Value} (hd : decode bytes pc = .ok (.if_icmp .le o, 3)) (pcT : Nat) (ho : 0 ≤ (pc : Int) + o) (hT : ((pc : Int) + o).toNat = pcT) (pcF : Nat) (hF : pc + 3 = pcF)
    (k1 : ¬ y' < x → Go p e below Z n0 kg E P T (mkF m pcT Ls st)) (k2 : y' < x → Go p e below Z n0 kg E P T (mkF m pcF Ls st)) : Go p e below Z n0 kg E P T (mkF m pc Ls (.int y' :: .int x :: st)) := by
  subst hF
  by_cases h : y' < x
  · exact (k2 h).pre fun t q => XS.icmpNo w.here w.hx rfl (hb w.hby hd) rfl (XT.ii_le_f h) q
  · exact (k1 h).pre fun t q => XS.icmpYes w.here w.hx rfl rfl (hb w.hby hd) rfl (XT.ii_le_t h) ho hT q
theorem g_if_le (w : Wd p l e R s m args below meth c Z a0 n0 kb ws y bytes ml ret T L cells slots) {pc : Nat} {Ls : Array Slot} {x : Int32} {o : Int} {st : List Value} (hd : decode bytes pc = .ok (.ifCond .le o, 3)) (pcT : Nat) (ho : 0 ≤ (pc : Int) + o) (hT : ((pc : Int) + o).toNat = pcT) (pcF : Nat) (hF : pc + 3 = pcF)
    (k1 : ¬ 0 < x → Go p e below Z n0 kg E P T (mkF m pcT Ls st)) (k2 : 0 < x → Go p e below Z n0 kg E P T (mkF m pcF Ls st)) : Go p e below Z n0 kg E P T (mkF m pc Ls (.int x :: st)) := by
  subst hF
  by_cases h : 0 < x
  · exact (k2 h).pre fun t q => XS.ifNo w.here w.hx rfl (hb w.hby hd) rfl (XT.i0_le_f h) q
  · exact (k1 h).pre fun t q => XS.ifYes w.here w.hx rfl rfl (hb w.hby hd) rfl (XT.i0_le_t h) ho hT q
theorem g_lif_le (w : Wd p l e R s m args below meth c Z a0 n0 kb ws y bytes ml ret T L cells slots) {pc : Nat} {Ls : Array Slot} {x y' : Int64} {o : Int} {st : List Value} (hd : decode bytes pc = .ok (.ifCond .le o, 3)) (pcT : Nat) (ho : 0 ≤ (pc : Int) + o) (hT : ((pc : Int) + o).toNat = pcT) (pcF : Nat) (hF : pc + 3 = pcF)
    (k1 : ¬ y' < x → Go p e below Z n0 kg E P T (mkF m pcT Ls st)) (k2 : y' < x → Go p e below Z n0 kg E P T (mkF m pcF Ls st)) : Go p e below Z n0 kg E P T (mkF m pc Ls (.int (XT.cmpL x y') :: st)) := by
  subst hF
  by_cases h : y' < x
  · exact (k2 h).pre fun t q => XS.ifNo w.here w.hx rfl (hb w.hby hd) rfl (XT.ll_le_f h) q
  · exact (k1 h).pre fun t q => XS.ifYes w.here w.hx rfl rfl (hb w.hby hd) rfl (XT.ll_le_t h) ho hT q
theorem g_acmp_eq (w : Wd p l e R s m args below meth c Z a0 n0 kb ws y bytes ml ret T L cells slots) {pc : Nat} {Ls : Array Slot} {x y' : Value} {o : Int} {st : List Value} (hd : decode bytes pc = .ok (.if_acmp .eq o, 3)) (hx' : x.isRef = true) (hy' : y'.isRef = true) (pcT : Nat) (ho : 0 ≤ (pc : Int) + o) (hT : ((pc : Int) + o).toNat = pcT) (pcF : Nat) (hF : pc + 3 = pcF)
    (k1 : x = y' → Go p e below Z n0 kg E P T (mkF m pcT Ls st)) (k2 : ¬ x = y' → Go p e below Z n0 kg E P T (mkF m pcF Ls st)) : Go p e below Z n0 kg E P T (mkF m pc Ls (y' :: x :: st)) := by
  subst hF
  by_cases h : x = y'
  · exact (k1 h).pre fun t q => XT.acmpYes w.here w.hx rfl rfl (hb w.hby hd) rfl hx' hy' (XT.aa_eq_t h) ho hT q
  · exact (k2 h).pre fun t q => XT.acmpNo w.here w.hx rfl (hb w.hby hd) rfl hx' hy' (XT.aa_eq_f h) q
theorem g_acmp_ne (w : Wd p l e R s m args below meth c Z a0 n0 kb ws y bytes ml ret T L cells slots) {pc : Nat} {Ls : Array Slot} {x y' : Value} {o : Int} {st : List Value} (hd : decode bytes pc = .ok (.if_acmp .ne o, 3)) (hx' : x.isRef = true) (hy' : y'.isRef = true) (pcT : Nat) (ho : 0 ≤ (pc : Int) + o) (hT : ((pc : Int) + o).toNat = pcT) (pcF : Nat) (hF : pc + 3 = pcF)
    (k1 : ¬ x = y' → Go p e below Z n0 kg E P T (mkF m pcT Ls st)) (k2 : x = y' → Go p e below Z n0 kg E P T (mkF m pcF Ls st)) : Go p e below Z n0 kg E P T (mkF m pc Ls (y' :: x :: st)) := by
  subst hF
  by_cases h : x = y'
  · exact (k2 h).pre fun t q => XT.acmpNo w.here w.hx rfl (hb w.hby hd) rfl hx' hy' (XT.aa_ne_f h) q
  · exact (k1 h).pre fun t q => XT.acmpYes w.here w.hx rfl rfl (hb w.hby hd) rfl hx' hy' (XT.aa_ne_t h) ho hT q
theorem g_ifnullT (w : Wd p l e R s m args below meth c Z a0 n0 kb ws y bytes ml ret T L cells slots) {pc : Nat} {Ls : Array Slot} {o : Int} {st : List Value} (hd : decode bytes pc = .ok (.ifnull o, 3)) (pcT : Nat) (ho : 0 ≤ (pc : Int) + o) (hT : ((pc : Int) + o).toNat = pcT) (k : Go p e below Z n0 kg E P T (mkF m pcT Ls st)) : Go p e below Z n0 kg E P T (mkF m pc Ls (.null :: st)) := k.pre fun t q => XS.ifnullYes w.here w.hx rfl rfl (hb w.hby hd) rfl ho hT q
theorem g_ifnullF (w : Wd p l e R s m args below meth c Z a0 n0 kb ws y bytes ml ret T L cells slots) {pc : Nat} {Ls : Array Slot} {r : Addr} {o : Int} {st : List Value} (hd : decode bytes pc = .ok (.ifnull o, 3)) (pcF : Nat) (hF : pc + 3 = pcF) (k : Go p e below Z n0 kg E P T (mkF m pcF Ls st)) : Go p e below Z n0 kg E P T (mkF m pc Ls (.ref r :: st)) := by
  subst hF
  exact k.pre fun t q => XS.ifnullNo w.here w.hx rfl (hb w.hby hd) rfl q
theorem g_ifnonnullT (w : Wd p l e R s m args below meth c Z a0 n0 kb ws y bytes ml ret T L cells slots) {pc : Nat} {Ls : Array Slot} {r : Addr} {o : Int} {st : List Value} (hd : decode bytes pc = .ok (.ifnonnull o, 3)) (pcT : Nat) (ho : 0 ≤ (pc : Int) + o) (hT : ((pc : Int) + o).toNat = pcT) (k : Go p e below Z n0 kg E P T (mkF m pcT Ls st)) : Go p e below Z n0 kg E P T (mkF m pc Ls (.ref r :: st)) := k.pre fun t q => XT.ifnonnullYes w.here w.hx rfl rfl (hb w.hby hd) rfl ho hT q
theorem g_ifnonnullF (w : Wd p l e R s m args below meth c Z a0 n0 kb ws y bytes ml ret T L cells slots) {pc : Nat} {Ls : Array Slot} {o : Int} {st : List Value} (hd : decode bytes pc = .ok (.ifnonnull o, 3)) (pcF : Nat) (hF : pc + 3 = pcF) (k : Go p e below Z n0 kg E P T (mkF m pcF Ls st)) : Go p e below Z n0 kg E P T (mkF m pc Ls (.null :: st)) := by
  subst hF
  exact k.pre fun t q => XT.ifnonnullNo w.here w.hx rfl (hb w.hby hd) rfl q
/-! ## calls -/
theorem g_initO (w : Wd p l e R s m args below meth c Z a0 n0 kb ws y bytes ml ret T L cells slots) {pc : Nat} {Ls : Array Slot} {st : List Value} {idx : Nat} {a : Addr} (hd : decode bytes pc = .ok (.invokespecial idx, 3)) (k1 : Nat) (hk1 : ws[k1]? = some (.methodLink y.cls idx Lib.objectInit)) (k2 : Nat) (hk2 : ws[k2]? = some (.instanceMethod Lib.objectInit)) (k3 : Nat) (hk3 : ws[k3]? = some (.code Lib.objectInit ⟨#[0xb1]⟩ 1 none))
    (hsz : Ls.size = ml) (hf : 1 ≤ R.frames) (W : Nat) (hW : (st.map fun v => v.category).sum = W) (hl : W + 12 ≤ R.locals) (pc' : Nat) (hp : pc + 3 = pc')
    (kt : ∀ T', Wd p l e R s m args below meth c Z a0 n0 kb ws y bytes ml ret T' L cells slots → Go p e below Z n0 kg E P T' (mkF m pc' Ls st)) : Go p e below Z n0 kg E P T (mkF m pc Ls (.ref a :: st)) := by
  subst hp
  have hk1' := w.hw hk1
  have hk2' := w.hw hk2
  have hk3' := w.hw hk3
  obtain ⟨⟨locs, X, N⟩, H, hx, hZ, hown, hby, hml, hret, hlk, hnm, hws⟩ := w
  obtain ⟨T', X', e', st'⟩ := initO X hx hZ hown hk1' hk2' hk3' rfl (g := mkF m pc Ls (.ref a :: st)) rfl (by rw [hml]; exact hsz) rfl (hb hby hd) hf (W := W) (by show 2 * 0 + _ ≤ _; rw [hW]; omega) hl
  exact (kt T' ⟨⟨locs, X', N⟩, by rw [e']; exact H, hx, hZ, hown, hby, hml, hret, hlk, hnm, hws⟩).pre st'
theorem Con.back {y' : MethodName} {bytes' : ByteArray} {ml' : Nat} {ret' : Option FieldType} {rm : Room} {as' : Array Value} {P' : Option Value → HL → Prop} {h : Heap} {len W : Nat} (C : Con l y' bytes' ml' ret' rm Z n0 as' L P') (H : Hp Z n0 kb h L) (hZ : Z.Warmed39 s.vm) (wc : (Cond.code y' bytes' ml' ret').before a0 Z = true) (wz : (Cond.initialized y'.cls).before a0 Z = true) (hf : rm.frames + 1 ≤ R.frames) (hl : W + (ml' + 11) + rm.locals ≤ R.locals) :
    Back l R p e below s args y' len W (fun A a => a = as' ∧ A.U.heap = h ∧ A.cells + rm.cells ≤ R.cells ∧ A.slots + rm.slots ≤ R.slots)
      (fun A _ v B => ∃ Lc, (Fr n0 Lc ∧ ∃ L', Hp Z n0 kb B.U.heap L' ∧ P' v L') ∧ B.locs = A.locs ++ Lc ∧ B.cells = A.cells + rm.cells ∧ B.slots = A.slots + rm.slots) :=
  backOf (Q := fun v hh Lc => Fr n0 Lc ∧ ∃ L', Hp Z n0 kb hh L' ∧ P' v L') (C [] kb h H) hZ wc wz hf hl
/-- behind a call -/
theorem g_behind {rm : Room} {P' : Option Value → HL → Prop} {pc : Nat} {Ls : Array Slot} {rest : List Value} {v : Option Value} {B : Pt} {locs : List Loc}
    (N : Fr n0 locs) (hx : p.tables.exec = Jvm.exec) (hZ : Z.Warmed39 s.vm) (hown : s.vm.findClass y.cls = some m.cls) (hby : c.code = bytes) (hml : c.maxLocals = ml) (hret : meth.sig.returnType = ret) (hlk : meth.locks = false) (hnm : meth.name = y.name) (hws : ∀ d ∈ ws, d.before a0 Z = true)
    (X' : Stand p l e R s m args below meth c B.U B.locs B.cells B.slots)
    (hQ : ∃ Lc, (Fr n0 Lc ∧ ∃ L', Hp Z n0 kb B.U.heap L' ∧ P' v L') ∧ Pt.locs B = locs ++ Lc ∧ Pt.cells B = cells + rm.cells ∧ Pt.slots B = slots + rm.slots)
    (kt : ∀ T' v L', Wd p l e R s m args below meth c Z a0 n0 kb ws y bytes ml ret T' L' (cells + rm.cells) (slots + rm.slots) → P' v L' → Go p e below Z n0 kg E P T' (mkF m pc Ls (pushV v rest))) :
    Go p e below Z n0 kg E P B.U (mkF m pc Ls (v.toList ++ rest)) := by
  obtain ⟨Lc, ⟨N', L', H', hP⟩, h1, h2, h3⟩ := hQ
  obtain ⟨U, bl, bc, bs⟩ := B
  dsimp only [Pt.U, Pt.locs, Pt.cells, Pt.slots] at h1 h2 h3 X' H' ⊢
  subst h1 h2 h3
  rw [pushV_eq]
  exact kt U v L' ⟨⟨_, X', Fr.app N N'⟩, H', hx, hZ, hown, hby, hml, hret, hlk, hnm, hws⟩ hP
theorem g_static (w : Wd p l e R s m args below meth c Z a0 n0 kb ws y bytes ml ret T L cells slots) {pc : Nat} {Ls : Array Slot} {st : List Value} {idx : Nat} {y' : MethodName} {bytes' : ByteArray} {ml' : Nat} {ret' : Option FieldType} {rm : Room} {P' : Option Value → HL → Prop} {ps : List FieldType} {rt : Option FieldType} {argsL rest : List Value}
    (C : Con l y' bytes' ml' ret' rm Z n0 argsL.toArray L P') (hd : decode bytes pc = .ok (.invokestatic idx, 3)) (k1 : Nat) (hk1 : ws[k1]? = some (.methodLink y.cls idx y')) (k2 : Nat) (hk2 : ws[k2]? = some (.static y')) (k3 : Nat) (hk3 : ws[k3]? = some (.initialized y'.cls)) (k4 : Nat) (hk4 : ws[k4]? = some (.code y' bytes' ml' ret'))
    (hy : y'.cls ≠ "java/lang/invoke/MethodHandle" ∧ y'.cls ≠ "java/lang/invoke/VarHandle") (hpd : parseMethodDescriptor y'.desc = some ⟨ps, rt⟩) (hlen : argsL.length = ps.length) (hst : st = argsL.reverse ++ rest) (hsz : Ls.size = ml) (W : Nat) (hW : (rest.map fun v => v.category).sum = W) (hf : rm.frames + 1 ≤ R.frames) (hl : W + (ml' + 11) + rm.locals ≤ R.locals)
    (hc : cells + rm.cells ≤ R.cells) (hs : slots + rm.slots ≤ R.slots) (pc' : Nat) (hp : pc + 3 = pc')
    (kt : ∀ T' v L', Wd p l e R s m args below meth c Z a0 n0 kb ws y bytes ml ret T' L' (cells + rm.cells) (slots + rm.slots) → P' v L' → Go p e below Z n0 kg E P T' (mkF m pc' Ls (pushV v rest))) : Go p e below Z n0 kg E P T (mkF m pc Ls st) := by
  subst hp hst
  have hk1' := w.hw hk1
  have hk2' := w.hw hk2
  have hk3' := w.hw hk3
  have hk4' := w.hw hk4
  obtain ⟨⟨locs, X, N⟩, H, hx, hZ, hown, hby, hml, hret, hlk, hnm, hws⟩ := w
  obtain ⟨v, vm₁, B, -, X', hQ, st'⟩ := Jvm.LawKit.callS X hx hown (mvT hZ hk1') (mvT hZ hk2') (mvT hZ hk3') (mvT hZ hk4') hy (Con.back C H hZ hk4' hk3' hf hl) (g := mkF m pc Ls (argsL.reverse ++ rest)) rfl (by rw [hml]; exact hsz) (argsL := argsL) (rest := rest) (lenOf hpd hlen) rfl (by show 2 * 0 + _ ≤ _; rw [hW]; omega) (hb hby hd) (fun _ _ => ⟨rfl, rfl, hc, hs⟩)
  exact (g_behind (rm := rm) (P' := P') N hx hZ hown hby hml hret hlk hnm hws X' hQ kt).pre st'
theorem g_ctor (w : Wd p l e R s m args below meth c Z a0 n0 kb ws y bytes ml ret T L cells slots) {pc : Nat} {Ls : Array Slot} {st : List Value} {idx : Nat} {y' : MethodName} {bytes' : ByteArray} {ml' : Nat} {rm : Room} {P' : Option Value → HL → Prop} {ps : List FieldType} {rt : Option FieldType} {a : Addr} {argsL rest : List Value}
    (C : Con l y' bytes' ml' none rm Z n0 (Value.ref a :: argsL).toArray L P') (hd : decode bytes pc = .ok (.invokespecial idx, 3)) (k1 : Nat) (hk1 : ws[k1]? = some (.methodLink y.cls idx y')) (k2 : Nat) (hk2 : ws[k2]? = some (.instanceMethod y')) (k3 : Nat) (hk3 : ws[k3]? = some (.initialized y'.cls)) (k4 : Nat) (hk4 : ws[k4]? = some (.code y' bytes' ml' none))
    (hyn : y'.name = "<init>") (hy : y'.cls ≠ "java/lang/invoke/MethodHandle" ∧ y'.cls ≠ "java/lang/invoke/VarHandle") (hpd : parseMethodDescriptor y'.desc = some ⟨ps, rt⟩) (hlen : argsL.length = ps.length) (hst : st = argsL.reverse ++ .ref a :: rest) (hsz : Ls.size = ml) (W : Nat) (hW : (rest.map fun v => v.category).sum = W) (hf : rm.frames + 1 ≤ R.frames) (hl : W + (ml' + 11) + rm.locals ≤ R.locals)
    (hc : cells + rm.cells ≤ R.cells) (hs : slots + rm.slots ≤ R.slots) (pc' : Nat) (hp : pc + 3 = pc')
    (kt : ∀ T' v L', Wd p l e R s m args below meth c Z a0 n0 kb ws y bytes ml ret T' L' (cells + rm.cells) (slots + rm.slots) → P' v L' → Go p e below Z n0 kg E P T' (mkF m pc' Ls (pushV v rest))) : Go p e below Z n0 kg E P T (mkF m pc Ls st) := by
  subst hp hst
  have hk1' := w.hw hk1
  have hk2' := w.hw hk2
  have hk3' := w.hw hk3
  have hk4' := w.hw hk4
  obtain ⟨⟨locs, X, N⟩, H, hx, hZ, hown, hby, hml, hret, hlk, hnm, hws⟩ := w
  obtain ⟨v, vm₁, B, -, X', hQ, st'⟩ := X.specialBack hx hyn hown (mvT hZ hk1') (mvT hZ hk2') (mvT hZ hk4') hy (Con.back C H hZ hk4' hk3' hf hl) (g := mkF m pc Ls (argsL.reverse ++ .ref a :: rest)) rfl (by rw [hml]; exact hsz) (Steps.refl _) (a := a) (argsL := argsL) (rest := rest) (lenOf hpd hlen) rfl (by show 2 * 0 + _ ≤ _; rw [hW]; omega) (hb hby hd) (fun _ _ => ⟨rfl, rfl, hc, hs⟩)
  exact (g_behind (rm := rm) (P' := P') N hx hZ hown hby hml hret hlk hnm hws X' hQ kt).pre fun t q => st'.trans q
theorem g_virt (w : Wd p l e R s m args below meth c Z a0 n0 kb ws y bytes ml ret T L cells slots) {pc : Nat} {Ls : Array Slot} {st : List Value} {idx : Nat} {y' : MethodName} {bytes' : ByteArray} {ml' : Nat} {ret' : Option FieldType} {rm : Room} {P' : Option Value → HL → Prop} {ps : List FieldType} {rt : Option FieldType} {a : Addr} {Cn : String} {fs : List FldE} {argsL rest : List Value}
    (C : Con l y' bytes' ml' ret' rm Z n0 (Value.ref a :: argsL).toArray L P') (hd : decode bytes pc = .ok (.invokevirtual idx, 3)) (i : Nat) (hi : L[i]? = some (a, .inl (Cn, fs))) (k1 : Nat) (hk1 : ws[k1]? = some (.methodLink y.cls idx y')) (k2 : Nat) (hk2 : ws[k2]? = some (.declares y')) (k3 : Nat) (hk3 : ws[k3]? = some (.initialized y'.cls)) (k4 : Nat) (hk4 : ws[k4]? = some (.code y' bytes' ml' ret'))
    (k5 : Nat) (hk5 : ws[k5]? = some (.selects Cn y' y')) (k6 : Nat) (hk6 : ws[k6]? = some (.instanceMethod y'))
    (hy : y'.cls ≠ "java/lang/invoke/MethodHandle" ∧ y'.cls ≠ "java/lang/invoke/VarHandle") (hpd : parseMethodDescriptor y'.desc = some ⟨ps, rt⟩) (hlen : argsL.length = ps.length) (hst : st = argsL.reverse ++ .ref a :: rest) (hsz : Ls.size = ml) (W : Nat) (hW : (rest.map fun v => v.category).sum = W) (hf : rm.frames + 1 ≤ R.frames) (hl : W + (ml' + 11) + rm.locals ≤ R.locals)
    (hc : cells + rm.cells ≤ R.cells) (hs : slots + rm.slots ≤ R.slots) (pc' : Nat) (hp : pc + 3 = pc')
    (kt : ∀ T' v L', Wd p l e R s m args below meth c Z a0 n0 kb ws y bytes ml ret T' L' (cells + rm.cells) (slots + rm.slots) → P' v L' → Go p e below Z n0 kg E P T' (mkF m pc' Ls (pushV v rest))) : Go p e below Z n0 kg E P T (mkF m pc Ls st) := by
  subst hp hst
  have hk1' := w.hw hk1
  have hk2' := w.hw hk2
  have hk3' := w.hw hk3
  have hk4' := w.hw hk4
  have hk5' := w.hw hk5
  have hk6' := w.hw hk6
  obtain ⟨⟨locs, X, N⟩, H, hx, hZ, hown, hby, hml, hret, hlk, hnm, hws⟩ := w
  obtain ⟨cq, kq, qa, qb, qc⟩ := isOf hZ rfl (H.obj hi).1
  obtain ⟨v, vm₁, B, -, X', hQ, st'⟩ := X.virtualBack hx (y := y') (z := y') hown (mvT hZ hk1') (mvT hZ hk2') (notFace_of_selects (args := #[]) (mvT hZ hk5')) (mvT hZ hk5') (mvT hZ hk6') hy (Con.back C H hZ hk4' hk3' hf hl) qa qc (g := mkF m pc Ls (argsL.reverse ++ .ref a :: rest)) rfl (by rw [hml]; exact hsz) (Steps.refl _) (argsL := argsL) (rest := rest) (lenOf hpd hlen) rfl (by show 2 * 0 + _ ≤ _; rw [hW]; omega) (hb hby hd) (fun _ _ => ⟨rfl, rfl, hc, hs⟩)
  exact (g_behind (rm := rm) (P' := P') N hx hZ hown hby hml hret hlk hnm hws X' hQ kt).pre fun t q => st'.trans q
theorem g_virtO (w : Wd p l e R s m args below meth c Z a0 n0 kb ws y bytes ml ret T L cells slots) {pc : Nat} {Ls : Array Slot} {st : List Value} {idx : Nat} {y' : MethodName} {bytes' : ByteArray} {ml' : Nat} {ret' : Option FieldType} {rm : Room} {P' : Option Value → HL → Prop} {ps : List FieldType} {rt : Option FieldType} {a : Addr} {Cn : String} {argsL rest : List Value}
    (C : Con l y' bytes' ml' ret' rm Z n0 (Value.ref a :: argsL).toArray L P') (hd : decode bytes pc = .ok (.invokevirtual idx, 3)) (EO : Exa Z Z.heap a Cn) (k1 : Nat) (hk1 : ws[k1]? = some (.methodLink y.cls idx y')) (k2 : Nat) (hk2 : ws[k2]? = some (.declares y')) (k3 : Nat) (hk3 : ws[k3]? = some (.initialized y'.cls)) (k4 : Nat) (hk4 : ws[k4]? = some (.code y' bytes' ml' ret'))
    (k5 : Nat) (hk5 : ws[k5]? = some (.selects Cn y' y')) (k6 : Nat) (hk6 : ws[k6]? = some (.instanceMethod y'))
    (hy : y'.cls ≠ "java/lang/invoke/MethodHandle" ∧ y'.cls ≠ "java/lang/invoke/VarHandle") (hpd : parseMethodDescriptor y'.desc = some ⟨ps, rt⟩) (hlen : argsL.length = ps.length) (hst : st = argsL.reverse ++ .ref a :: rest) (hsz : Ls.size = ml) (W : Nat) (hW : (rest.map fun v => v.category).sum = W) (hf : rm.frames + 1 ≤ R.frames) (hl : W + (ml' + 11) + rm.locals ≤ R.locals)
    (hc : cells + rm.cells ≤ R.cells) (hs : slots + rm.slots ≤ R.slots) (pc' : Nat) (hp : pc + 3 = pc')
    (kt : ∀ T' v L', Wd p l e R s m args below meth c Z a0 n0 kb ws y bytes ml ret T' L' (cells + rm.cells) (slots + rm.slots) → P' v L' → Go p e below Z n0 kg E P T' (mkF m pc' Ls (pushV v rest))) : Go p e below Z n0 kg E P T (mkF m pc Ls st) := by
  subst hp hst
  have hk1' := w.hw hk1
  have hk2' := w.hw hk2
  have hk3' := w.hw hk3
  have hk4' := w.hw hk4
  have hk5' := w.hw hk5
  have hk6' := w.hw hk6
  obtain ⟨⟨locs, X, N⟩, H, hx, hZ, hown, hby, hml, hret, hlk, hnm, hws⟩ := w
  obtain ⟨cq, kq, qa, qb, qc⟩ := isOf hZ rfl (EO.ext H.old)
  obtain ⟨v, vm₁, B, -, X', hQ, st'⟩ := X.virtualBack hx (y := y') (z := y') hown (mvT hZ hk1') (mvT hZ hk2') (notFace_of_selects (args := #[]) (mvT hZ hk5')) (mvT hZ hk5') (mvT hZ hk6') hy (Con.back C H hZ hk4' hk3' hf hl) qa qc (g := mkF m pc Ls (argsL.reverse ++ .ref a :: rest)) rfl (by rw [hml]; exact hsz) (Steps.refl _) (argsL := argsL) (rest := rest) (lenOf hpd hlen) rfl (by show 2 * 0 + _ ≤ _; rw [hW]; omega) (hb hby hd) (fun _ _ => ⟨rfl, rfl, hc, hs⟩)
  exact (g_behind (rm := rm) (P' := P') N hx hZ hown hby hml hret hlk hnm hws X' hQ kt).pre fun t q => st'.trans q
theorem g_priv (w : Wd p l e R s m args below meth c Z a0 n0 kb ws y bytes ml ret T L cells slots) {pc : Nat} {Ls : Array Slot} {st : List Value} {idx nI : Nat} {y' : MethodName} {bytes' : ByteArray} {ml' : Nat} {ret' : Option FieldType} {rm : Room} {P' : Option Value → HL → Prop} {ps : List FieldType} {rt : Option FieldType} {a : Addr} {Cn : String} {fs : List FldE} {argsL rest : List Value}
    (C : Con l y' bytes' ml' ret' rm Z n0 (Value.ref a :: argsL).toArray L P') (hd : decode bytes pc = .ok (.invokevirtual idx, 3)) (i : Nat) (hi : L[i]? = some (a, .inl (Cn, fs))) (k1 : Nat) (hk1 : ws[k1]? = some (.methodLink y.cls idx y')) (k2 : Nat) (hk2 : ws[k2]? = some (.instanceMethod y')) (k3 : Nat) (hk3 : ws[k3]? = some (.initialized y'.cls)) (k4 : Nat) (hk4 : ws[k4]? = some (.code y' bytes' ml' ret'))
    (k5 : Nat) (hk5 : ws[k5]? = some (.privateMethod y')) (k6 : Nat) (hk6 : ws[k6]? = some (.instantiable y'.cls nI))
    (hy : y'.cls ≠ "java/lang/invoke/MethodHandle" ∧ y'.cls ≠ "java/lang/invoke/VarHandle") (hpd : parseMethodDescriptor y'.desc = some ⟨ps, rt⟩) (hlen : argsL.length = ps.length) (hst : st = argsL.reverse ++ .ref a :: rest) (hsz : Ls.size = ml) (W : Nat) (hW : (rest.map fun v => v.category).sum = W) (hf : rm.frames + 1 ≤ R.frames) (hl : W + (ml' + 11) + rm.locals ≤ R.locals)
    (hc : cells + rm.cells ≤ R.cells) (hs : slots + rm.slots ≤ R.slots) (pc' : Nat) (hp : pc + 3 = pc')
    (kt : ∀ T' v L', Wd p l e R s m args below meth c Z a0 n0 kb ws y bytes ml ret T' L' (cells + rm.cells) (slots + rm.slots) → P' v L' → Go p e below Z n0 kg E P T' (mkF m pc' Ls (pushV v rest))) : Go p e below Z n0 kg E P T (mkF m pc Ls st) := by
  subst hp hst
  have hk1' := w.hw hk1
  have hk2' := w.hw hk2
  have hk3' := w.hw hk3
  have hk4' := w.hw hk4
  have hk5' := w.hw hk5
  have hk6' := w.hw hk6
  obtain ⟨⟨locs, X, N⟩, H, hx, hZ, hown, hby, hml, hret, hlk, hnm, hws⟩ := w
  obtain ⟨cl, hcl, hst0⟩ := (H.obj hi).1.cell
  have hpa : s.PrivateAt y' := Cond.privateMethod_at (mvP hZ hk5' (args := #[]))
  have hin : (Cond.instanceMethod y').before args s = true := mvT hZ hk2'
  have hic : (Cond.instantiable y'.cls nI).before args s = true := mvT hZ hk6'
  obtain ⟨cI, kI, i1, i2, i3, i4, -⟩ := Cond.instantiable_spec hic
  have hsel : (Cond.selects y'.cls y' y').before args s = true := selects_self_of_private i1 i2 (Bool.or_eq_false_iff.mp i4).1 hpa hin hy
  obtain ⟨v, vm₁, B, -, X', hQ, st'⟩ := X.privateBack hx (y := y') hown (mvT hZ hk1') hin hsel hpa (mvT hZ hk4') hy (Con.back C H hZ hk4' hk3' hf hl) (g := mkF m pc Ls (argsL.reverse ++ .ref a :: rest)) rfl (by rw [hml]; exact hsz) (Steps.refl _) (a := a) hcl hst0 (argsL := argsL) (rest := rest) (lenOf hpd hlen) rfl (by show 2 * 0 + _ ≤ _; rw [hW]; omega) (hb hby hd) (fun _ _ => ⟨rfl, rfl, hc, hs⟩)
  exact (g_behind (rm := rm) (P' := P') N hx hZ hown hby hml hret hlk hnm hws X' hQ kt).pre fun t q => st'.trans q
/-! ## from the case's words to the contract of the law -/
theorem fr_end {Lc : List Loc} {v : Option Value} {u : State} (N : Fr s.heap.size Lc) (hq : FrameEnd s (.returned v) u Lc kc ks) (L0 : List Loc) {kc' ks' : Nat} (h1 : kc ≤ kc') (h2 : ks ≤ ks') : FrameEnd s (.returned v) u L0 kc' ks' :=
  ⟨hq.1, hq.2.1, (hq.2.2.sift fun y hy => Or.inr (N y hy)).mono h1 h2⟩
end Walk
end Jvm.OwnW
namespace Jvm.Pilot.@@N@@
open Jvm Jvm.ClassFile Sem Op Lib Jvm.Free Jvm.Stand Jvm.LawKit Jvm.RoadKit Bundle Jvm.OwnW Jvm.Pilot.@@N@@.Jvm.D
def own_tn (k : Nat) : String := ["BOOLEAN", "INT8", "INT16", "INT32", "INT64", "FLOAT", "DOUBLE", "STRING", "BYTES", "DATE", "TIME_MILLIS", "TIMESTAMP_MILLIS", "TIMESTAMP_MICROS", "TIMESTAMP_MILLIS_UTC", "TIMESTAMP_MICROS_UTC", "INT96", "DECIMAL_INT32", "DECIMAL_INT64", "DECIMAL_FIXED"].getD k ""
def own_pn (k : Nat) : String := ["BOOLEAN", "INT32", "INT64", "INT96", "FLOAT", "DOUBLE", "BYTE_ARRAY", "FIXED_LEN_BYTE_ARRAY"].getD k ""
def own_ph (k : Nat) : Nat := [0, 1, 1, 1, 2, 4, 5, 6, 6, 1, 1, 2, 2, 2, 2, 3, 1, 2, 7].getD k 0
/-- what the case says of the two enums' constants -/
def own_W (Z : State) (t p : Nat → Addr) : Prop :=
  (∀ k, k < 19 → Sta Z Z.heap "tidestone/parquet/ParquetColumn$Type" (own_tn k) "Ltidestone/parquet/ParquetColumn$Type;" (.ref (t k)) ∧ Exa Z Z.heap (t k) "tidestone/parquet/ParquetColumn$Type" ∧ Fld Z Z.heap (t k) "java/lang/Enum" "ordinal" "I" (.int (Int32.ofNat k)) ∧ Fld Z Z.heap (t k) "tidestone/parquet/ParquetColumn$Type" "physicalType" "Ltidestone/parquet/PhysicalType;" (.ref (p (own_ph k)))) ∧
  ∀ k, k < 8 → Sta Z Z.heap "tidestone/parquet/PhysicalType" (own_pn k) "Ltidestone/parquet/PhysicalType;" (.ref (p k)) ∧ Fld Z Z.heap (p k) "java/lang/Enum" "ordinal" "I" (.int (Int32.ofNat k))
theorem own_tne {Z : State} {t p : Nat → Addr} (h : own_W Z t p) {i j : Nat} (hi : i < 19) (hj : j < 19) (q : Int32.ofNat i ≠ Int32.ofNat j) : ¬ t i = t j := (h.1 i hi).2.2.1.ne (h.1 j hj).2.2.1 fun e => q (Value.int.inj e)
theorem own_pne {Z : State} {t p : Nat → Addr} (h : own_W Z t p) {i j : Nat} (hi : i < 8) (hj : j < 8) (q : Int32.ofNat i ≠ Int32.ofNat j) : ¬ p i = p j := (h.2 i hi).2.ne (h.2 j hj).2 fun e => q (Value.int.inj e)
def own_dec (a b c d : Addr) : Int32 := if a = b then 1 else if a = c then 1 else if a = d then 1 else 0
theorem own_k (z : Int32) : (z &&& 2147483647) % 19 = 0 ∨ (z &&& 2147483647) % 19 = 1 ∨ (z &&& 2147483647) % 19 = 2 ∨ (z &&& 2147483647) % 19 = 3 ∨ (z &&& 2147483647) % 19 = 4 ∨ (z &&& 2147483647) % 19 = 5 ∨ (z &&& 2147483647) % 19 = 6 ∨ (z &&& 2147483647) % 19 = 7 ∨ (z &&& 2147483647) % 19 = 8 ∨ (z &&& 2147483647) % 19 = 9 ∨ (z &&& 2147483647) % 19 = 10 ∨ (z &&& 2147483647) % 19 = 11 ∨ (z &&& 2147483647) % 19 = 12 ∨ (z &&& 2147483647) % 19 = 13 ∨ (z &&& 2147483647) % 19 = 14 ∨ (z &&& 2147483647) % 19 = 15 ∨ (z &&& 2147483647) % 19 = 16 ∨ (z &&& 2147483647) % 19 = 17 ∨ (z &&& 2147483647) % 19 = 18 := by
  have h1 := c_mask z 2147483647 31 (by decide) (by decide)
  have h2 := (c_irem (z &&& 2147483647) 19 19 rfl).1 (by omega)
  have k0 : (0 : Int32).toInt = 0 := rfl
  have k1 : (1 : Int32).toInt = 1 := rfl
  have k2 : (2 : Int32).toInt = 2 := rfl
  have k3 : (3 : Int32).toInt = 3 := rfl
  have k4 : (4 : Int32).toInt = 4 := rfl
  have k5 : (5 : Int32).toInt = 5 := rfl
  have k6 : (6 : Int32).toInt = 6 := rfl
  have k7 : (7 : Int32).toInt = 7 := rfl
  have k8 : (8 : Int32).toInt = 8 := rfl
  have k9 : (9 : Int32).toInt = 9 := rfl
  have k10 : (10 : Int32).toInt = 10 := rfl
  have k11 : (11 : Int32).toInt = 11 := rfl
  have k12 : (12 : Int32).toInt = 12 := rfl
  have k13 : (13 : Int32).toInt = 13 := rfl
  have k14 : (14 : Int32).toInt = 14 := rfl
  have k15 : (15 : Int32).toInt = 15 := rfl
  have k16 : (16 : Int32).toInt = 16 := rfl
  have k17 : (17 : Int32).toInt = 17 := rfl
  have k18 : (18 : Int32).toInt = 18 := rfl
  simp only [← Int32.toInt_inj, k0, k1, k2, k3, k4, k5, k6, k7, k8, k9, k10, k11, k12, k13, k14, k15, k16, k17, k18]
  omega
/-- an int that the case names -/
theorem own_int {args : Array Value} {Z : State} {a : Term} {k : Int32} (h : (Cond.eq a (.int k)).value args Z none Z [] = some true) : a.eval args Z none [] Z = some (.int k) := by
  obtain ⟨x, y, h1, h2, h3, -⟩ := cmp_v (Or.inl h)
  have e2 : (Term.int k).eval args Z none [] Z = some (.int k) := Term.int_eval k
  cases e2.symm.trans h2
  cases x with
  | int x =>
    have := gotT (Cond.eq_ints h1 e2) h
    rw [h1, this]
  | _ => simp [Kin, Value.isRef] at h3
/-- an object that the case names -/
theorem own_ref {args : Array Value} {Z : State} {a b : Term} {x : Addr} (h : (Cond.eq a b).value args Z none Z [] = some true) (hb : b.eval args Z none [] Z = some (.ref x)) : a.eval args Z none [] Z = some (.ref x) := by
  obtain ⟨v, y, h1, h2, h3, h4⟩ := cmp_v (Or.inl h)
  cases hb.symm.trans h2
  have hv : v.isRef = true := by cases v <;> simp [Kin, Value.isRef] at h4 ⊢
  have := gotT (eq_R h1 hb hv rfl) h
  rw [h1, this]
theorem own_fld {args : Array Value} {Z : State} {t : Term} {a : Addr} {C n d : String} {v : Value} (ht : t.eval args Z none [] Z = some (.ref a)) (h : (Term.field t C n d).eval args Z none [] Z = some v) : Fld Z Z.heap a C n d v := Fld.start (by rw [← fld_at ht]; exact h)
theorem d1_0 : decode method_2_code 0 = .ok (.iload_n 0, 1) := by decide +kernel
theorem d1_1 : decode method_2_code 1 = .ok (.ifCond .ne 7, 3) := by decide +kernel
theorem d1_4 : decode method_2_code 4 = .ok (.getstatic 7, 3) := by decide +kernel
theorem d1_7 : decode method_2_code 7 = .ok (.areturn, 1) := by decide +kernel
theorem d1_8 : decode method_2_code 8 = .ok (.iload_n 0, 1) := by decide +kernel
theorem d1_9 : decode method_2_code 9 = .ok (.iconst 1, 1) := by decide +kernel
theorem d1_10 : decode method_2_code 10 = .ok (.if_icmp .ne 7, 3) := by decide +kernel
theorem d1_13 : decode method_2_code 13 = .ok (.getstatic 13, 3) := by decide +kernel
theorem d1_16 : decode method_2_code 16 = .ok (.areturn, 1) := by decide +kernel
theorem d1_17 : decode method_2_code 17 = .ok (.iload_n 0, 1) := by decide +kernel
theorem d1_18 : decode method_2_code 18 = .ok (.iconst 2, 1) := by decide +kernel
theorem d1_19 : decode method_2_code 19 = .ok (.if_icmp .ne 7, 3) := by decide +kernel
theorem d1_22 : decode method_2_code 22 = .ok (.getstatic 16, 3) := by decide +kernel
theorem d1_25 : decode method_2_code 25 = .ok (.areturn, 1) := by decide +kernel
theorem d1_26 : decode method_2_code 26 = .ok (.iload_n 0, 1) := by decide +kernel
theorem d1_27 : decode method_2_code 27 = .ok (.iconst 3, 1) := by decide +kernel
theorem d1_28 : decode method_2_code 28 = .ok (.if_icmp .ne 7, 3) := by decide +kernel
theorem d1_31 : decode method_2_code 31 = .ok (.getstatic 19, 3) := by decide +kernel
theorem d1_34 : decode method_2_code 34 = .ok (.areturn, 1) := by decide +kernel
theorem d1_35 : decode method_2_code 35 = .ok (.iload_n 0, 1) := by decide +kernel
theorem d1_36 : decode method_2_code 36 = .ok (.iconst 4, 1) := by decide +kernel
theorem d1_37 : decode method_2_code 37 = .ok (.if_icmp .ne 7, 3) := by decide +kernel
theorem d1_40 : decode method_2_code 40 = .ok (.getstatic 22, 3) := by decide +kernel
theorem d1_43 : decode method_2_code 43 = .ok (.areturn, 1) := by decide +kernel
theorem d1_44 : decode method_2_code 44 = .ok (.iload_n 0, 1) := by decide +kernel
theorem d1_45 : decode method_2_code 45 = .ok (.iconst 5, 1) := by decide +kernel
theorem d1_46 : decode method_2_code 46 = .ok (.if_icmp .ne 7, 3) := by decide +kernel
theorem d1_49 : decode method_2_code 49 = .ok (.getstatic 25, 3) := by decide +kernel
theorem d1_52 : decode method_2_code 52 = .ok (.areturn, 1) := by decide +kernel
theorem d1_53 : decode method_2_code 53 = .ok (.iload_n 0, 1) := by decide +kernel
theorem d1_54 : decode method_2_code 54 = .ok (.bipush 6, 2) := by decide +kernel
theorem d1_56 : decode method_2_code 56 = .ok (.if_icmp .ne 7, 3) := by decide +kernel
theorem d1_59 : decode method_2_code 59 = .ok (.getstatic 28, 3) := by decide +kernel
theorem d1_62 : decode method_2_code 62 = .ok (.areturn, 1) := by decide +kernel
theorem d1_63 : decode method_2_code 63 = .ok (.iload_n 0, 1) := by decide +kernel
theorem d1_64 : decode method_2_code 64 = .ok (.bipush 7, 2) := by decide +kernel
theorem d1_66 : decode method_2_code 66 = .ok (.if_icmp .ne 7, 3) := by decide +kernel
theorem d1_69 : decode method_2_code 69 = .ok (.getstatic 31, 3) := by decide +kernel
theorem d1_72 : decode method_2_code 72 = .ok (.areturn, 1) := by decide +kernel
theorem d1_73 : decode method_2_code 73 = .ok (.iload_n 0, 1) := by decide +kernel
theorem d1_74 : decode method_2_code 74 = .ok (.bipush 8, 2) := by decide +kernel
theorem d1_76 : decode method_2_code 76 = .ok (.if_icmp .ne 7, 3) := by decide +kernel
theorem d1_79 : decode method_2_code 79 = .ok (.getstatic 34, 3) := by decide +kernel
theorem d1_82 : decode method_2_code 82 = .ok (.areturn, 1) := by decide +kernel
theorem d1_83 : decode method_2_code 83 = .ok (.iload_n 0, 1) := by decide +kernel
theorem d1_84 : decode method_2_code 84 = .ok (.bipush 9, 2) := by decide +kernel
theorem d1_86 : decode method_2_code 86 = .ok (.if_icmp .ne 7, 3) := by decide +kernel
theorem d1_89 : decode method_2_code 89 = .ok (.getstatic 37, 3) := by decide +kernel
theorem d1_92 : decode method_2_code 92 = .ok (.areturn, 1) := by decide +kernel
theorem d1_93 : decode method_2_code 93 = .ok (.iload_n 0, 1) := by decide +kernel
theorem d1_94 : decode method_2_code 94 = .ok (.bipush 10, 2) := by decide +kernel
theorem d1_96 : decode method_2_code 96 = .ok (.if_icmp .ne 7, 3) := by decide +kernel
theorem d1_99 : decode method_2_code 99 = .ok (.getstatic 40, 3) := by decide +kernel
theorem d1_102 : decode method_2_code 102 = .ok (.areturn, 1) := by decide +kernel
theorem d1_103 : decode method_2_code 103 = .ok (.iload_n 0, 1) := by decide +kernel
theorem d1_104 : decode method_2_code 104 = .ok (.bipush 11, 2) := by decide +kernel
theorem d1_106 : decode method_2_code 106 = .ok (.if_icmp .ne 7, 3) := by decide +kernel
theorem d1_109 : decode method_2_code 109 = .ok (.getstatic 43, 3) := by decide +kernel
theorem d1_112 : decode method_2_code 112 = .ok (.areturn, 1) := by decide +kernel
theorem d1_113 : decode method_2_code 113 = .ok (.iload_n 0, 1) := by decide +kernel
theorem d1_114 : decode method_2_code 114 = .ok (.bipush 12, 2) := by decide +kernel
theorem d1_116 : decode method_2_code 116 = .ok (.if_icmp .ne 7, 3) := by decide +kernel
theorem d1_119 : decode method_2_code 119 = .ok (.getstatic 46, 3) := by decide +kernel
theorem d1_122 : decode method_2_code 122 = .ok (.areturn, 1) := by decide +kernel
theorem d1_123 : decode method_2_code 123 = .ok (.iload_n 0, 1) := by decide +kernel
theorem d1_124 : decode method_2_code 124 = .ok (.bipush 13, 2) := by decide +kernel
theorem d1_126 : decode method_2_code 126 = .ok (.if_icmp .ne 7, 3) := by decide +kernel
theorem d1_129 : decode method_2_code 129 = .ok (.getstatic 49, 3) := by decide +kernel
theorem d1_132 : decode method_2_code 132 = .ok (.areturn, 1) := by decide +kernel
theorem d1_133 : decode method_2_code 133 = .ok (.iload_n 0, 1) := by decide +kernel
theorem d1_134 : decode method_2_code 134 = .ok (.bipush 14, 2) := by decide +kernel
theorem d1_136 : decode method_2_code 136 = .ok (.if_icmp .ne 7, 3) := by decide +kernel
theorem d1_139 : decode method_2_code 139 = .ok (.getstatic 52, 3) := by decide +kernel
theorem d1_142 : decode method_2_code 142 = .ok (.areturn, 1) := by decide +kernel
theorem d1_143 : decode method_2_code 143 = .ok (.iload_n 0, 1) := by decide +kernel
theorem d1_144 : decode method_2_code 144 = .ok (.bipush 15, 2) := by decide +kernel
theorem d1_146 : decode method_2_code 146 = .ok (.if_icmp .ne 7, 3) := by decide +kernel
theorem d1_149 : decode method_2_code 149 = .ok (.getstatic 55, 3) := by decide +kernel
theorem d1_152 : decode method_2_code 152 = .ok (.areturn, 1) := by decide +kernel
theorem d1_153 : decode method_2_code 153 = .ok (.iload_n 0, 1) := by decide +kernel
theorem d1_154 : decode method_2_code 154 = .ok (.bipush 16, 2) := by decide +kernel
theorem d1_156 : decode method_2_code 156 = .ok (.if_icmp .ne 7, 3) := by decide +kernel
theorem d1_159 : decode method_2_code 159 = .ok (.getstatic 58, 3) := by decide +kernel
theorem d1_162 : decode method_2_code 162 = .ok (.areturn, 1) := by decide +kernel
theorem d1_163 : decode method_2_code 163 = .ok (.iload_n 0, 1) := by decide +kernel
theorem d1_164 : decode method_2_code 164 = .ok (.bipush 17, 2) := by decide +kernel
theorem d1_166 : decode method_2_code 166 = .ok (.if_icmp .ne 7, 3) := by decide +kernel
theorem d1_169 : decode method_2_code 169 = .ok (.getstatic 61, 3) := by decide +kernel
theorem d1_172 : decode method_2_code 172 = .ok (.areturn, 1) := by decide +kernel
theorem d1_173 : decode method_2_code 173 = .ok (.getstatic 64, 3) := by decide +kernel
theorem d1_176 : decode method_2_code 176 = .ok (.areturn, 1) := by decide +kernel
theorem pn_1 : plainFor (⟨"tidestone/parquet/TypeIsDecimalPinLaw", "pick", "(I)Ltidestone/parquet/ParquetColumn$Type;"⟩ : MethodName) = true := plainFor_of_name (by first | (simp [plainName, overriddenIn]; done) | decide +kernel)
set_option maxRecDepth 65536 in
set_option maxHeartbeats 40000000 in
theorem rmP_0 (l : Launch) (Z : State) (a0 : Array Value) (hw : ∀ d ∈ tables_1, d.before a0 Z = true) (n0 : Nat) (t p' : Nat → Addr) (L : HL) (hW : own_W Z t p') :
    Con l (⟨"tidestone/parquet/TypeIsDecimalPinLaw", "pick", "(I)Ltidestone/parquet/ParquetColumn$Type;"⟩ : MethodName) method_2_code 1 (some (.object "tidestone/parquet/ParquetColumn$Type")) ({ frames := 0, cells := 0, slots := 0, locals := 0 } : Room) Z n0 #[(.int (0 : Int32))] L (fun v L' => v = some (.ref (t 0)) ∧ L' = L) := by
  refine Con.of (ws := tables_1) (a0 := a0) pn_1 hw ?_
  intro p e s m below meth cde T kb w
  refine g_entry #[.val (.int (0 : Int32))] (by first | (simp [entryFrame, mkF, argsToLocals, Value.category]; done) | rfl) ?_
  refine g_iloadN w d1_0 rfl 1 rfl ?_
  refine g_if_ne w d1_1 8 (by decide) (by decide) 4 rfl (fun h => absurd (by decide) h) (fun hc1 => ?_)
  refine g_gets w (show Sta Z Z.heap "tidestone/parquet/ParquetColumn$Type" "BOOLEAN" "Ltidestone/parquet/ParquetColumn$Type;" (.ref (t 0)) from (hW.1 0 (by decide)).1) d1_4 5 rfl 7 rfl (fun T w => ?_)
  exact g_aret w d1_7 rfl rfl rfl (by decide) (by decide) ⟨rfl, rfl⟩
set_option maxRecDepth 65536 in
set_option maxHeartbeats 40000000 in
theorem rmP_1 (l : Launch) (Z : State) (a0 : Array Value) (hw : ∀ d ∈ tables_1, d.before a0 Z = true) (n0 : Nat) (t p' : Nat → Addr) (L : HL) (hW : own_W Z t p') :
    Con l (⟨"tidestone/parquet/TypeIsDecimalPinLaw", "pick", "(I)Ltidestone/parquet/ParquetColumn$Type;"⟩ : MethodName) method_2_code 1 (some (.object "tidestone/parquet/ParquetColumn$Type")) ({ frames := 0, cells := 0, slots := 0, locals := 0 } : Room) Z n0 #[(.int (1 : Int32))] L (fun v L' => v = some (.ref (t 1)) ∧ L' = L) := by
  refine Con.of (ws := tables_1) (a0 := a0) pn_1 hw ?_
  intro p e s m below meth cde T kb w
  refine g_entry #[.val (.int (1 : Int32))] (by first | (simp [entryFrame, mkF, argsToLocals, Value.category]; done) | rfl) ?_
  refine g_iloadN w d1_0 rfl 1 rfl ?_
  refine g_if_ne w d1_1 8 (by decide) (by decide) 4 rfl (fun hc1 => ?_) (fun h => absurd h (by decide))
  refine g_iloadN w d1_8 rfl 9 rfl ?_
  refine g_iconst w d1_9 (1 : Int32) rfl 10 rfl ?_
  refine g_icmp_ne w d1_10 17 (by decide) (by decide) 13 rfl (fun h => absurd (by decide) h) (fun hc10 => ?_)
  refine g_gets w (show Sta Z Z.heap "tidestone/parquet/ParquetColumn$Type" "INT8" "Ltidestone/parquet/ParquetColumn$Type;" (.ref (t 1)) from (hW.1 1 (by decide)).1) d1_13 54 rfl 16 rfl (fun T w => ?_)
  exact g_aret w d1_16 rfl rfl rfl (by decide) (by decide) ⟨rfl, rfl⟩
set_option maxRecDepth 65536 in
set_option maxHeartbeats 40000000 in
theorem rmP_2 (l : Launch) (Z : State) (a0 : Array Value) (hw : ∀ d ∈ tables_1, d.before a0 Z = true) (n0 : Nat) (t p' : Nat → Addr) (L : HL) (hW : own_W Z t p') :
    Con l (⟨"tidestone/parquet/TypeIsDecimalPinLaw", "pick", "(I)Ltidestone/parquet/ParquetColumn$Type;"⟩ : MethodName) method_2_code 1 (some (.object "tidestone/parquet/ParquetColumn$Type")) ({ frames := 0, cells := 0, slots := 0, locals := 0 } : Room) Z n0 #[(.int (2 : Int32))] L (fun v L' => v = some (.ref (t 2)) ∧ L' = L) := by
  refine Con.of (ws := tables_1) (a0 := a0) pn_1 hw ?_
  intro p e s m below meth cde T kb w
  refine g_entry #[.val (.int (2 : Int32))] (by first | (simp [entryFrame, mkF, argsToLocals, Value.category]; done) | rfl) ?_
  refine g_iloadN w d1_0 rfl 1 rfl ?_
  refine g_if_ne w d1_1 8 (by decide) (by decide) 4 rfl (fun hc1 => ?_) (fun h => absurd h (by decide))
  refine g_iloadN w d1_8 rfl 9 rfl ?_
  refine g_iconst w d1_9 (1 : Int32) rfl 10 rfl ?_
  refine g_icmp_ne w d1_10 17 (by decide) (by decide) 13 rfl (fun hc10 => ?_) (fun h => absurd h (by decide))
  refine g_iloadN w d1_17 rfl 18 rfl ?_
  refine g_iconst w d1_18 (2 : Int32) rfl 19 rfl ?_
  refine g_icmp_ne w d1_19 26 (by decide) (by decide) 22 rfl (fun h => absurd (by decide) h) (fun hc19 => ?_)
  refine g_gets w (show Sta Z Z.heap "tidestone/parquet/ParquetColumn$Type" "INT16" "Ltidestone/parquet/ParquetColumn$Type;" (.ref (t 2)) from (hW.1 2 (by decide)).1) d1_22 46 rfl 25 rfl (fun T w => ?_)
  exact g_aret w d1_25 rfl rfl rfl (by decide) (by decide) ⟨rfl, rfl⟩
set_option maxRecDepth 65536 in
set_option maxHeartbeats 40000000 in
theorem rmP_3 (l : Launch) (Z : State) (a0 : Array Value) (hw : ∀ d ∈ tables_1, d.before a0 Z = true) (n0 : Nat) (t p' : Nat → Addr) (L : HL) (hW : own_W Z t p') :
    Con l (⟨"tidestone/parquet/TypeIsDecimalPinLaw", "pick", "(I)Ltidestone/parquet/ParquetColumn$Type;"⟩ : MethodName) method_2_code 1 (some (.object "tidestone/parquet/ParquetColumn$Type")) ({ frames := 0, cells := 0, slots := 0, locals := 0 } : Room) Z n0 #[(.int (3 : Int32))] L (fun v L' => v = some (.ref (t 3)) ∧ L' = L) := by
  refine Con.of (ws := tables_1) (a0 := a0) pn_1 hw ?_
  intro p e s m below meth cde T kb w
  refine g_entry #[.val (.int (3 : Int32))] (by first | (simp [entryFrame, mkF, argsToLocals, Value.category]; done) | rfl) ?_
  refine g_iloadN w d1_0 rfl 1 rfl ?_
  refine g_if_ne w d1_1 8 (by decide) (by decide) 4 rfl (fun hc1 => ?_) (fun h => absurd h (by decide))
  refine g_iloadN w d1_8 rfl 9 rfl ?_
  refine g_iconst w d1_9 (1 : Int32) rfl 10 rfl ?_
  refine g_icmp_ne w d1_10 17 (by decide) (by decide) 13 rfl (fun hc10 => ?_) (fun h => absurd h (by decide))
  refine g_iloadN w d1_17 rfl 18 rfl ?_
  refine g_iconst w d1_18 (2 : Int32) rfl 19 rfl ?_
  refine g_icmp_ne w d1_19 26 (by decide) (by decide) 22 rfl (fun hc19 => ?_) (fun h => absurd h (by decide))
  refine g_iloadN w d1_26 rfl 27 rfl ?_
  refine g_iconst w d1_27 (3 : Int32) rfl 28 rfl ?_
  refine g_icmp_ne w d1_28 35 (by decide) (by decide) 31 rfl (fun h => absurd (by decide) h) (fun hc28 => ?_)
  refine g_gets w (show Sta Z Z.heap "tidestone/parquet/ParquetColumn$Type" "INT32" "Ltidestone/parquet/ParquetColumn$Type;" (.ref (t 3)) from (hW.1 3 (by decide)).1) d1_31 30 rfl 34 rfl (fun T w => ?_)
  exact g_aret w d1_34 rfl rfl rfl (by decide) (by decide) ⟨rfl, rfl⟩
set_option maxRecDepth 65536 in
set_option maxHeartbeats 40000000 in
theorem rmP_4 (l : Launch) (Z : State) (a0 : Array Value) (hw : ∀ d ∈ tables_1, d.before a0 Z = true) (n0 : Nat) (t p' : Nat → Addr) (L : HL) (hW : own_W Z t p') :
    Con l (⟨"tidestone/parquet/TypeIsDecimalPinLaw", "pick", "(I)Ltidestone/parquet/ParquetColumn$Type;"⟩ : MethodName) method_2_code 1 (some (.object "tidestone/parquet/ParquetColumn$Type")) ({ frames := 0, cells := 0, slots := 0, locals := 0 } : Room) Z n0 #[(.int (4 : Int32))] L (fun v L' => v = some (.ref (t 4)) ∧ L' = L) := by
  refine Con.of (ws := tables_1) (a0 := a0) pn_1 hw ?_
  intro p e s m below meth cde T kb w
  refine g_entry #[.val (.int (4 : Int32))] (by first | (simp [entryFrame, mkF, argsToLocals, Value.category]; done) | rfl) ?_
  refine g_iloadN w d1_0 rfl 1 rfl ?_
  refine g_if_ne w d1_1 8 (by decide) (by decide) 4 rfl (fun hc1 => ?_) (fun h => absurd h (by decide))
  refine g_iloadN w d1_8 rfl 9 rfl ?_
  refine g_iconst w d1_9 (1 : Int32) rfl 10 rfl ?_
  refine g_icmp_ne w d1_10 17 (by decide) (by decide) 13 rfl (fun hc10 => ?_) (fun h => absurd h (by decide))
  refine g_iloadN w d1_17 rfl 18 rfl ?_
  refine g_iconst w d1_18 (2 : Int32) rfl 19 rfl ?_
  refine g_icmp_ne w d1_19 26 (by decide) (by decide) 22 rfl (fun hc19 => ?_) (fun h => absurd h (by decide))
  refine g_iloadN w d1_26 rfl 27 rfl ?_
  refine g_iconst w d1_27 (3 : Int32) rfl 28 rfl ?_
  refine g_icmp_ne w d1_28 35 (by decide) (by decide) 31 rfl (fun hc28 => ?_) (fun h => absurd h (by decide))
  refine g_iloadN w d1_35 rfl 36 rfl ?_
  refine g_iconst w d1_36 (4 : Int32) rfl 37 rfl ?_
  refine g_icmp_ne w d1_37 44 (by decide) (by decide) 40 rfl (fun h => absurd (by decide) h) (fun hc37 => ?_)
  refine g_gets w (show Sta Z Z.heap "tidestone/parquet/ParquetColumn$Type" "INT64" "Ltidestone/parquet/ParquetColumn$Type;" (.ref (t 4)) from (hW.1 4 (by decide)).1) d1_40 63 rfl 43 rfl (fun T w => ?_)
  exact g_aret w d1_43 rfl rfl rfl (by decide) (by decide) ⟨rfl, rfl⟩
set_option maxRecDepth 65536 in
set_option maxHeartbeats 40000000 in
theorem rmP_5 (l : Launch) (Z : State) (a0 : Array Value) (hw : ∀ d ∈ tables_1, d.before a0 Z = true) (n0 : Nat) (t p' : Nat → Addr) (L : HL) (hW : own_W Z t p') :
    Con l (⟨"tidestone/parquet/TypeIsDecimalPinLaw", "pick", "(I)Ltidestone/parquet/ParquetColumn$Type;"⟩ : MethodName) method_2_code 1 (some (.object "tidestone/parquet/ParquetColumn$Type")) ({ frames := 0, cells := 0, slots := 0, locals := 0 } : Room) Z n0 #[(.int (5 : Int32))] L (fun v L' => v = some (.ref (t 5)) ∧ L' = L) := by
  refine Con.of (ws := tables_1) (a0 := a0) pn_1 hw ?_
  intro p e s m below meth cde T kb w
  refine g_entry #[.val (.int (5 : Int32))] (by first | (simp [entryFrame, mkF, argsToLocals, Value.category]; done) | rfl) ?_
  refine g_iloadN w d1_0 rfl 1 rfl ?_
  refine g_if_ne w d1_1 8 (by decide) (by decide) 4 rfl (fun hc1 => ?_) (fun h => absurd h (by decide))
  refine g_iloadN w d1_8 rfl 9 rfl ?_
  refine g_iconst w d1_9 (1 : Int32) rfl 10 rfl ?_
  refine g_icmp_ne w d1_10 17 (by decide) (by decide) 13 rfl (fun hc10 => ?_) (fun h => absurd h (by decide))
  refine g_iloadN w d1_17 rfl 18 rfl ?_
  refine g_iconst w d1_18 (2 : Int32) rfl 19 rfl ?_
  refine g_icmp_ne w d1_19 26 (by decide) (by decide) 22 rfl (fun hc19 => ?_) (fun h => absurd h (by decide))
  refine g_iloadN w d1_26 rfl 27 rfl ?_
  refine g_iconst w d1_27 (3 : Int32) rfl 28 rfl ?_
  refine g_icmp_ne w d1_28 35 (by decide) (by decide) 31 rfl (fun hc28 => ?_) (fun h => absurd h (by decide))
  refine g_iloadN w d1_35 rfl 36 rfl ?_
  refine g_iconst w d1_36 (4 : Int32) rfl 37 rfl ?_
  refine g_icmp_ne w d1_37 44 (by decide) (by decide) 40 rfl (fun hc37 => ?_) (fun h => absurd h (by decide))
  refine g_iloadN w d1_44 rfl 45 rfl ?_
  refine g_iconst w d1_45 (5 : Int32) rfl 46 rfl ?_
  refine g_icmp_ne w d1_46 53 (by decide) (by decide) 49 rfl (fun h => absurd (by decide) h) (fun hc46 => ?_)
  refine g_gets w (show Sta Z Z.heap "tidestone/parquet/ParquetColumn$Type" "FLOAT" "Ltidestone/parquet/ParquetColumn$Type;" (.ref (t 5)) from (hW.1 5 (by decide)).1) d1_49 36 rfl 52 rfl (fun T w => ?_)
  exact g_aret w d1_52 rfl rfl rfl (by decide) (by decide) ⟨rfl, rfl⟩
set_option maxRecDepth 65536 in
set_option maxHeartbeats 40000000 in
theorem rmP_6 (l : Launch) (Z : State) (a0 : Array Value) (hw : ∀ d ∈ tables_1, d.before a0 Z = true) (n0 : Nat) (t p' : Nat → Addr) (L : HL) (hW : own_W Z t p') :
    Con l (⟨"tidestone/parquet/TypeIsDecimalPinLaw", "pick", "(I)Ltidestone/parquet/ParquetColumn$Type;"⟩ : MethodName) method_2_code 1 (some (.object "tidestone/parquet/ParquetColumn$Type")) ({ frames := 0, cells := 0, slots := 0, locals := 0 } : Room) Z n0 #[(.int (6 : Int32))] L (fun v L' => v = some (.ref (t 6)) ∧ L' = L) := by
  refine Con.of (ws := tables_1) (a0 := a0) pn_1 hw ?_
  intro p e s m below meth cde T kb w
  refine g_entry #[.val (.int (6 : Int32))] (by first | (simp [entryFrame, mkF, argsToLocals, Value.category]; done) | rfl) ?_
  refine g_iloadN w d1_0 rfl 1 rfl ?_
  refine g_if_ne w d1_1 8 (by decide) (by decide) 4 rfl (fun hc1 => ?_) (fun h => absurd h (by decide))
  refine g_iloadN w d1_8 rfl 9 rfl ?_
  refine g_iconst w d1_9 (1 : Int32) rfl 10 rfl ?_
  refine g_icmp_ne w d1_10 17 (by decide) (by decide) 13 rfl (fun hc10 => ?_) (fun h => absurd h (by decide))
  refine g_iloadN w d1_17 rfl 18 rfl ?_
  refine g_iconst w d1_18 (2 : Int32) rfl 19 rfl ?_
  refine g_icmp_ne w d1_19 26 (by decide) (by decide) 22 rfl (fun hc19 => ?_) (fun h => absurd h (by decide))
  refine g_iloadN w d1_26 rfl 27 rfl ?_
  refine g_iconst w d1_27 (3 : Int32) rfl 28 rfl ?_
  refine g_icmp_ne w d1_28 35 (by decide) (by decide) 31 rfl (fun hc28 => ?_) (fun h => absurd h (by decide))
  refine g_iloadN w d1_35 rfl 36 rfl ?_
  refine g_iconst w d1_36 (4 : Int32) rfl 37 rfl ?_
  refine g_icmp_ne w d1_37 44 (by decide) (by decide) 40 rfl (fun hc37 => ?_) (fun h => absurd h (by decide))
  refine g_iloadN w d1_44 rfl 45 rfl ?_
  refine g_iconst w d1_45 (5 : Int32) rfl 46 rfl ?_
  refine g_icmp_ne w d1_46 53 (by decide) (by decide) 49 rfl (fun hc46 => ?_) (fun h => absurd h (by decide))
  refine g_iloadN w d1_53 rfl 54 rfl ?_
  refine g_bipush w d1_54 (6 : Int32) rfl 56 rfl ?_
  refine g_icmp_ne w d1_56 63 (by decide) (by decide) 59 rfl (fun h => absurd (by decide) h) (fun hc56 => ?_)
  refine g_gets w (show Sta Z Z.heap "tidestone/parquet/ParquetColumn$Type" "DOUBLE" "Ltidestone/parquet/ParquetColumn$Type;" (.ref (t 6)) from (hW.1 6 (by decide)).1) d1_59 59 rfl 62 rfl (fun T w => ?_)
  exact g_aret w d1_62 rfl rfl rfl (by decide) (by decide) ⟨rfl, rfl⟩
set_option maxRecDepth 65536 in
set_option maxHeartbeats 40000000 in
theorem rmP_7 (l : Launch) (Z : State) (a0 : Array Value) (hw : ∀ d ∈ tables_1, d.before a0 Z = true) (n0 : Nat) (t p' : Nat → Addr) (L : HL) (hW : own_W Z t p') :
    Con l (⟨"tidestone/parquet/TypeIsDecimalPinLaw", "pick", "(I)Ltidestone/parquet/ParquetColumn$Type;"⟩ : MethodName) method_2_code 1 (some (.object "tidestone/parquet/ParquetColumn$Type")) ({ frames := 0, cells := 0, slots := 0, locals := 0 } : Room) Z n0 #[(.int (7 : Int32))] L (fun v L' => v = some (.ref (t 7)) ∧ L' = L) := by
  refine Con.of (ws := tables_1) (a0 := a0) pn_1 hw ?_
  intro p e s m below meth cde T kb w
  refine g_entry #[.val (.int (7 : Int32))] (by first | (simp [entryFrame, mkF, argsToLocals, Value.category]; done) | rfl) ?_
  refine g_iloadN w d1_0 rfl 1 rfl ?_
  refine g_if_ne w d1_1 8 (by decide) (by decide) 4 rfl (fun hc1 => ?_) (fun h => absurd h (by decide))
  refine g_iloadN w d1_8 rfl 9 rfl ?_
  refine g_iconst w d1_9 (1 : Int32) rfl 10 rfl ?_
  refine g_icmp_ne w d1_10 17 (by decide) (by decide) 13 rfl (fun hc10 => ?_) (fun h => absurd h (by decide))
  refine g_iloadN w d1_17 rfl 18 rfl ?_
  refine g_iconst w d1_18 (2 : Int32) rfl 19 rfl ?_
  refine g_icmp_ne w d1_19 26 (by decide) (by decide) 22 rfl (fun hc19 => ?_) (fun h => absurd h (by decide))
  refine g_iloadN w d1_26 rfl 27 rfl ?_
  refine g_iconst w d1_27 (3 : Int32) rfl 28 rfl ?_
  refine g_icmp_ne w d1_28 35 (by decide) (by decide) 31 rfl (fun hc28 => ?_) (fun h => absurd h (by decide))
  refine g_iloadN w d1_35 rfl 36 rfl ?_
  refine g_iconst w d1_36 (4 : Int32) rfl 37 rfl ?_
  refine g_icmp_ne w d1_37 44 (by decide) (by decide) 40 rfl (fun hc37 => ?_) (fun h => absurd h (by decide))
  refine g_iloadN w d1_44 rfl 45 rfl ?_
  refine g_iconst w d1_45 (5 : Int32) rfl 46 rfl ?_
  refine g_icmp_ne w d1_46 53 (by decide) (by decide) 49 rfl (fun hc46 => ?_) (fun h => absurd h (by decide))
  refine g_iloadN w d1_53 rfl 54 rfl ?_
  refine g_bipush w d1_54 (6 : Int32) rfl 56 rfl ?_
  refine g_icmp_ne w d1_56 63 (by decide) (by decide) 59 rfl (fun hc56 => ?_) (fun h => absurd h (by decide))
  refine g_iloadN w d1_63 rfl 64 rfl ?_
  refine g_bipush w d1_64 (7 : Int32) rfl 66 rfl ?_
  refine g_icmp_ne w d1_66 73 (by decide) (by decide) 69 rfl (fun h => absurd (by decide) h) (fun hc66 => ?_)
  refine g_gets w (show Sta Z Z.heap "tidestone/parquet/ParquetColumn$Type" "STRING" "Ltidestone/parquet/ParquetColumn$Type;" (.ref (t 7)) from (hW.1 7 (by decide)).1) d1_69 43 rfl 72 rfl (fun T w => ?_)
  exact g_aret w d1_72 rfl rfl rfl (by decide) (by decide) ⟨rfl, rfl⟩
set_option maxRecDepth 65536 in
set_option maxHeartbeats 40000000 in
theorem rmP_8 (l : Launch) (Z : State) (a0 : Array Value) (hw : ∀ d ∈ tables_1, d.before a0 Z = true) (n0 : Nat) (t p' : Nat → Addr) (L : HL) (hW : own_W Z t p') :
    Con l (⟨"tidestone/parquet/TypeIsDecimalPinLaw", "pick", "(I)Ltidestone/parquet/ParquetColumn$Type;"⟩ : MethodName) method_2_code 1 (some (.object "tidestone/parquet/ParquetColumn$Type")) ({ frames := 0, cells := 0, slots := 0, locals := 0 } : Room) Z n0 #[(.int (8 : Int32))] L (fun v L' => v = some (.ref (t 8)) ∧ L' = L) := by
  refine Con.of (ws := tables_1) (a0 := a0) pn_1 hw ?_
  intro p e s m below meth cde T kb w
  refine g_entry #[.val (.int (8 : Int32))] (by first | (simp [entryFrame, mkF, argsToLocals, Value.category]; done) | rfl) ?_
  refine g_iloadN w d1_0 rfl 1 rfl ?_
  refine g_if_ne w d1_1 8 (by decide) (by decide) 4 rfl (fun hc1 => ?_) (fun h => absurd h (by decide))
  refine g_iloadN w d1_8 rfl 9 rfl ?_
  refine g_iconst w d1_9 (1 : Int32) rfl 10 rfl ?_
  refine g_icmp_ne w d1_10 17 (by decide) (by decide) 13 rfl (fun hc10 => ?_) (fun h => absurd h (by decide))
  refine g_iloadN w d1_17 rfl 18 rfl ?_
  refine g_iconst w d1_18 (2 : Int32) rfl 19 rfl ?_
  refine g_icmp_ne w d1_19 26 (by decide) (by decide) 22 rfl (fun hc19 => ?_) (fun h => absurd h (by decide))
  refine g_iloadN w d1_26 rfl 27 rfl ?_
  refine g_iconst w d1_27 (3 : Int32) rfl 28 rfl ?_
  refine g_icmp_ne w d1_28 35 (by decide) (by decide) 31 rfl (fun hc28 => ?_) (fun h => absurd h (by decide))
  refine g_iloadN w d1_35 rfl 36 rfl ?_
  refine g_iconst w d1_36 (4 : Int32) rfl 37 rfl ?_
  refine g_icmp_ne w d1_37 44 (by decide) (by decide) 40 rfl (fun hc37 => ?_) (fun h => absurd h (by decide))
  refine g_iloadN w d1_44 rfl 45 rfl ?_
  refine g_iconst w d1_45 (5 : Int32) rfl 46 rfl ?_
  refine g_icmp_ne w d1_46 53 (by decide) (by decide) 49 rfl (fun hc46 => ?_) (fun h => absurd h (by decide))
  refine g_iloadN w d1_53 rfl 54 rfl ?_
  refine g_bipush w d1_54 (6 : Int32) rfl 56 rfl ?_
  refine g_icmp_ne w d1_56 63 (by decide) (by decide) 59 rfl (fun hc56 => ?_) (fun h => absurd h (by decide))
  refine g_iloadN w d1_63 rfl 64 rfl ?_
  refine g_bipush w d1_64 (7 : Int32) rfl 66 rfl ?_
  refine g_icmp_ne w d1_66 73 (by decide) (by decide) 69 rfl (fun hc66 => ?_) (fun h => absurd h (by decide))
  refine g_iloadN w d1_73 rfl 74 rfl ?_
  refine g_bipush w d1_74 (8 : Int32) rfl 76 rfl ?_
  refine g_icmp_ne w d1_76 83 (by decide) (by decide) 79 rfl (fun h => absurd (by decide) h) (fun hc76 => ?_)
  refine g_gets w (show Sta Z Z.heap "tidestone/parquet/ParquetColumn$Type" "BYTES" "Ltidestone/parquet/ParquetColumn$Type;" (.ref (t 8)) from (hW.1 8 (by decide)).1) d1_79 52 rfl 82 rfl (fun T w => ?_)
  exact g_aret w d1_82 rfl rfl rfl (by decide) (by decide) ⟨rfl, rfl⟩
set_option maxRecDepth 65536 in
set_option maxHeartbeats 40000000 in
theorem rmP_9 (l : Launch) (Z : State) (a0 : Array Value) (hw : ∀ d ∈ tables_1, d.before a0 Z = true) (n0 : Nat) (t p' : Nat → Addr) (L : HL) (hW : own_W Z t p') :
    Con l (⟨"tidestone/parquet/TypeIsDecimalPinLaw", "pick", "(I)Ltidestone/parquet/ParquetColumn$Type;"⟩ : MethodName) method_2_code 1 (some (.object "tidestone/parquet/ParquetColumn$Type")) ({ frames := 0, cells := 0, slots := 0, locals := 0 } : Room) Z n0 #[(.int (9 : Int32))] L (fun v L' => v = some (.ref (t 9)) ∧ L' = L) := by
  refine Con.of (ws := tables_1) (a0 := a0) pn_1 hw ?_
  intro p e s m below meth cde T kb w
  refine g_entry #[.val (.int (9 : Int32))] (by first | (simp [entryFrame, mkF, argsToLocals, Value.category]; done) | rfl) ?_
  refine g_iloadN w d1_0 rfl 1 rfl ?_
  refine g_if_ne w d1_1 8 (by decide) (by decide) 4 rfl (fun hc1 => ?_) (fun h => absurd h (by decide))
  refine g_iloadN w d1_8 rfl 9 rfl ?_
  refine g_iconst w d1_9 (1 : Int32) rfl 10 rfl ?_
  refine g_icmp_ne w d1_10 17 (by decide) (by decide) 13 rfl (fun hc10 => ?_) (fun h => absurd h (by decide))
  refine g_iloadN w d1_17 rfl 18 rfl ?_
  refine g_iconst w d1_18 (2 : Int32) rfl 19 rfl ?_
  refine g_icmp_ne w d1_19 26 (by decide) (by decide) 22 rfl (fun hc19 => ?_) (fun h => absurd h (by decide))
  refine g_iloadN w d1_26 rfl 27 rfl ?_
  refine g_iconst w d1_27 (3 : Int32) rfl 28 rfl ?_
  refine g_icmp_ne w d1_28 35 (by decide) (by decide) 31 rfl (fun hc28 => ?_) (fun h => absurd h (by decide))
  refine g_iloadN w d1_35 rfl 36 rfl ?_
  refine g_iconst w d1_36 (4 : Int32) rfl 37 rfl ?_
  refine g_icmp_ne w d1_37 44 (by decide) (by decide) 40 rfl (fun hc37 => ?_) (fun h => absurd h (by decide))
  refine g_iloadN w d1_44 rfl 45 rfl ?_
  refine g_iconst w d1_45 (5 : Int32) rfl 46 rfl ?_
  refine g_icmp_ne w d1_46 53 (by decide) (by decide) 49 rfl (fun hc46 => ?_) (fun h => absurd h (by decide))
  refine g_iloadN w d1_53 rfl 54 rfl ?_
  refine g_bipush w d1_54 (6 : Int32) rfl 56 rfl ?_
  refine g_icmp_ne w d1_56 63 (by decide) (by decide) 59 rfl (fun hc56 => ?_) (fun h => absurd h (by decide))
  refine g_iloadN w d1_63 rfl 64 rfl ?_
  refine g_bipush w d1_64 (7 : Int32) rfl 66 rfl ?_
  refine g_icmp_ne w d1_66 73 (by decide) (by decide) 69 rfl (fun hc66 => ?_) (fun h => absurd h (by decide))
  refine g_iloadN w d1_73 rfl 74 rfl ?_
  refine g_bipush w d1_74 (8 : Int32) rfl 76 rfl ?_
  refine g_icmp_ne w d1_76 83 (by decide) (by decide) 79 rfl (fun hc76 => ?_) (fun h => absurd h (by decide))
  refine g_iloadN w d1_83 rfl 84 rfl ?_
  refine g_bipush w d1_84 (9 : Int32) rfl 86 rfl ?_
  refine g_icmp_ne w d1_86 93 (by decide) (by decide) 89 rfl (fun h => absurd (by decide) h) (fun hc86 => ?_)
  refine g_gets w (show Sta Z Z.heap "tidestone/parquet/ParquetColumn$Type" "DATE" "Ltidestone/parquet/ParquetColumn$Type;" (.ref (t 9)) from (hW.1 9 (by decide)).1) d1_89 65 rfl 92 rfl (fun T w => ?_)
  exact g_aret w d1_92 rfl rfl rfl (by decide) (by decide) ⟨rfl, rfl⟩
set_option maxRecDepth 65536 in
set_option maxHeartbeats 40000000 in
theorem rmP_10 (l : Launch) (Z : State) (a0 : Array Value) (hw : ∀ d ∈ tables_1, d.before a0 Z = true) (n0 : Nat) (t p' : Nat → Addr) (L : HL) (hW : own_W Z t p') :
    Con l (⟨"tidestone/parquet/TypeIsDecimalPinLaw", "pick", "(I)Ltidestone/parquet/ParquetColumn$Type;"⟩ : MethodName) method_2_code 1 (some (.object "tidestone/parquet/ParquetColumn$Type")) ({ frames := 0, cells := 0, slots := 0, locals := 0 } : Room) Z n0 #[(.int (10 : Int32))] L (fun v L' => v = some (.ref (t 10)) ∧ L' = L) := by
  refine Con.of (ws := tables_1) (a0 := a0) pn_1 hw ?_
  intro p e s m below meth cde T kb w
  refine g_entry #[.val (.int (10 : Int32))] (by first | (simp [entryFrame, mkF, argsToLocals, Value.category]; done) | rfl) ?_
  refine g_iloadN w d1_0 rfl 1 rfl ?_
  refine g_if_ne w d1_1 8 (by decide) (by decide) 4 rfl (fun hc1 => ?_) (fun h => absurd h (by decide))
  refine g_iloadN w d1_8 rfl 9 rfl ?_
  refine g_iconst w d1_9 (1 : Int32) rfl 10 rfl ?_
  refine g_icmp_ne w d1_10 17 (by decide) (by decide) 13 rfl (fun hc10 => ?_) (fun h => absurd h (by decide))
  refine g_iloadN w d1_17 rfl 18 rfl ?_
  refine g_iconst w d1_18 (2 : Int32) rfl 19 rfl ?_
  refine g_icmp_ne w d1_19 26 (by decide) (by decide) 22 rfl (fun hc19 => ?_) (fun h => absurd h (by decide))
  refine g_iloadN w d1_26 rfl 27 rfl ?_
  refine g_iconst w d1_27 (3 : Int32) rfl 28 rfl ?_
  refine g_icmp_ne w d1_28 35 (by decide) (by decide) 31 rfl (fun hc28 => ?_) (fun h => absurd h (by decide))
  refine g_iloadN w d1_35 rfl 36 rfl ?_
  refine g_iconst w d1_36 (4 : Int32) rfl 37 rfl ?_
  refine g_icmp_ne w d1_37 44 (by decide) (by decide) 40 rfl (fun hc37 => ?_) (fun h => absurd h (by decide))
  refine g_iloadN w d1_44 rfl 45 rfl ?_
  refine g_iconst w d1_45 (5 : Int32) rfl 46 rfl ?_
  refine g_icmp_ne w d1_46 53 (by decide) (by decide) 49 rfl (fun hc46 => ?_) (fun h => absurd h (by decide))
  refine g_iloadN w d1_53 rfl 54 rfl ?_
  refine g_bipush w d1_54 (6 : Int32) rfl 56 rfl ?_
  refine g_icmp_ne w d1_56 63 (by decide) (by decide) 59 rfl (fun hc56 => ?_) (fun h => absurd h (by decide))
  refine g_iloadN w d1_63 rfl 64 rfl ?_
  refine g_bipush w d1_64 (7 : Int32) rfl 66 rfl ?_
  refine g_icmp_ne w d1_66 73 (by decide) (by decide) 69 rfl (fun hc66 => ?_) (fun h => absurd h (by decide))
  refine g_iloadN w d1_73 rfl 74 rfl ?_
  refine g_bipush w d1_74 (8 : Int32) rfl 76 rfl ?_
  refine g_icmp_ne w d1_76 83 (by decide) (by decide) 79 rfl (fun hc76 => ?_) (fun h => absurd h (by decide))
  refine g_iloadN w d1_83 rfl 84 rfl ?_
  refine g_bipush w d1_84 (9 : Int32) rfl 86 rfl ?_
  refine g_icmp_ne w d1_86 93 (by decide) (by decide) 89 rfl (fun hc86 => ?_) (fun h => absurd h (by decide))
  refine g_iloadN w d1_93 rfl 94 rfl ?_
  refine g_bipush w d1_94 (10 : Int32) rfl 96 rfl ?_
  refine g_icmp_ne w d1_96 103 (by decide) (by decide) 99 rfl (fun h => absurd (by decide) h) (fun hc96 => ?_)
  refine g_gets w (show Sta Z Z.heap "tidestone/parquet/ParquetColumn$Type" "TIME_MILLIS" "Ltidestone/parquet/ParquetColumn$Type;" (.ref (t 10)) from (hW.1 10 (by decide)).1) d1_99 50 rfl 102 rfl (fun T w => ?_)
  exact g_aret w d1_102 rfl rfl rfl (by decide) (by decide) ⟨rfl, rfl⟩
set_option maxRecDepth 65536 in
set_option maxHeartbeats 40000000 in
theorem rmP_11 (l : Launch) (Z : State) (a0 : Array Value) (hw : ∀ d ∈ tables_1, d.before a0 Z = true) (n0 : Nat) (t p' : Nat → Addr) (L : HL) (hW : own_W Z t p') :
    Con l (⟨"tidestone/parquet/TypeIsDecimalPinLaw", "pick", "(I)Ltidestone/parquet/ParquetColumn$Type;"⟩ : MethodName) method_2_code 1 (some (.object "tidestone/parquet/ParquetColumn$Type")) ({ frames := 0, cells := 0, slots := 0, locals := 0 } : Room) Z n0 #[(.int (11 : Int32))] L (fun v L' => v = some (.ref (t 11)) ∧ L' = L) := by
  refine Con.of (ws := tables_1) (a0 := a0) pn_1 hw ?_
  intro p e s m below meth cde T kb w
  refine g_entry #[.val (.int (11 : Int32))] (by first | (simp [entryFrame, mkF, argsToLocals, Value.category]; done) | rfl) ?_
  refine g_iloadN w d1_0 rfl 1 rfl ?_
  refine g_if_ne w d1_1 8 (by decide) (by decide) 4 rfl (fun hc1 => ?_) (fun h => absurd h (by decide))
  refine g_iloadN w d1_8 rfl 9 rfl ?_
  refine g_iconst w d1_9 (1 : Int32) rfl 10 rfl ?_
  refine g_icmp_ne w d1_10 17 (by decide) (by decide) 13 rfl (fun hc10 => ?_) (fun h => absurd h (by decide))
  refine g_iloadN w d1_17 rfl 18 rfl ?_
  refine g_iconst w d1_18 (2 : Int32) rfl 19 rfl ?_
  refine g_icmp_ne w d1_19 26 (by decide) (by decide) 22 rfl (fun hc19 => ?_) (fun h => absurd h (by decide))
  refine g_iloadN w d1_26 rfl 27 rfl ?_
  refine g_iconst w d1_27 (3 : Int32) rfl 28 rfl ?_
  refine g_icmp_ne w d1_28 35 (by decide) (by decide) 31 rfl (fun hc28 => ?_) (fun h => absurd h (by decide))
  refine g_iloadN w d1_35 rfl 36 rfl ?_
  refine g_iconst w d1_36 (4 : Int32) rfl 37 rfl ?_
  refine g_icmp_ne w d1_37 44 (by decide) (by decide) 40 rfl (fun hc37 => ?_) (fun h => absurd h (by decide))
  refine g_iloadN w d1_44 rfl 45 rfl ?_
  refine g_iconst w d1_45 (5 : Int32) rfl 46 rfl ?_
  refine g_icmp_ne w d1_46 53 (by decide) (by decide) 49 rfl (fun hc46 => ?_) (fun h => absurd h (by decide))
  refine g_iloadN w d1_53 rfl 54 rfl ?_
  refine g_bipush w d1_54 (6 : Int32) rfl 56 rfl ?_
  refine g_icmp_ne w d1_56 63 (by decide) (by decide) 59 rfl (fun hc56 => ?_) (fun h => absurd h (by decide))
  refine g_iloadN w d1_63 rfl 64 rfl ?_
  refine g_bipush w d1_64 (7 : Int32) rfl 66 rfl ?_
  refine g_icmp_ne w d1_66 73 (by decide) (by decide) 69 rfl (fun hc66 => ?_) (fun h => absurd h (by decide))
  refine g_iloadN w d1_73 rfl 74 rfl ?_
  refine g_bipush w d1_74 (8 : Int32) rfl 76 rfl ?_
  refine g_icmp_ne w d1_76 83 (by decide) (by decide) 79 rfl (fun hc76 => ?_) (fun h => absurd h (by decide))
  refine g_iloadN w d1_83 rfl 84 rfl ?_
  refine g_bipush w d1_84 (9 : Int32) rfl 86 rfl ?_
  refine g_icmp_ne w d1_86 93 (by decide) (by decide) 89 rfl (fun hc86 => ?_) (fun h => absurd h (by decide))
  refine g_iloadN w d1_93 rfl 94 rfl ?_
  refine g_bipush w d1_94 (10 : Int32) rfl 96 rfl ?_
  refine g_icmp_ne w d1_96 103 (by decide) (by decide) 99 rfl (fun hc96 => ?_) (fun h => absurd h (by decide))
  refine g_iloadN w d1_103 rfl 104 rfl ?_
  refine g_bipush w d1_104 (11 : Int32) rfl 106 rfl ?_
  refine g_icmp_ne w d1_106 113 (by decide) (by decide) 109 rfl (fun h => absurd (by decide) h) (fun hc106 => ?_)
  refine g_gets w (show Sta Z Z.heap "tidestone/parquet/ParquetColumn$Type" "TIMESTAMP_MILLIS" "Ltidestone/parquet/ParquetColumn$Type;" (.ref (t 11)) from (hW.1 11 (by decide)).1) d1_109 48 rfl 112 rfl (fun T w => ?_)
  exact g_aret w d1_112 rfl rfl rfl (by decide) (by decide) ⟨rfl, rfl⟩
set_option maxRecDepth 65536 in
set_option maxHeartbeats 40000000 in
theorem rmP_12 (l : Launch) (Z : State) (a0 : Array Value) (hw : ∀ d ∈ tables_1, d.before a0 Z = true) (n0 : Nat) (t p' : Nat → Addr) (L : HL) (hW : own_W Z t p') :
    Con l (⟨"tidestone/parquet/TypeIsDecimalPinLaw", "pick", "(I)Ltidestone/parquet/ParquetColumn$Type;"⟩ : MethodName) method_2_code 1 (some (.object "tidestone/parquet/ParquetColumn$Type")) ({ frames := 0, cells := 0, slots := 0, locals := 0 } : Room) Z n0 #[(.int (12 : Int32))] L (fun v L' => v = some (.ref (t 12)) ∧ L' = L) := by
  refine Con.of (ws := tables_1) (a0 := a0) pn_1 hw ?_
  intro p e s m below meth cde T kb w
  refine g_entry #[.val (.int (12 : Int32))] (by first | (simp [entryFrame, mkF, argsToLocals, Value.category]; done) | rfl) ?_
  refine g_iloadN w d1_0 rfl 1 rfl ?_
  refine g_if_ne w d1_1 8 (by decide) (by decide) 4 rfl (fun hc1 => ?_) (fun h => absurd h (by decide))
  refine g_iloadN w d1_8 rfl 9 rfl ?_
  refine g_iconst w d1_9 (1 : Int32) rfl 10 rfl ?_
  refine g_icmp_ne w d1_10 17 (by decide) (by decide) 13 rfl (fun hc10 => ?_) (fun h => absurd h (by decide))
  refine g_iloadN w d1_17 rfl 18 rfl ?_
  refine g_iconst w d1_18 (2 : Int32) rfl 19 rfl ?_
  refine g_icmp_ne w d1_19 26 (by decide) (by decide) 22 rfl (fun hc19 => ?_) (fun h => absurd h (by decide))
  refine g_iloadN w d1_26 rfl 27 rfl ?_
  refine g_iconst w d1_27 (3 : Int32) rfl 28 rfl ?_
  refine g_icmp_ne w d1_28 35 (by decide) (by decide) 31 rfl (fun hc28 => ?_) (fun h => absurd h (by decide))
  refine g_iloadN w d1_35 rfl 36 rfl ?_
  refine g_iconst w d1_36 (4 : Int32) rfl 37 rfl ?_
  refine g_icmp_ne w d1_37 44 (by decide) (by decide) 40 rfl (fun hc37 => ?_) (fun h => absurd h (by decide))
  refine g_iloadN w d1_44 rfl 45 rfl ?_
  refine g_iconst w d1_45 (5 : Int32) rfl 46 rfl ?_
  refine g_icmp_ne w d1_46 53 (by decide) (by decide) 49 rfl (fun hc46 => ?_) (fun h => absurd h (by decide))
  refine g_iloadN w d1_53 rfl 54 rfl ?_
  refine g_bipush w d1_54 (6 : Int32) rfl 56 rfl ?_
  refine g_icmp_ne w d1_56 63 (by decide) (by decide) 59 rfl (fun hc56 => ?_) (fun h => absurd h (by decide))
  refine g_iloadN w d1_63 rfl 64 rfl ?_
  refine g_bipush w d1_64 (7 : Int32) rfl 66 rfl ?_
  refine g_icmp_ne w d1_66 73 (by decide) (by decide) 69 rfl (fun hc66 => ?_) (fun h => absurd h (by decide))
  refine g_iloadN w d1_73 rfl 74 rfl ?_
  refine g_bipush w d1_74 (8 : Int32) rfl 76 rfl ?_
  refine g_icmp_ne w d1_76 83 (by decide) (by decide) 79 rfl (fun hc76 => ?_) (fun h => absurd h (by decide))
  refine g_iloadN w d1_83 rfl 84 rfl ?_
  refine g_bipush w d1_84 (9 : Int32) rfl 86 rfl ?_
  refine g_icmp_ne w d1_86 93 (by decide) (by decide) 89 rfl (fun hc86 => ?_) (fun h => absurd h (by decide))
  refine g_iloadN w d1_93 rfl 94 rfl ?_
  refine g_bipush w d1_94 (10 : Int32) rfl 96 rfl ?_
  refine g_icmp_ne w d1_96 103 (by decide) (by decide) 99 rfl (fun hc96 => ?_) (fun h => absurd h (by decide))
  refine g_iloadN w d1_103 rfl 104 rfl ?_
  refine g_bipush w d1_104 (11 : Int32) rfl 106 rfl ?_
  refine g_icmp_ne w d1_106 113 (by decide) (by decide) 109 rfl (fun hc106 => ?_) (fun h => absurd h (by decide))
  refine g_iloadN w d1_113 rfl 114 rfl ?_
  refine g_bipush w d1_114 (12 : Int32) rfl 116 rfl ?_
  refine g_icmp_ne w d1_116 123 (by decide) (by decide) 119 rfl (fun h => absurd (by decide) h) (fun hc116 => ?_)
  refine g_gets w (show Sta Z Z.heap "tidestone/parquet/ParquetColumn$Type" "TIMESTAMP_MICROS" "Ltidestone/parquet/ParquetColumn$Type;" (.ref (t 12)) from (hW.1 12 (by decide)).1) d1_119 67 rfl 122 rfl (fun T w => ?_)
  exact g_aret w d1_122 rfl rfl rfl (by decide) (by decide) ⟨rfl, rfl⟩
set_option maxRecDepth 65536 in
set_option maxHeartbeats 40000000 in
theorem rmP_13 (l : Launch) (Z : State) (a0 : Array Value) (hw : ∀ d ∈ tables_1, d.before a0 Z = true) (n0 : Nat) (t p' : Nat → Addr) (L : HL) (hW : own_W Z t p') :
    Con l (⟨"tidestone/parquet/TypeIsDecimalPinLaw", "pick", "(I)Ltidestone/parquet/ParquetColumn$Type;"⟩ : MethodName) method_2_code 1 (some (.object "tidestone/parquet/ParquetColumn$Type")) ({ frames := 0, cells := 0, slots := 0, locals := 0 } : Room) Z n0 #[(.int (13 : Int32))] L (fun v L' => v = some (.ref (t 13)) ∧ L' = L) := by
  refine Con.of (ws := tables_1) (a0 := a0) pn_1 hw ?_
  intro p e s m below meth cde T kb w
  refine g_entry #[.val (.int (13 : Int32))] (by first | (simp [entryFrame, mkF, argsToLocals, Value.category]; done) | rfl) ?_
  refine g_iloadN w d1_0 rfl 1 rfl ?_
  refine g_if_ne w d1_1 8 (by decide) (by decide) 4 rfl (fun hc1 => ?_) (fun h => absurd h (by decide))
  refine g_iloadN w d1_8 rfl 9 rfl ?_
  refine g_iconst w d1_9 (1 : Int32) rfl 10 rfl ?_
  refine g_icmp_ne w d1_10 17 (by decide) (by decide) 13 rfl (fun hc10 => ?_) (fun h => absurd h (by decide))
  refine g_iloadN w d1_17 rfl 18 rfl ?_
  refine g_iconst w d1_18 (2 : Int32) rfl 19 rfl ?_
  refine g_icmp_ne w d1_19 26 (by decide) (by decide) 22 rfl (fun hc19 => ?_) (fun h => absurd h (by decide))
  refine g_iloadN w d1_26 rfl 27 rfl ?_
  refine g_iconst w d1_27 (3 : Int32) rfl 28 rfl ?_
  refine g_icmp_ne w d1_28 35 (by decide) (by decide) 31 rfl (fun hc28 => ?_) (fun h => absurd h (by decide))
  refine g_iloadN w d1_35 rfl 36 rfl ?_
  refine g_iconst w d1_36 (4 : Int32) rfl 37 rfl ?_
  refine g_icmp_ne w d1_37 44 (by decide) (by decide) 40 rfl (fun hc37 => ?_) (fun h => absurd h (by decide))
  refine g_iloadN w d1_44 rfl 45 rfl ?_
  refine g_iconst w d1_45 (5 : Int32) rfl 46 rfl ?_
  refine g_icmp_ne w d1_46 53 (by decide) (by decide) 49 rfl (fun hc46 => ?_) (fun h => absurd h (by decide))
  refine g_iloadN w d1_53 rfl 54 rfl ?_
  refine g_bipush w d1_54 (6 : Int32) rfl 56 rfl ?_
  refine g_icmp_ne w d1_56 63 (by decide) (by decide) 59 rfl (fun hc56 => ?_) (fun h => absurd h (by decide))
  refine g_iloadN w d1_63 rfl 64 rfl ?_
  refine g_bipush w d1_64 (7 : Int32) rfl 66 rfl ?_
  refine g_icmp_ne w d1_66 73 (by decide) (by decide) 69 rfl (fun hc66 => ?_) (fun h => absurd h (by decide))
  refine g_iloadN w d1_73 rfl 74 rfl ?_
  refine g_bipush w d1_74 (8 : Int32) rfl 76 rfl ?_
  refine g_icmp_ne w d1_76 83 (by decide) (by decide) 79 rfl (fun hc76 => ?_) (fun h => absurd h (by decide))
  refine g_iloadN w d1_83 rfl 84 rfl ?_
  refine g_bipush w d1_84 (9 : Int32) rfl 86 rfl ?_
  refine g_icmp_ne w d1_86 93 (by decide) (by decide) 89 rfl (fun hc86 => ?_) (fun h => absurd h (by decide))
  refine g_iloadN w d1_93 rfl 94 rfl ?_
  refine g_bipush w d1_94 (10 : Int32) rfl 96 rfl ?_
  refine g_icmp_ne w d1_96 103 (by decide) (by decide) 99 rfl (fun hc96 => ?_) (fun h => absurd h (by decide))
  refine g_iloadN w d1_103 rfl 104 rfl ?_
  refine g_bipush w d1_104 (11 : Int32) rfl 106 rfl ?_
  refine g_icmp_ne w d1_106 113 (by decide) (by decide) 109 rfl (fun hc106 => ?_) (fun h => absurd h (by decide))
  refine g_iloadN w d1_113 rfl 114 rfl ?_
  refine g_bipush w d1_114 (12 : Int32) rfl 116 rfl ?_
  refine g_icmp_ne w d1_116 123 (by decide) (by decide) 119 rfl (fun hc116 => ?_) (fun h => absurd h (by decide))
  refine g_iloadN w d1_123 rfl 124 rfl ?_
  refine g_bipush w d1_124 (13 : Int32) rfl 126 rfl ?_
  refine g_icmp_ne w d1_126 133 (by decide) (by decide) 129 rfl (fun h => absurd (by decide) h) (fun hc126 => ?_)
  refine g_gets w (show Sta Z Z.heap "tidestone/parquet/ParquetColumn$Type" "TIMESTAMP_MILLIS_UTC" "Ltidestone/parquet/ParquetColumn$Type;" (.ref (t 13)) from (hW.1 13 (by decide)).1) d1_129 69 rfl 132 rfl (fun T w => ?_)
  exact g_aret w d1_132 rfl rfl rfl (by decide) (by decide) ⟨rfl, rfl⟩
set_option maxRecDepth 65536 in
set_option maxHeartbeats 40000000 in
theorem rmP_14 (l : Launch) (Z : State) (a0 : Array Value) (hw : ∀ d ∈ tables_1, d.before a0 Z = true) (n0 : Nat) (t p' : Nat → Addr) (L : HL) (hW : own_W Z t p') :
    Con l (⟨"tidestone/parquet/TypeIsDecimalPinLaw", "pick", "(I)Ltidestone/parquet/ParquetColumn$Type;"⟩ : MethodName) method_2_code 1 (some (.object "tidestone/parquet/ParquetColumn$Type")) ({ frames := 0, cells := 0, slots := 0, locals := 0 } : Room) Z n0 #[(.int (14 : Int32))] L (fun v L' => v = some (.ref (t 14)) ∧ L' = L) := by
  refine Con.of (ws := tables_1) (a0 := a0) pn_1 hw ?_
  intro p e s m below meth cde T kb w
  refine g_entry #[.val (.int (14 : Int32))] (by first | (simp [entryFrame, mkF, argsToLocals, Value.category]; done) | rfl) ?_
  refine g_iloadN w d1_0 rfl 1 rfl ?_
  refine g_if_ne w d1_1 8 (by decide) (by decide) 4 rfl (fun hc1 => ?_) (fun h => absurd h (by decide))
  refine g_iloadN w d1_8 rfl 9 rfl ?_
  refine g_iconst w d1_9 (1 : Int32) rfl 10 rfl ?_
  refine g_icmp_ne w d1_10 17 (by decide) (by decide) 13 rfl (fun hc10 => ?_) (fun h => absurd h (by decide))
  refine g_iloadN w d1_17 rfl 18 rfl ?_
  refine g_iconst w d1_18 (2 : Int32) rfl 19 rfl ?_
  refine g_icmp_ne w d1_19 26 (by decide) (by decide) 22 rfl (fun hc19 => ?_) (fun h => absurd h (by decide))
  refine g_iloadN w d1_26 rfl 27 rfl ?_
  refine g_iconst w d1_27 (3 : Int32) rfl 28 rfl ?_
  refine g_icmp_ne w d1_28 35 (by decide) (by decide) 31 rfl (fun hc28 => ?_) (fun h => absurd h (by decide))
  refine g_iloadN w d1_35 rfl 36 rfl ?_
  refine g_iconst w d1_36 (4 : Int32) rfl 37 rfl ?_
  refine g_icmp_ne w d1_37 44 (by decide) (by decide) 40 rfl (fun hc37 => ?_) (fun h => absurd h (by decide))
  refine g_iloadN w d1_44 rfl 45 rfl ?_
  refine g_iconst w d1_45 (5 : Int32) rfl 46 rfl ?_
  refine g_icmp_ne w d1_46 53 (by decide) (by decide) 49 rfl (fun hc46 => ?_) (fun h => absurd h (by decide))
  refine g_iloadN w d1_53 rfl 54 rfl ?_
  refine g_bipush w d1_54 (6 : Int32) rfl 56 rfl ?_
  refine g_icmp_ne w d1_56 63 (by decide) (by decide) 59 rfl (fun hc56 => ?_) (fun h => absurd h (by decide))
  refine g_iloadN w d1_63 rfl 64 rfl ?_
  refine g_bipush w d1_64 (7 : Int32) rfl 66 rfl ?_
  refine g_icmp_ne w d1_66 73 (by decide) (by decide) 69 rfl (fun hc66 => ?_) (fun h => absurd h (by decide))
  refine g_iloadN w d1_73 rfl 74 rfl ?_
  refine g_bipush w d1_74 (8 : Int32) rfl 76 rfl ?_
  refine g_icmp_ne w d1_76 83 (by decide) (by decide) 79 rfl (fun hc76 => ?_) (fun h => absurd h (by decide))
  refine g_iloadN w d1_83 rfl 84 rfl ?_
  refine g_bipush w d1_84 (9 : Int32) rfl 86 rfl ?_
  refine g_icmp_ne w d1_86 93 (by decide) (by decide) 89 rfl (fun hc86 => ?_) (fun h => absurd h (by decide))
  refine g_iloadN w d1_93 rfl 94 rfl ?_
  refine g_bipush w d1_94 (10 : Int32) rfl 96 rfl ?_
  refine g_icmp_ne w d1_96 103 (by decide) (by decide) 99 rfl (fun hc96 => ?_) (fun h => absurd h (by decide))
  refine g_iloadN w d1_103 rfl 104 rfl ?_
  refine g_bipush w d1_104 (11 : Int32) rfl 106 rfl ?_
  refine g_icmp_ne w d1_106 113 (by decide) (by decide) 109 rfl (fun hc106 => ?_) (fun h => absurd h (by decide))
  refine g_iloadN w d1_113 rfl 114 rfl ?_
  refine g_bipush w d1_114 (12 : Int32) rfl 116 rfl ?_
  refine g_icmp_ne w d1_116 123 (by decide) (by decide) 119 rfl (fun hc116 => ?_) (fun h => absurd h (by decide))
  refine g_iloadN w d1_123 rfl 124 rfl ?_
  refine g_bipush w d1_124 (13 : Int32) rfl 126 rfl ?_
  refine g_icmp_ne w d1_126 133 (by decide) (by decide) 129 rfl (fun hc126 => ?_) (fun h => absurd h (by decide))
  refine g_iloadN w d1_133 rfl 134 rfl ?_
  refine g_bipush w d1_134 (14 : Int32) rfl 136 rfl ?_
  refine g_icmp_ne w d1_136 143 (by decide) (by decide) 139 rfl (fun h => absurd (by decide) h) (fun hc136 => ?_)
  refine g_gets w (show Sta Z Z.heap "tidestone/parquet/ParquetColumn$Type" "TIMESTAMP_MICROS_UTC" "Ltidestone/parquet/ParquetColumn$Type;" (.ref (t 14)) from (hW.1 14 (by decide)).1) d1_139 56 rfl 142 rfl (fun T w => ?_)
  exact g_aret w d1_142 rfl rfl rfl (by decide) (by decide) ⟨rfl, rfl⟩
set_option maxRecDepth 65536 in
set_option maxHeartbeats 40000000 in
theorem rmP_15 (l : Launch) (Z : State) (a0 : Array Value) (hw : ∀ d ∈ tables_1, d.before a0 Z = true) (n0 : Nat) (t p' : Nat → Addr) (L : HL) (hW : own_W Z t p') :
    Con l (⟨"tidestone/parquet/TypeIsDecimalPinLaw", "pick", "(I)Ltidestone/parquet/ParquetColumn$Type;"⟩ : MethodName) method_2_code 1 (some (.object "tidestone/parquet/ParquetColumn$Type")) ({ frames := 0, cells := 0, slots := 0, locals := 0 } : Room) Z n0 #[(.int (15 : Int32))] L (fun v L' => v = some (.ref (t 15)) ∧ L' = L) := by
  refine Con.of (ws := tables_1) (a0 := a0) pn_1 hw ?_
  intro p e s m below meth cde T kb w
  refine g_entry #[.val (.int (15 : Int32))] (by first | (simp [entryFrame, mkF, argsToLocals, Value.category]; done) | rfl) ?_
  refine g_iloadN w d1_0 rfl 1 rfl ?_
  refine g_if_ne w d1_1 8 (by decide) (by decide) 4 rfl (fun hc1 => ?_) (fun h => absurd h (by decide))
  refine g_iloadN w d1_8 rfl 9 rfl ?_
  refine g_iconst w d1_9 (1 : Int32) rfl 10 rfl ?_
  refine g_icmp_ne w d1_10 17 (by decide) (by decide) 13 rfl (fun hc10 => ?_) (fun h => absurd h (by decide))
  refine g_iloadN w d1_17 rfl 18 rfl ?_
  refine g_iconst w d1_18 (2 : Int32) rfl 19 rfl ?_
  refine g_icmp_ne w d1_19 26 (by decide) (by decide) 22 rfl (fun hc19 => ?_) (fun h => absurd h (by decide))
  refine g_iloadN w d1_26 rfl 27 rfl ?_
  refine g_iconst w d1_27 (3 : Int32) rfl 28 rfl ?_
  refine g_icmp_ne w d1_28 35 (by decide) (by decide) 31 rfl (fun hc28 => ?_) (fun h => absurd h (by decide))
  refine g_iloadN w d1_35 rfl 36 rfl ?_
  refine g_iconst w d1_36 (4 : Int32) rfl 37 rfl ?_
  refine g_icmp_ne w d1_37 44 (by decide) (by decide) 40 rfl (fun hc37 => ?_) (fun h => absurd h (by decide))
  refine g_iloadN w d1_44 rfl 45 rfl ?_
  refine g_iconst w d1_45 (5 : Int32) rfl 46 rfl ?_
  refine g_icmp_ne w d1_46 53 (by decide) (by decide) 49 rfl (fun hc46 => ?_) (fun h => absurd h (by decide))
  refine g_iloadN w d1_53 rfl 54 rfl ?_
  refine g_bipush w d1_54 (6 : Int32) rfl 56 rfl ?_
  refine g_icmp_ne w d1_56 63 (by decide) (by decide) 59 rfl (fun hc56 => ?_) (fun h => absurd h (by decide))
  refine g_iloadN w d1_63 rfl 64 rfl ?_
  refine g_bipush w d1_64 (7 : Int32) rfl 66 rfl ?_
  refine g_icmp_ne w d1_66 73 (by decide) (by decide) 69 rfl (fun hc66 => ?_) (fun h => absurd h (by decide))
  refine g_iloadN w d1_73 rfl 74 rfl ?_
  refine g_bipush w d1_74 (8 : Int32) rfl 76 rfl ?_
  refine g_icmp_ne w d1_76 83 (by decide) (by decide) 79 rfl (fun hc76 => ?_) (fun h => absurd h (by decide))
  refine g_iloadN w d1_83 rfl 84 rfl ?_
  refine g_bipush w d1_84 (9 : Int32) rfl 86 rfl ?_
  refine g_icmp_ne w d1_86 93 (by decide) (by decide) 89 rfl (fun hc86 => ?_) (fun h => absurd h (by decide))
  refine g_iloadN w d1_93 rfl 94 rfl ?_
  refine g_bipush w d1_94 (10 : Int32) rfl 96 rfl ?_
  refine g_icmp_ne w d1_96 103 (by decide) (by decide) 99 rfl (fun hc96 => ?_) (fun h => absurd h (by decide))
  refine g_iloadN w d1_103 rfl 104 rfl ?_
  refine g_bipush w d1_104 (11 : Int32) rfl 106 rfl ?_
  refine g_icmp_ne w d1_106 113 (by decide) (by decide) 109 rfl (fun hc106 => ?_) (fun h => absurd h (by decide))
  refine g_iloadN w d1_113 rfl 114 rfl ?_
  refine g_bipush w d1_114 (12 : Int32) rfl 116 rfl ?_
  refine g_icmp_ne w d1_116 123 (by decide) (by decide) 119 rfl (fun hc116 => ?_) (fun h => absurd h (by decide))
  refine g_iloadN w d1_123 rfl 124 rfl ?_
  refine g_bipush w d1_124 (13 : Int32) rfl 126 rfl ?_
  refine g_icmp_ne w d1_126 133 (by decide) (by decide) 129 rfl (fun hc126 => ?_) (fun h => absurd h (by decide))
  refine g_iloadN w d1_133 rfl 134 rfl ?_
  refine g_bipush w d1_134 (14 : Int32) rfl 136 rfl ?_
  refine g_icmp_ne w d1_136 143 (by decide) (by decide) 139 rfl (fun hc136 => ?_) (fun h => absurd h (by decide))
  refine g_iloadN w d1_143 rfl 144 rfl ?_
  refine g_bipush w d1_144 (15 : Int32) rfl 146 rfl ?_
  refine g_icmp_ne w d1_146 153 (by decide) (by decide) 149 rfl (fun h => absurd (by decide) h) (fun hc146 => ?_)
  refine g_gets w (show Sta Z Z.heap "tidestone/parquet/ParquetColumn$Type" "INT96" "Ltidestone/parquet/ParquetColumn$Type;" (.ref (t 15)) from (hW.1 15 (by decide)).1) d1_149 33 rfl 152 rfl (fun T w => ?_)
  exact g_aret w d1_152 rfl rfl rfl (by decide) (by decide) ⟨rfl, rfl⟩
set_option maxRecDepth 65536 in
set_option maxHeartbeats 40000000 in
theorem rmP_16 (l : Launch) (Z : State) (a0 : Array Value) (hw : ∀ d ∈ tables_1, d.before a0 Z = true) (n0 : Nat) (t p' : Nat → Addr) (L : HL) (hW : own_W Z t p') :
    Con l (⟨"tidestone/parquet/TypeIsDecimalPinLaw", "pick", "(I)Ltidestone/parquet/ParquetColumn$Type;"⟩ : MethodName) method_2_code 1 (some (.object "tidestone/parquet/ParquetColumn$Type")) ({ frames := 0, cells := 0, slots := 0, locals := 0 } : Room) Z n0 #[(.int (16 : Int32))] L (fun v L' => v = some (.ref (t 16)) ∧ L' = L) := by
  refine Con.of (ws := tables_1) (a0 := a0) pn_1 hw ?_
  intro p e s m below meth cde T kb w
  refine g_entry #[.val (.int (16 : Int32))] (by first | (simp [entryFrame, mkF, argsToLocals, Value.category]; done) | rfl) ?_
  refine g_iloadN w d1_0 rfl 1 rfl ?_
  refine g_if_ne w d1_1 8 (by decide) (by decide) 4 rfl (fun hc1 => ?_) (fun h => absurd h (by decide))
  refine g_iloadN w d1_8 rfl 9 rfl ?_
  refine g_iconst w d1_9 (1 : Int32) rfl 10 rfl ?_
  refine g_icmp_ne w d1_10 17 (by decide) (by decide) 13 rfl (fun hc10 => ?_) (fun h => absurd h (by decide))
  refine g_iloadN w d1_17 rfl 18 rfl ?_
  refine g_iconst w d1_18 (2 : Int32) rfl 19 rfl ?_
  refine g_icmp_ne w d1_19 26 (by decide) (by decide) 22 rfl (fun hc19 => ?_) (fun h => absurd h (by decide))
  refine g_iloadN w d1_26 rfl 27 rfl ?_
  refine g_iconst w d1_27 (3 : Int32) rfl 28 rfl ?_
  refine g_icmp_ne w d1_28 35 (by decide) (by decide) 31 rfl (fun hc28 => ?_) (fun h => absurd h (by decide))
  refine g_iloadN w d1_35 rfl 36 rfl ?_
  refine g_iconst w d1_36 (4 : Int32) rfl 37 rfl ?_
  refine g_icmp_ne w d1_37 44 (by decide) (by decide) 40 rfl (fun hc37 => ?_) (fun h => absurd h (by decide))
  refine g_iloadN w d1_44 rfl 45 rfl ?_
  refine g_iconst w d1_45 (5 : Int32) rfl 46 rfl ?_
  refine g_icmp_ne w d1_46 53 (by decide) (by decide) 49 rfl (fun hc46 => ?_) (fun h => absurd h (by decide))
  refine g_iloadN w d1_53 rfl 54 rfl ?_
  refine g_bipush w d1_54 (6 : Int32) rfl 56 rfl ?_
  refine g_icmp_ne w d1_56 63 (by decide) (by decide) 59 rfl (fun hc56 => ?_) (fun h => absurd h (by decide))
  refine g_iloadN w d1_63 rfl 64 rfl ?_
  refine g_bipush w d1_64 (7 : Int32) rfl 66 rfl ?_
  refine g_icmp_ne w d1_66 73 (by decide) (by decide) 69 rfl (fun hc66 => ?_) (fun h => absurd h (by decide))
  refine g_iloadN w d1_73 rfl 74 rfl ?_
  refine g_bipush w d1_74 (8 : Int32) rfl 76 rfl ?_
  refine g_icmp_ne w d1_76 83 (by decide) (by decide) 79 rfl (fun hc76 => ?_) (fun h => absurd h (by decide))
  refine g_iloadN w d1_83 rfl 84 rfl ?_
  refine g_bipush w d1_84 (9 : Int32) rfl 86 rfl ?_
  refine g_icmp_ne w d1_86 93 (by decide) (by decide) 89 rfl (fun hc86 => ?_) (fun h => absurd h (by decide))
  refine g_iloadN w d1_93 rfl 94 rfl ?_
  refine g_bipush w d1_94 (10 : Int32) rfl 96 rfl ?_
  refine g_icmp_ne w d1_96 103 (by decide) (by decide) 99 rfl (fun hc96 => ?_) (fun h => absurd h (by decide))
  refine g_iloadN w d1_103 rfl 104 rfl ?_
  refine g_bipush w d1_104 (11 : Int32) rfl 106 rfl ?_
  refine g_icmp_ne w d1_106 113 (by decide) (by decide) 109 rfl (fun hc106 => ?_) (fun h => absurd h (by decide))
  refine g_iloadN w d1_113 rfl 114 rfl ?_
  refine g_bipush w d1_114 (12 : Int32) rfl 116 rfl ?_
  refine g_icmp_ne w d1_116 123 (by decide) (by decide) 119 rfl (fun hc116 => ?_) (fun h => absurd h (by decide))
  refine g_iloadN w d1_123 rfl 124 rfl ?_
  refine g_bipush w d1_124 (13 : Int32) rfl 126 rfl ?_
  refine g_icmp_ne w d1_126 133 (by decide) (by decide) 129 rfl (fun hc126 => ?_) (fun h => absurd h (by decide))
  refine g_iloadN w d1_133 rfl 134 rfl ?_
  refine g_bipush w d1_134 (14 : Int32) rfl 136 rfl ?_
  refine g_icmp_ne w d1_136 143 (by decide) (by decide) 139 rfl (fun hc136 => ?_) (fun h => absurd h (by decide))
  refine g_iloadN w d1_143 rfl 144 rfl ?_
  refine g_bipush w d1_144 (15 : Int32) rfl 146 rfl ?_
  refine g_icmp_ne w d1_146 153 (by decide) (by decide) 149 rfl (fun hc146 => ?_) (fun h => absurd h (by decide))
  refine g_iloadN w d1_153 rfl 154 rfl ?_
  refine g_bipush w d1_154 (16 : Int32) rfl 156 rfl ?_
  refine g_icmp_ne w d1_156 163 (by decide) (by decide) 159 rfl (fun h => absurd (by decide) h) (fun hc156 => ?_)
  refine g_gets w (show Sta Z Z.heap "tidestone/parquet/ParquetColumn$Type" "DECIMAL_INT32" "Ltidestone/parquet/ParquetColumn$Type;" (.ref (t 16)) from (hW.1 16 (by decide)).1) d1_159 62 rfl 162 rfl (fun T w => ?_)
  exact g_aret w d1_162 rfl rfl rfl (by decide) (by decide) ⟨rfl, rfl⟩
set_option maxRecDepth 65536 in
set_option maxHeartbeats 40000000 in
theorem rmP_17 (l : Launch) (Z : State) (a0 : Array Value) (hw : ∀ d ∈ tables_1, d.before a0 Z = true) (n0 : Nat) (t p' : Nat → Addr) (L : HL) (hW : own_W Z t p') :
    Con l (⟨"tidestone/parquet/TypeIsDecimalPinLaw", "pick", "(I)Ltidestone/parquet/ParquetColumn$Type;"⟩ : MethodName) method_2_code 1 (some (.object "tidestone/parquet/ParquetColumn$Type")) ({ frames := 0, cells := 0, slots := 0, locals := 0 } : Room) Z n0 #[(.int (17 : Int32))] L (fun v L' => v = some (.ref (t 17)) ∧ L' = L) := by
  refine Con.of (ws := tables_1) (a0 := a0) pn_1 hw ?_
  intro p e s m below meth cde T kb w
  refine g_entry #[.val (.int (17 : Int32))] (by first | (simp [entryFrame, mkF, argsToLocals, Value.category]; done) | rfl) ?_
  refine g_iloadN w d1_0 rfl 1 rfl ?_
  refine g_if_ne w d1_1 8 (by decide) (by decide) 4 rfl (fun hc1 => ?_) (fun h => absurd h (by decide))
  refine g_iloadN w d1_8 rfl 9 rfl ?_
  refine g_iconst w d1_9 (1 : Int32) rfl 10 rfl ?_
  refine g_icmp_ne w d1_10 17 (by decide) (by decide) 13 rfl (fun hc10 => ?_) (fun h => absurd h (by decide))
  refine g_iloadN w d1_17 rfl 18 rfl ?_
  refine g_iconst w d1_18 (2 : Int32) rfl 19 rfl ?_
  refine g_icmp_ne w d1_19 26 (by decide) (by decide) 22 rfl (fun hc19 => ?_) (fun h => absurd h (by decide))
  refine g_iloadN w d1_26 rfl 27 rfl ?_
  refine g_iconst w d1_27 (3 : Int32) rfl 28 rfl ?_
  refine g_icmp_ne w d1_28 35 (by decide) (by decide) 31 rfl (fun hc28 => ?_) (fun h => absurd h (by decide))
  refine g_iloadN w d1_35 rfl 36 rfl ?_
  refine g_iconst w d1_36 (4 : Int32) rfl 37 rfl ?_
  refine g_icmp_ne w d1_37 44 (by decide) (by decide) 40 rfl (fun hc37 => ?_) (fun h => absurd h (by decide))
  refine g_iloadN w d1_44 rfl 45 rfl ?_
  refine g_iconst w d1_45 (5 : Int32) rfl 46 rfl ?_
  refine g_icmp_ne w d1_46 53 (by decide) (by decide) 49 rfl (fun hc46 => ?_) (fun h => absurd h (by decide))
  refine g_iloadN w d1_53 rfl 54 rfl ?_
  refine g_bipush w d1_54 (6 : Int32) rfl 56 rfl ?_
  refine g_icmp_ne w d1_56 63 (by decide) (by decide) 59 rfl (fun hc56 => ?_) (fun h => absurd h (by decide))
  refine g_iloadN w d1_63 rfl 64 rfl ?_
  refine g_bipush w d1_64 (7 : Int32) rfl 66 rfl ?_
  refine g_icmp_ne w d1_66 73 (by decide) (by decide) 69 rfl (fun hc66 => ?_) (fun h => absurd h (by decide))
  refine g_iloadN w d1_73 rfl 74 rfl ?_
  refine g_bipush w d1_74 (8 : Int32) rfl 76 rfl ?_
  refine g_icmp_ne w d1_76 83 (by decide) (by decide) 79 rfl (fun hc76 => ?_) (fun h => absurd h (by decide))
  refine g_iloadN w d1_83 rfl 84 rfl ?_
  refine g_bipush w d1_84 (9 : Int32) rfl 86 rfl ?_
  refine g_icmp_ne w d1_86 93 (by decide) (by decide) 89 rfl (fun hc86 => ?_) (fun h => absurd h (by decide))
  refine g_iloadN w d1_93 rfl 94 rfl ?_
  refine g_bipush w d1_94 (10 : Int32) rfl 96 rfl ?_
  refine g_icmp_ne w d1_96 103 (by decide) (by decide) 99 rfl (fun hc96 => ?_) (fun h => absurd h (by decide))
  refine g_iloadN w d1_103 rfl 104 rfl ?_
  refine g_bipush w d1_104 (11 : Int32) rfl 106 rfl ?_
  refine g_icmp_ne w d1_106 113 (by decide) (by decide) 109 rfl (fun hc106 => ?_) (fun h => absurd h (by decide))
  refine g_iloadN w d1_113 rfl 114 rfl ?_
  refine g_bipush w d1_114 (12 : Int32) rfl 116 rfl ?_
  refine g_icmp_ne w d1_116 123 (by decide) (by decide) 119 rfl (fun hc116 => ?_) (fun h => absurd h (by decide))
  refine g_iloadN w d1_123 rfl 124 rfl ?_
  refine g_bipush w d1_124 (13 : Int32) rfl 126 rfl ?_
  refine g_icmp_ne w d1_126 133 (by decide) (by decide) 129 rfl (fun hc126 => ?_) (fun h => absurd h (by decide))
  refine g_iloadN w d1_133 rfl 134 rfl ?_
  refine g_bipush w d1_134 (14 : Int32) rfl 136 rfl ?_
  refine g_icmp_ne w d1_136 143 (by decide) (by decide) 139 rfl (fun hc136 => ?_) (fun h => absurd h (by decide))
  refine g_iloadN w d1_143 rfl 144 rfl ?_
  refine g_bipush w d1_144 (15 : Int32) rfl 146 rfl ?_
  refine g_icmp_ne w d1_146 153 (by decide) (by decide) 149 rfl (fun hc146 => ?_) (fun h => absurd h (by decide))
  refine g_iloadN w d1_153 rfl 154 rfl ?_
  refine g_bipush w d1_154 (16 : Int32) rfl 156 rfl ?_
  refine g_icmp_ne w d1_156 163 (by decide) (by decide) 159 rfl (fun hc156 => ?_) (fun h => absurd h (by decide))
  refine g_iloadN w d1_163 rfl 164 rfl ?_
  refine g_bipush w d1_164 (17 : Int32) rfl 166 rfl ?_
  refine g_icmp_ne w d1_166 173 (by decide) (by decide) 169 rfl (fun h => absurd (by decide) h) (fun hc166 => ?_)
  refine g_gets w (show Sta Z Z.heap "tidestone/parquet/ParquetColumn$Type" "DECIMAL_INT64" "Ltidestone/parquet/ParquetColumn$Type;" (.ref (t 17)) from (hW.1 17 (by decide)).1) d1_169 39 rfl 172 rfl (fun T w => ?_)
  exact g_aret w d1_172 rfl rfl rfl (by decide) (by decide) ⟨rfl, rfl⟩
set_option maxRecDepth 65536 in
set_option maxHeartbeats 40000000 in
theorem rmP_18 (l : Launch) (Z : State) (a0 : Array Value) (hw : ∀ d ∈ tables_1, d.before a0 Z = true) (n0 : Nat) (t p' : Nat → Addr) (L : HL) (hW : own_W Z t p') :
    Con l (⟨"tidestone/parquet/TypeIsDecimalPinLaw", "pick", "(I)Ltidestone/parquet/ParquetColumn$Type;"⟩ : MethodName) method_2_code 1 (some (.object "tidestone/parquet/ParquetColumn$Type")) ({ frames := 0, cells := 0, slots := 0, locals := 0 } : Room) Z n0 #[(.int (18 : Int32))] L (fun v L' => v = some (.ref (t 18)) ∧ L' = L) := by
  refine Con.of (ws := tables_1) (a0 := a0) pn_1 hw ?_
  intro p e s m below meth cde T kb w
  refine g_entry #[.val (.int (18 : Int32))] (by first | (simp [entryFrame, mkF, argsToLocals, Value.category]; done) | rfl) ?_
  refine g_iloadN w d1_0 rfl 1 rfl ?_
  refine g_if_ne w d1_1 8 (by decide) (by decide) 4 rfl (fun hc1 => ?_) (fun h => absurd h (by decide))
  refine g_iloadN w d1_8 rfl 9 rfl ?_
  refine g_iconst w d1_9 (1 : Int32) rfl 10 rfl ?_
  refine g_icmp_ne w d1_10 17 (by decide) (by decide) 13 rfl (fun hc10 => ?_) (fun h => absurd h (by decide))
  refine g_iloadN w d1_17 rfl 18 rfl ?_
  refine g_iconst w d1_18 (2 : Int32) rfl 19 rfl ?_
  refine g_icmp_ne w d1_19 26 (by decide) (by decide) 22 rfl (fun hc19 => ?_) (fun h => absurd h (by decide))
  refine g_iloadN w d1_26 rfl 27 rfl ?_
  refine g_iconst w d1_27 (3 : Int32) rfl 28 rfl ?_
  refine g_icmp_ne w d1_28 35 (by decide) (by decide) 31 rfl (fun hc28 => ?_) (fun h => absurd h (by decide))
  refine g_iloadN w d1_35 rfl 36 rfl ?_
  refine g_iconst w d1_36 (4 : Int32) rfl 37 rfl ?_
  refine g_icmp_ne w d1_37 44 (by decide) (by decide) 40 rfl (fun hc37 => ?_) (fun h => absurd h (by decide))
  refine g_iloadN w d1_44 rfl 45 rfl ?_
  refine g_iconst w d1_45 (5 : Int32) rfl 46 rfl ?_
  refine g_icmp_ne w d1_46 53 (by decide) (by decide) 49 rfl (fun hc46 => ?_) (fun h => absurd h (by decide))
  refine g_iloadN w d1_53 rfl 54 rfl ?_
  refine g_bipush w d1_54 (6 : Int32) rfl 56 rfl ?_
  refine g_icmp_ne w d1_56 63 (by decide) (by decide) 59 rfl (fun hc56 => ?_) (fun h => absurd h (by decide))
  refine g_iloadN w d1_63 rfl 64 rfl ?_
  refine g_bipush w d1_64 (7 : Int32) rfl 66 rfl ?_
  refine g_icmp_ne w d1_66 73 (by decide) (by decide) 69 rfl (fun hc66 => ?_) (fun h => absurd h (by decide))
  refine g_iloadN w d1_73 rfl 74 rfl ?_
  refine g_bipush w d1_74 (8 : Int32) rfl 76 rfl ?_
  refine g_icmp_ne w d1_76 83 (by decide) (by decide) 79 rfl (fun hc76 => ?_) (fun h => absurd h (by decide))
  refine g_iloadN w d1_83 rfl 84 rfl ?_
  refine g_bipush w d1_84 (9 : Int32) rfl 86 rfl ?_
  refine g_icmp_ne w d1_86 93 (by decide) (by decide) 89 rfl (fun hc86 => ?_) (fun h => absurd h (by decide))
  refine g_iloadN w d1_93 rfl 94 rfl ?_
  refine g_bipush w d1_94 (10 : Int32) rfl 96 rfl ?_
  refine g_icmp_ne w d1_96 103 (by decide) (by decide) 99 rfl (fun hc96 => ?_) (fun h => absurd h (by decide))
  refine g_iloadN w d1_103 rfl 104 rfl ?_
  refine g_bipush w d1_104 (11 : Int32) rfl 106 rfl ?_
  refine g_icmp_ne w d1_106 113 (by decide) (by decide) 109 rfl (fun hc106 => ?_) (fun h => absurd h (by decide))
  refine g_iloadN w d1_113 rfl 114 rfl ?_
  refine g_bipush w d1_114 (12 : Int32) rfl 116 rfl ?_
  refine g_icmp_ne w d1_116 123 (by decide) (by decide) 119 rfl (fun hc116 => ?_) (fun h => absurd h (by decide))
  refine g_iloadN w d1_123 rfl 124 rfl ?_
  refine g_bipush w d1_124 (13 : Int32) rfl 126 rfl ?_
  refine g_icmp_ne w d1_126 133 (by decide) (by decide) 129 rfl (fun hc126 => ?_) (fun h => absurd h (by decide))
  refine g_iloadN w d1_133 rfl 134 rfl ?_
  refine g_bipush w d1_134 (14 : Int32) rfl 136 rfl ?_
  refine g_icmp_ne w d1_136 143 (by decide) (by decide) 139 rfl (fun hc136 => ?_) (fun h => absurd h (by decide))
  refine g_iloadN w d1_143 rfl 144 rfl ?_
  refine g_bipush w d1_144 (15 : Int32) rfl 146 rfl ?_
  refine g_icmp_ne w d1_146 153 (by decide) (by decide) 149 rfl (fun hc146 => ?_) (fun h => absurd h (by decide))
  refine g_iloadN w d1_153 rfl 154 rfl ?_
  refine g_bipush w d1_154 (16 : Int32) rfl 156 rfl ?_
  refine g_icmp_ne w d1_156 163 (by decide) (by decide) 159 rfl (fun hc156 => ?_) (fun h => absurd h (by decide))
  refine g_iloadN w d1_163 rfl 164 rfl ?_
  refine g_bipush w d1_164 (17 : Int32) rfl 166 rfl ?_
  refine g_icmp_ne w d1_166 173 (by decide) (by decide) 169 rfl (fun hc166 => ?_) (fun h => absurd h (by decide))
  refine g_gets w (show Sta Z Z.heap "tidestone/parquet/ParquetColumn$Type" "DECIMAL_FIXED" "Ltidestone/parquet/ParquetColumn$Type;" (.ref (t 18)) from (hW.1 18 (by decide)).1) d1_173 58 rfl 176 rfl (fun T w => ?_)
  exact g_aret w d1_176 rfl rfl rfl (by decide) (by decide) ⟨rfl, rfl⟩
theorem d2_0 : decode prog_91_method_5_code 0 = .ok (.aload_n 0, 1) := by decide +kernel
theorem d2_1 : decode prog_91_method_5_code 1 = .ok (.getstatic 52, 3) := by decide +kernel
theorem d2_4 : decode prog_91_method_5_code 4 = .ok (.if_acmp .eq 17, 3) := by decide +kernel
theorem d2_7 : decode prog_91_method_5_code 7 = .ok (.aload_n 0, 1) := by decide +kernel
theorem d2_8 : decode prog_91_method_5_code 8 = .ok (.getstatic 55, 3) := by decide +kernel
theorem d2_11 : decode prog_91_method_5_code 11 = .ok (.if_acmp .eq 10, 3) := by decide +kernel
theorem d2_14 : decode prog_91_method_5_code 14 = .ok (.aload_n 0, 1) := by decide +kernel
theorem d2_15 : decode prog_91_method_5_code 15 = .ok (.getstatic 58, 3) := by decide +kernel
theorem d2_18 : decode prog_91_method_5_code 18 = .ok (.if_acmp .ne 7, 3) := by decide +kernel
theorem d2_21 : decode prog_91_method_5_code 21 = .ok (.iconst 1, 1) := by decide +kernel
theorem d2_22 : decode prog_91_method_5_code 22 = .ok (.goto 4, 3) := by decide +kernel
theorem d2_25 : decode prog_91_method_5_code 25 = .ok (.iconst 0, 1) := by decide +kernel
theorem d2_26 : decode prog_91_method_5_code 26 = .ok (.ireturn, 1) := by decide +kernel
theorem pn_2 : plainFor (⟨"tidestone/parquet/ParquetColumn$Type", "isDecimal", "()Z"⟩ : MethodName) = true := plainFor_of_name (by first | (simp [plainName, overriddenIn]; done) | decide +kernel)
set_option maxRecDepth 65536 in
set_option maxHeartbeats 40000000 in
theorem rm2 (l : Launch) (Z : State) (a0 : Array Value) (hw : ∀ d ∈ tables_1, d.before a0 Z = true) (n0 : Nat) (t p' : Nat → Addr) (a : Addr) (L : HL) (hW : own_W Z t p') :
    Con l (⟨"tidestone/parquet/ParquetColumn$Type", "isDecimal", "()Z"⟩ : MethodName) prog_91_method_5_code 1 (some .boolean) ({ frames := 0, cells := 0, slots := 0, locals := 0 } : Room) Z n0 #[(.ref a)] L (fun v L' => v = some (.int (own_dec a (t 16) (t 17) (t 18))) ∧ L' = L) := by
  refine Con.of (ws := tables_1) (a0 := a0) pn_2 hw ?_
  intro p e s m below meth cde T kb w
  refine g_entry #[.val (.ref a)] (by first | (simp [entryFrame, mkF, argsToLocals, Value.category]; done) | rfl) ?_
  refine g_aloadN w d2_0 rfl rfl 1 rfl ?_
  refine g_gets w (show Sta Z Z.heap "tidestone/parquet/ParquetColumn$Type" "DECIMAL_INT32" "Ltidestone/parquet/ParquetColumn$Type;" (.ref (t 16)) from (hW.1 16 (by decide)).1) d2_1 13 rfl 4 rfl (fun T w => ?_)
  refine g_acmp_eq w d2_4 rfl rfl 21 (by decide) (by decide) 7 rfl (fun hc4 => ?_) (fun hc4 => ?_)
  · -- pc 21 (taken: (.ref a) = (.ref (t 16)))
    refine g_iconst w d2_21 (1 : Int32) rfl 22 rfl ?_
    refine g_goto w d2_22 26 (by decide) (by decide) ?_
    exact g_iretn w (by simp) d2_26 (by decide) (by decide) ⟨congrArg (fun z => some (Value.int z)) (by first | (have e := Value.ref.inj hc4; simp [own_dec, e]; done) | (have e := Value.ref.inj hc4; simp [own_dec, e] <;> rfl) | (simp only [Value.ref.injEq] at hc4 hc11 hc18; simp [own_dec, *] <;> rfl) | (simp only [Value.ref.injEq] at hc4 hc11; simp [own_dec, *] <;> rfl)), rfl⟩
  · -- pc 7 (on: not (.ref a) = (.ref (t 16)))
    refine g_aloadN w d2_7 rfl rfl 8 rfl ?_
    refine g_gets w (show Sta Z Z.heap "tidestone/parquet/ParquetColumn$Type" "DECIMAL_INT64" "Ltidestone/parquet/ParquetColumn$Type;" (.ref (t 17)) from (hW.1 17 (by decide)).1) d2_8 15 rfl 11 rfl (fun T w => ?_)
    refine g_acmp_eq w d2_11 rfl rfl 21 (by decide) (by decide) 14 rfl (fun hc11 => ?_) (fun hc11 => ?_)
    · -- pc 21 (taken: (.ref a) = (.ref (t 17)))
      refine g_iconst w d2_21 (1 : Int32) rfl 22 rfl ?_
      refine g_goto w d2_22 26 (by decide) (by decide) ?_
      exact g_iretn w (by simp) d2_26 (by decide) (by decide) ⟨congrArg (fun z => some (Value.int z)) (by first | (have e := Value.ref.inj hc4; simp [own_dec, e]; done) | (have e := Value.ref.inj hc4; simp [own_dec, e] <;> rfl) | (simp only [Value.ref.injEq] at hc4 hc11 hc18; simp [own_dec, *] <;> rfl) | (simp only [Value.ref.injEq] at hc4 hc11; simp [own_dec, *] <;> rfl)), rfl⟩
    · -- pc 14 (on: not (.ref a) = (.ref (t 17)))
      refine g_aloadN w d2_14 rfl rfl 15 rfl ?_
      refine g_gets w (show Sta Z Z.heap "tidestone/parquet/ParquetColumn$Type" "DECIMAL_FIXED" "Ltidestone/parquet/ParquetColumn$Type;" (.ref (t 18)) from (hW.1 18 (by decide)).1) d2_15 17 rfl 18 rfl (fun T w => ?_)
      refine g_acmp_ne w d2_18 rfl rfl 25 (by decide) (by decide) 21 rfl (fun hc18 => ?_) (fun hc18 => ?_)
      · -- pc 25 (taken: not (.ref a) = (.ref (t 18)))
        refine g_iconst w d2_25 (0 : Int32) rfl 26 rfl ?_
        exact g_iretn w (by simp) d2_26 (by decide) (by decide) ⟨congrArg (fun z => some (Value.int z)) (by first | (have e := Value.ref.inj hc4; simp [own_dec, e]; done) | (have e := Value.ref.inj hc4; simp [own_dec, e] <;> rfl) | (simp only [Value.ref.injEq] at hc4 hc11 hc18; simp [own_dec, *] <;> rfl) | (simp only [Value.ref.injEq] at hc4 hc11; simp [own_dec, *] <;> rfl)), rfl⟩
      · -- pc 21 (on: (.ref a) = (.ref (t 18)))
        refine g_iconst w d2_21 (1 : Int32) rfl 22 rfl ?_
        refine g_goto w d2_22 26 (by decide) (by decide) ?_
        exact g_iretn w (by simp) d2_26 (by decide) (by decide) ⟨congrArg (fun z => some (Value.int z)) (by first | (have e := Value.ref.inj hc4; simp [own_dec, e]; done) | (have e := Value.ref.inj hc4; simp [own_dec, e] <;> rfl) | (simp only [Value.ref.injEq] at hc4 hc11 hc18; simp [own_dec, *] <;> rfl) | (simp only [Value.ref.injEq] at hc4 hc11; simp [own_dec, *] <;> rfl)), rfl⟩
theorem d3_0 : decode prog_91_method_4_code 0 = .ok (.aload_n 0, 1) := by decide +kernel
theorem d3_1 : decode prog_91_method_4_code 1 = .ok (.getfield 80, 3) := by decide +kernel
theorem d3_4 : decode prog_91_method_4_code 4 = .ok (.areturn, 1) := by decide +kernel
theorem pn_3 : plainFor (⟨"tidestone/parquet/ParquetColumn$Type", "physicalType", "()Ltidestone/parquet/PhysicalType;"⟩ : MethodName) = true := plainFor_of_name (by first | (simp [plainName, overriddenIn]; done) | decide +kernel)
set_option maxRecDepth 65536 in
set_option maxHeartbeats 40000000 in
theorem rm3 (l : Launch) (Z : State) (a0 : Array Value) (hw : ∀ d ∈ tables_1, d.before a0 Z = true) (n0 : Nat) (a b : Addr) (L : HL) (F : Fld Z Z.heap a "tidestone/parquet/ParquetColumn$Type" "physicalType" "Ltidestone/parquet/PhysicalType;" (.ref b)) :
    Con l (⟨"tidestone/parquet/ParquetColumn$Type", "physicalType", "()Ltidestone/parquet/PhysicalType;"⟩ : MethodName) prog_91_method_4_code 1 (some (.object "tidestone/parquet/PhysicalType")) ({ frames := 0, cells := 0, slots := 0, locals := 0 } : Room) Z n0 #[(.ref a)] L (fun v L' => v = some (.ref b) ∧ L' = L) := by
  refine Con.of (ws := tables_1) (a0 := a0) pn_3 hw ?_
  intro p e s m below meth cde T kb w
  refine g_entry #[.val (.ref a)] (by first | (simp [entryFrame, mkF, argsToLocals, Value.category]; done) | rfl) ?_
  refine g_aloadN w d3_0 rfl rfl 1 rfl ?_
  refine g_getfO w F d3_1 24 rfl 4 rfl (fun T w => ?_)
  exact g_aret w d3_4 rfl rfl rfl (by decide) (by decide) ⟨rfl, rfl⟩
theorem pd_0 : parseMethodDescriptor "(I)Ltidestone/parquet/ParquetColumn$Type;" = some ⟨[.int], some (.object "tidestone/parquet/ParquetColumn$Type")⟩ := by decide +kernel
theorem pd_1 : parseMethodDescriptor "()Z" = some ⟨[], some .boolean⟩ := by decide +kernel
theorem pd_2 : parseMethodDescriptor "()Ltidestone/parquet/PhysicalType;" = some ⟨[], some (.object "tidestone/parquet/PhysicalType")⟩ := by decide +kernel
theorem pn_0 : plainFor x = true := plainFor_of_name (by first | (simp [plainName, overriddenIn, x]; done) | decide +kernel)
set_option maxRecDepth 65536 in
set_option maxHeartbeats 40000000 in
theorem rm0 (l : Launch) (Z : State) (a0 : Array Value) (hw : ∀ d ∈ tables_1, d.before a0 Z = true) (n0 : Nat) (u : Int32) (t p' : Nat → Addr) (hW : own_W Z t p') :
    Con l x code maxLocals ret room_1 Z n0 #[(.int u)] ([]) (fun v _ => v = some (.int 1)) := by
  refine Con.of (ws := tables_1) (a0 := a0) pn_0 hw ?_
  intro p e s m below meth cde T kb w
  refine g_entry #[.val (.int u), .unset, .unset, .unset, .unset, .unset] (by first | (simp [entryFrame, mkF, argsToLocals, Value.category, maxLocals]; done) | rfl) ?_
  refine g_iloadN w at_0 rfl 1 rfl ?_
  refine g_ldci w at_1 0 rfl 3 rfl ?_
  refine g_iand w at_3 4 rfl ?_
  refine g_bipush w at_4 (19 : Int32) rfl 6 rfl ?_
  refine g_irem w at_6 (by decide) 7 rfl ?_
  rcases own_k u with hn | hn | hn | hn | hn | hn | hn | hn | hn | hn | hn | hn | hn | hn | hn | hn | hn | hn | hn
  · -- pc 7 k = 0
    refine g_int (x' := (0 : Int32)) hn ?_
    refine g_istoreN w at_7 8 rfl rfl #[.val (.int u), .val (.int (0 : Int32)), .unset, .unset, .unset, .unset] rfl ?_
    refine g_iloadN w at_8 rfl 9 rfl ?_
    refine g_static w (argsL := [(.int (0 : Int32))]) (rest := []) (rmP_0 l Z a0 hw n0 t p' ([]) hW) at_9 1 rfl 2 rfl 3 rfl 4 rfl ⟨by decide, by decide⟩ pd_0 rfl rfl rfl 0 rfl (by decide) (by decide) (by decide) (by decide) 12 rfl (fun T v L w h => ?_)
    obtain ⟨rfl, hL⟩ := h
    replace w := w.to hL
    refine g_astoreN w at_12 13 rfl rfl #[.val (.int u), .val (.int (0 : Int32)), .val (.ref (t 0)), .unset, .unset, .unset] rfl ?_
    refine g_iloadN w at_13 rfl 14 rfl ?_
    refine g_bipush w at_14 (16 : Int32) rfl 16 rfl ?_
    refine g_icmp_lt w at_16 23 (by decide) (by decide) 19 rfl (fun hc16 => ?_) (fun h => absurd (by decide) h)
    refine g_iconst w at_23 (0 : Int32) rfl 24 rfl ?_
    refine g_istoreN w at_24 25 rfl rfl #[.val (.int u), .val (.int (0 : Int32)), .val (.ref (t 0)), .val (.int (0 : Int32)), .unset, .unset] rfl ?_
    refine g_aloadN w at_25 rfl rfl 26 rfl ?_
    refine g_virtO w (argsL := []) (rest := []) (rm2 l Z a0 hw n0 t p' (t 0) ([]) hW) at_26 (hW.1 0 (by decide)).2.1 8 rfl 9 rfl 6 rfl 12 rfl 11 rfl 10 rfl ⟨by decide, by decide⟩ pd_1 rfl rfl rfl 0 rfl (by decide) (by decide) (by decide) (by decide) 29 rfl (fun T v L w h => ?_)
    obtain ⟨rfl, hL⟩ := h
    replace w := w.to hL
    refine g_int (x' := (0 : Int32)) (by simp [own_dec, own_tne hW (i := 0) (j := 16) (by decide) (by decide) (by decide), own_tne hW (i := 0) (j := 17) (by decide) (by decide) (by decide), own_tne hW (i := 0) (j := 18) (by decide) (by decide) (by decide)]) ?_
    refine g_istore w at_29 31 rfl rfl #[.val (.int u), .val (.int (0 : Int32)), .val (.ref (t 0)), .val (.int (0 : Int32)), .val (.int (0 : Int32)), .unset] rfl ?_
    refine g_iload w at_31 rfl 33 rfl ?_
    refine g_iloadN w at_33 rfl 34 rfl ?_
    refine g_icmp_eq w at_34 39 (by decide) (by decide) 37 rfl (fun hc34 => ?_) (fun h => absurd (by decide) h)
    refine g_aloadN w at_39 rfl rfl 40 rfl ?_
    refine g_virtO w (argsL := []) (rest := []) (rm3 l Z a0 hw n0 (t 0) (p' 0) ([]) (hW.1 0 (by decide)).2.2.2) at_40 (hW.1 0 (by decide)).2.1 19 rfl 20 rfl 6 rfl 23 rfl 22 rfl 21 rfl ⟨by decide, by decide⟩ pd_2 rfl rfl rfl 0 rfl (by decide) (by decide) (by decide) (by decide) 43 rfl (fun T v L w h => ?_)
    obtain ⟨rfl, hL⟩ := h
    replace w := w.to hL
    refine g_astore w at_43 45 rfl rfl #[.val (.int u), .val (.int (0 : Int32)), .val (.ref (t 0)), .val (.int (0 : Int32)), .val (.int (0 : Int32)), .val (.ref (p' 0))] rfl ?_
    refine g_iload w at_45 rfl 47 rfl ?_
    refine g_if_eq w at_47 76 (by decide) (by decide) 50 rfl (fun hc47 => ?_) (fun h => absurd (by decide) h)
    refine g_aload w at_76 rfl rfl 78 rfl ?_
    refine g_gets w (show Sta Z Z.heap "tidestone/parquet/PhysicalType" "FIXED_LEN_BYTE_ARRAY" "Ltidestone/parquet/PhysicalType;" (.ref (p' 7)) from (hW.2 7 (by decide)).1) at_78 28 rfl 81 rfl (fun T w => ?_)
    refine g_acmp_ne w at_81 rfl rfl 91 (by decide) (by decide) 84 rfl (fun hc81 => ?_) (fun h => absurd h (fun h => own_pne hW (i := 0) (j := 7) (by decide) (by decide) (by decide) (Value.ref.inj h)))
    refine g_iconst w at_91 (1 : Int32) rfl 92 rfl ?_
    exact g_iretn w (by simp) at_92 (by decide) (by decide) rfl
  · -- pc 7 k = 1
    refine g_int (x' := (1 : Int32)) hn ?_
    refine g_istoreN w at_7 8 rfl rfl #[.val (.int u), .val (.int (1 : Int32)), .unset, .unset, .unset, .unset] rfl ?_
    refine g_iloadN w at_8 rfl 9 rfl ?_
    refine g_static w (argsL := [(.int (1 : Int32))]) (rest := []) (rmP_1 l Z a0 hw n0 t p' ([]) hW) at_9 1 rfl 2 rfl 3 rfl 4 rfl ⟨by decide, by decide⟩ pd_0 rfl rfl rfl 0 rfl (by decide) (by decide) (by decide) (by decide) 12 rfl (fun T v L w h => ?_)
    obtain ⟨rfl, hL⟩ := h
    replace w := w.to hL
    refine g_astoreN w at_12 13 rfl rfl #[.val (.int u), .val (.int (1 : Int32)), .val (.ref (t 1)), .unset, .unset, .unset] rfl ?_
    refine g_iloadN w at_13 rfl 14 rfl ?_
    refine g_bipush w at_14 (16 : Int32) rfl 16 rfl ?_
    refine g_icmp_lt w at_16 23 (by decide) (by decide) 19 rfl (fun hc16 => ?_) (fun h => absurd (by decide) h)
    refine g_iconst w at_23 (0 : Int32) rfl 24 rfl ?_
    refine g_istoreN w at_24 25 rfl rfl #[.val (.int u), .val (.int (1 : Int32)), .val (.ref (t 1)), .val (.int (0 : Int32)), .unset, .unset] rfl ?_
    refine g_aloadN w at_25 rfl rfl 26 rfl ?_
    refine g_virtO w (argsL := []) (rest := []) (rm2 l Z a0 hw n0 t p' (t 1) ([]) hW) at_26 (hW.1 1 (by decide)).2.1 8 rfl 9 rfl 6 rfl 12 rfl 11 rfl 10 rfl ⟨by decide, by decide⟩ pd_1 rfl rfl rfl 0 rfl (by decide) (by decide) (by decide) (by decide) 29 rfl (fun T v L w h => ?_)
    obtain ⟨rfl, hL⟩ := h
    replace w := w.to hL
    refine g_int (x' := (0 : Int32)) (by simp [own_dec, own_tne hW (i := 1) (j := 16) (by decide) (by decide) (by decide), own_tne hW (i := 1) (j := 17) (by decide) (by decide) (by decide), own_tne hW (i := 1) (j := 18) (by decide) (by decide) (by decide)]) ?_
    refine g_istore w at_29 31 rfl rfl #[.val (.int u), .val (.int (1 : Int32)), .val (.ref (t 1)), .val (.int (0 : Int32)), .val (.int (0 : Int32)), .unset] rfl ?_
    refine g_iload w at_31 rfl 33 rfl ?_
    refine g_iloadN w at_33 rfl 34 rfl ?_
    refine g_icmp_eq w at_34 39 (by decide) (by decide) 37 rfl (fun hc34 => ?_) (fun h => absurd (by decide) h)
    refine g_aloadN w at_39 rfl rfl 40 rfl ?_
    refine g_virtO w (argsL := []) (rest := []) (rm3 l Z a0 hw n0 (t 1) (p' 1) ([]) (hW.1 1 (by decide)).2.2.2) at_40 (hW.1 1 (by decide)).2.1 19 rfl 20 rfl 6 rfl 23 rfl 22 rfl 21 rfl ⟨by decide, by decide⟩ pd_2 rfl rfl rfl 0 rfl (by decide) (by decide) (by decide) (by decide) 43 rfl (fun T v L w h => ?_)
    obtain ⟨rfl, hL⟩ := h
    replace w := w.to hL
    refine g_astore w at_43 45 rfl rfl #[.val (.int u), .val (.int (1 : Int32)), .val (.ref (t 1)), .val (.int (0 : Int32)), .val (.int (0 : Int32)), .val (.ref (p' 1))] rfl ?_
    refine g_iload w at_45 rfl 47 rfl ?_
    refine g_if_eq w at_47 76 (by decide) (by decide) 50 rfl (fun hc47 => ?_) (fun h => absurd (by decide) h)
    refine g_aload w at_76 rfl rfl 78 rfl ?_
    refine g_gets w (show Sta Z Z.heap "tidestone/parquet/PhysicalType" "FIXED_LEN_BYTE_ARRAY" "Ltidestone/parquet/PhysicalType;" (.ref (p' 7)) from (hW.2 7 (by decide)).1) at_78 28 rfl 81 rfl (fun T w => ?_)
    refine g_acmp_ne w at_81 rfl rfl 91 (by decide) (by decide) 84 rfl (fun hc81 => ?_) (fun h => absurd h (fun h => own_pne hW (i := 1) (j := 7) (by decide) (by decide) (by decide) (Value.ref.inj h)))
    refine g_iconst w at_91 (1 : Int32) rfl 92 rfl ?_
    exact g_iretn w (by simp) at_92 (by decide) (by decide) rfl
  · -- pc 7 k = 2
    refine g_int (x' := (2 : Int32)) hn ?_
    refine g_istoreN w at_7 8 rfl rfl #[.val (.int u), .val (.int (2 : Int32)), .unset, .unset, .unset, .unset] rfl ?_
    refine g_iloadN w at_8 rfl 9 rfl ?_
    refine g_static w (argsL := [(.int (2 : Int32))]) (rest := []) (rmP_2 l Z a0 hw n0 t p' ([]) hW) at_9 1 rfl 2 rfl 3 rfl 4 rfl ⟨by decide, by decide⟩ pd_0 rfl rfl rfl 0 rfl (by decide) (by decide) (by decide) (by decide) 12 rfl (fun T v L w h => ?_)
    obtain ⟨rfl, hL⟩ := h
    replace w := w.to hL
    refine g_astoreN w at_12 13 rfl rfl #[.val (.int u), .val (.int (2 : Int32)), .val (.ref (t 2)), .unset, .unset, .unset] rfl ?_
    refine g_iloadN w at_13 rfl 14 rfl ?_
    refine g_bipush w at_14 (16 : Int32) rfl 16 rfl ?_
    refine g_icmp_lt w at_16 23 (by decide) (by decide) 19 rfl (fun hc16 => ?_) (fun h => absurd (by decide) h)
    refine g_iconst w at_23 (0 : Int32) rfl 24 rfl ?_
    refine g_istoreN w at_24 25 rfl rfl #[.val (.int u), .val (.int (2 : Int32)), .val (.ref (t 2)), .val (.int (0 : Int32)), .unset, .unset] rfl ?_
    refine g_aloadN w at_25 rfl rfl 26 rfl ?_
    refine g_virtO w (argsL := []) (rest := []) (rm2 l Z a0 hw n0 t p' (t 2) ([]) hW) at_26 (hW.1 2 (by decide)).2.1 8 rfl 9 rfl 6 rfl 12 rfl 11 rfl 10 rfl ⟨by decide, by decide⟩ pd_1 rfl rfl rfl 0 rfl (by decide) (by decide) (by decide) (by decide) 29 rfl (fun T v L w h => ?_)
    obtain ⟨rfl, hL⟩ := h
    replace w := w.to hL
    refine g_int (x' := (0 : Int32)) (by simp [own_dec, own_tne hW (i := 2) (j := 16) (by decide) (by decide) (by decide), own_tne hW (i := 2) (j := 17) (by decide) (by decide) (by decide), own_tne hW (i := 2) (j := 18) (by decide) (by decide) (by decide)]) ?_
    refine g_istore w at_29 31 rfl rfl #[.val (.int u), .val (.int (2 : Int32)), .val (.ref (t 2)), .val (.int (0 : Int32)), .val (.int (0 : Int32)), .unset] rfl ?_
    refine g_iload w at_31 rfl 33 rfl ?_
    refine g_iloadN w at_33 rfl 34 rfl ?_
    refine g_icmp_eq w at_34 39 (by decide) (by decide) 37 rfl (fun hc34 => ?_) (fun h => absurd (by decide) h)
    refine g_aloadN w at_39 rfl rfl 40 rfl ?_
    refine g_virtO w (argsL := []) (rest := []) (rm3 l Z a0 hw n0 (t 2) (p' 1) ([]) (hW.1 2 (by decide)).2.2.2) at_40 (hW.1 2 (by decide)).2.1 19 rfl 20 rfl 6 rfl 23 rfl 22 rfl 21 rfl ⟨by decide, by decide⟩ pd_2 rfl rfl rfl 0 rfl (by decide) (by decide) (by decide) (by decide) 43 rfl (fun T v L w h => ?_)
    obtain ⟨rfl, hL⟩ := h
    replace w := w.to hL
    refine g_astore w at_43 45 rfl rfl #[.val (.int u), .val (.int (2 : Int32)), .val (.ref (t 2)), .val (.int (0 : Int32)), .val (.int (0 : Int32)), .val (.ref (p' 1))] rfl ?_
    refine g_iload w at_45 rfl 47 rfl ?_
    refine g_if_eq w at_47 76 (by decide) (by decide) 50 rfl (fun hc47 => ?_) (fun h => absurd (by decide) h)
    refine g_aload w at_76 rfl rfl 78 rfl ?_
    refine g_gets w (show Sta Z Z.heap "tidestone/parquet/PhysicalType" "FIXED_LEN_BYTE_ARRAY" "Ltidestone/parquet/PhysicalType;" (.ref (p' 7)) from (hW.2 7 (by decide)).1) at_78 28 rfl 81 rfl (fun T w => ?_)
    refine g_acmp_ne w at_81 rfl rfl 91 (by decide) (by decide) 84 rfl (fun hc81 => ?_) (fun h => absurd h (fun h => own_pne hW (i := 1) (j := 7) (by decide) (by decide) (by decide) (Value.ref.inj h)))
    refine g_iconst w at_91 (1 : Int32) rfl 92 rfl ?_
    exact g_iretn w (by simp) at_92 (by decide) (by decide) rfl
  · -- pc 7 k = 3
    refine g_int (x' := (3 : Int32)) hn ?_
    refine g_istoreN w at_7 8 rfl rfl #[.val (.int u), .val (.int (3 : Int32)), .unset, .unset, .unset, .unset] rfl ?_
    refine g_iloadN w at_8 rfl 9 rfl ?_
    refine g_static w (argsL := [(.int (3 : Int32))]) (rest := []) (rmP_3 l Z a0 hw n0 t p' ([]) hW) at_9 1 rfl 2 rfl 3 rfl 4 rfl ⟨by decide, by decide⟩ pd_0 rfl rfl rfl 0 rfl (by decide) (by decide) (by decide) (by decide) 12 rfl (fun T v L w h => ?_)
    obtain ⟨rfl, hL⟩ := h
    replace w := w.to hL
    refine g_astoreN w at_12 13 rfl rfl #[.val (.int u), .val (.int (3 : Int32)), .val (.ref (t 3)), .unset, .unset, .unset] rfl ?_
    refine g_iloadN w at_13 rfl 14 rfl ?_
    refine g_bipush w at_14 (16 : Int32) rfl 16 rfl ?_
    refine g_icmp_lt w at_16 23 (by decide) (by decide) 19 rfl (fun hc16 => ?_) (fun h => absurd (by decide) h)
    refine g_iconst w at_23 (0 : Int32) rfl 24 rfl ?_
    refine g_istoreN w at_24 25 rfl rfl #[.val (.int u), .val (.int (3 : Int32)), .val (.ref (t 3)), .val (.int (0 : Int32)), .unset, .unset] rfl ?_
    refine g_aloadN w at_25 rfl rfl 26 rfl ?_
    refine g_virtO w (argsL := []) (rest := []) (rm2 l Z a0 hw n0 t p' (t 3) ([]) hW) at_26 (hW.1 3 (by decide)).2.1 8 rfl 9 rfl 6 rfl 12 rfl 11 rfl 10 rfl ⟨by decide, by decide⟩ pd_1 rfl rfl rfl 0 rfl (by decide) (by decide) (by decide) (by decide) 29 rfl (fun T v L w h => ?_)
    obtain ⟨rfl, hL⟩ := h
    replace w := w.to hL
    refine g_int (x' := (0 : Int32)) (by simp [own_dec, own_tne hW (i := 3) (j := 16) (by decide) (by decide) (by decide), own_tne hW (i := 3) (j := 17) (by decide) (by decide) (by decide), own_tne hW (i := 3) (j := 18) (by decide) (by decide) (by decide)]) ?_
    refine g_istore w at_29 31 rfl rfl #[.val (.int u), .val (.int (3 : Int32)), .val (.ref (t 3)), .val (.int (0 : Int32)), .val (.int (0 : Int32)), .unset] rfl ?_
    refine g_iload w at_31 rfl 33 rfl ?_
    refine g_iloadN w at_33 rfl 34 rfl ?_
    refine g_icmp_eq w at_34 39 (by decide) (by decide) 37 rfl (fun hc34 => ?_) (fun h => absurd (by decide) h)
    refine g_aloadN w at_39 rfl rfl 40 rfl ?_
    refine g_virtO w (argsL := []) (rest := []) (rm3 l Z a0 hw n0 (t 3) (p' 1) ([]) (hW.1 3 (by decide)).2.2.2) at_40 (hW.1 3 (by decide)).2.1 19 rfl 20 rfl 6 rfl 23 rfl 22 rfl 21 rfl ⟨by decide, by decide⟩ pd_2 rfl rfl rfl 0 rfl (by decide) (by decide) (by decide) (by decide) 43 rfl (fun T v L w h => ?_)
    obtain ⟨rfl, hL⟩ := h
    replace w := w.to hL
    refine g_astore w at_43 45 rfl rfl #[.val (.int u), .val (.int (3 : Int32)), .val (.ref (t 3)), .val (.int (0 : Int32)), .val (.int (0 : Int32)), .val (.ref (p' 1))] rfl ?_
    refine g_iload w at_45 rfl 47 rfl ?_
    refine g_if_eq w at_47 76 (by decide) (by decide) 50 rfl (fun hc47 => ?_) (fun h => absurd (by decide) h)
    refine g_aload w at_76 rfl rfl 78 rfl ?_
    refine g_gets w (show Sta Z Z.heap "tidestone/parquet/PhysicalType" "FIXED_LEN_BYTE_ARRAY" "Ltidestone/parquet/PhysicalType;" (.ref (p' 7)) from (hW.2 7 (by decide)).1) at_78 28 rfl 81 rfl (fun T w => ?_)
    refine g_acmp_ne w at_81 rfl rfl 91 (by decide) (by decide) 84 rfl (fun hc81 => ?_) (fun h => absurd h (fun h => own_pne hW (i := 1) (j := 7) (by decide) (by decide) (by decide) (Value.ref.inj h)))
    refine g_iconst w at_91 (1 : Int32) rfl 92 rfl ?_
    exact g_iretn w (by simp) at_92 (by decide) (by decide) rfl
  · -- pc 7 k = 4
    refine g_int (x' := (4 : Int32)) hn ?_
    refine g_istoreN w at_7 8 rfl rfl #[.val (.int u), .val (.int (4 : Int32)), .unset, .unset, .unset, .unset] rfl ?_
    refine g_iloadN w at_8 rfl 9 rfl ?_
    refine g_static w (argsL := [(.int (4 : Int32))]) (rest := []) (rmP_4 l Z a0 hw n0 t p' ([]) hW) at_9 1 rfl 2 rfl 3 rfl 4 rfl ⟨by decide, by decide⟩ pd_0 rfl rfl rfl 0 rfl (by decide) (by decide) (by decide) (by decide) 12 rfl (fun T v L w h => ?_)
    obtain ⟨rfl, hL⟩ := h
    replace w := w.to hL
    refine g_astoreN w at_12 13 rfl rfl #[.val (.int u), .val (.int (4 : Int32)), .val (.ref (t 4)), .unset, .unset, .unset] rfl ?_
    refine g_iloadN w at_13 rfl 14 rfl ?_
    refine g_bipush w at_14 (16 : Int32) rfl 16 rfl ?_
    refine g_icmp_lt w at_16 23 (by decide) (by decide) 19 rfl (fun hc16 => ?_) (fun h => absurd (by decide) h)
    refine g_iconst w at_23 (0 : Int32) rfl 24 rfl ?_
    refine g_istoreN w at_24 25 rfl rfl #[.val (.int u), .val (.int (4 : Int32)), .val (.ref (t 4)), .val (.int (0 : Int32)), .unset, .unset] rfl ?_
    refine g_aloadN w at_25 rfl rfl 26 rfl ?_
    refine g_virtO w (argsL := []) (rest := []) (rm2 l Z a0 hw n0 t p' (t 4) ([]) hW) at_26 (hW.1 4 (by decide)).2.1 8 rfl 9 rfl 6 rfl 12 rfl 11 rfl 10 rfl ⟨by decide, by decide⟩ pd_1 rfl rfl rfl 0 rfl (by decide) (by decide) (by decide) (by decide) 29 rfl (fun T v L w h => ?_)
    obtain ⟨rfl, hL⟩ := h
    replace w := w.to hL
    refine g_int (x' := (0 : Int32)) (by simp [own_dec, own_tne hW (i := 4) (j := 16) (by decide) (by decide) (by decide), own_tne hW (i := 4) (j := 17) (by decide) (by decide) (by decide), own_tne hW (i := 4) (j := 18) (by decide) (by decide) (by decide)]) ?_
    refine g_istore w at_29 31 rfl rfl #[.val (.int u), .val (.int (4 : Int32)), .val (.ref (t 4)), .val (.int (0 : Int32)), .val (.int (0 : Int32)), .unset] rfl ?_
    refine g_iload w at_31 rfl 33 rfl ?_
    refine g_iloadN w at_33 rfl 34 rfl ?_
    refine g_icmp_eq w at_34 39 (by decide) (by decide) 37 rfl (fun hc34 => ?_) (fun h => absurd (by decide) h)
    refine g_aloadN w at_39 rfl rfl 40 rfl ?_
    refine g_virtO w (argsL := []) (rest := []) (rm3 l Z a0 hw n0 (t 4) (p' 2) ([]) (hW.1 4 (by decide)).2.2.2) at_40 (hW.1 4 (by decide)).2.1 19 rfl 20 rfl 6 rfl 23 rfl 22 rfl 21 rfl ⟨by decide, by decide⟩ pd_2 rfl rfl rfl 0 rfl (by decide) (by decide) (by decide) (by decide) 43 rfl (fun T v L w h => ?_)
    obtain ⟨rfl, hL⟩ := h
    replace w := w.to hL
    refine g_astore w at_43 45 rfl rfl #[.val (.int u), .val (.int (4 : Int32)), .val (.ref (t 4)), .val (.int (0 : Int32)), .val (.int (0 : Int32)), .val (.ref (p' 2))] rfl ?_
    refine g_iload w at_45 rfl 47 rfl ?_
    refine g_if_eq w at_47 76 (by decide) (by decide) 50 rfl (fun hc47 => ?_) (fun h => absurd (by decide) h)
    refine g_aload w at_76 rfl rfl 78 rfl ?_
    refine g_gets w (show Sta Z Z.heap "tidestone/parquet/PhysicalType" "FIXED_LEN_BYTE_ARRAY" "Ltidestone/parquet/PhysicalType;" (.ref (p' 7)) from (hW.2 7 (by decide)).1) at_78 28 rfl 81 rfl (fun T w => ?_)
    refine g_acmp_ne w at_81 rfl rfl 91 (by decide) (by decide) 84 rfl (fun hc81 => ?_) (fun h => absurd h (fun h => own_pne hW (i := 2) (j := 7) (by decide) (by decide) (by decide) (Value.ref.inj h)))
    refine g_iconst w at_91 (1 : Int32) rfl 92 rfl ?_
    exact g_iretn w (by simp) at_92 (by decide) (by decide) rfl
  · -- pc 7 k = 5
    refine g_int (x' := (5 : Int32)) hn ?_
    refine g_istoreN w at_7 8 rfl rfl #[.val (.int u), .val (.int (5 : Int32)), .unset, .unset, .unset, .unset] rfl ?_
    refine g_iloadN w at_8 rfl 9 rfl ?_
    refine g_static w (argsL := [(.int (5 : Int32))]) (rest := []) (rmP_5 l Z a0 hw n0 t p' ([]) hW) at_9 1 rfl 2 rfl 3 rfl 4 rfl ⟨by decide, by decide⟩ pd_0 rfl rfl rfl 0 rfl (by decide) (by decide) (by decide) (by decide) 12 rfl (fun T v L w h => ?_)
    obtain ⟨rfl, hL⟩ := h
    replace w := w.to hL
    refine g_astoreN w at_12 13 rfl rfl #[.val (.int u), .val (.int (5 : Int32)), .val (.ref (t 5)), .unset, .unset, .unset] rfl ?_
    refine g_iloadN w at_13 rfl 14 rfl ?_
    refine g_bipush w at_14 (16 : Int32) rfl 16 rfl ?_
    refine g_icmp_lt w at_16 23 (by decide) (by decide) 19 rfl (fun hc16 => ?_) (fun h => absurd (by decide) h)
    refine g_iconst w at_23 (0 : Int32) rfl 24 rfl ?_
    refine g_istoreN w at_24 25 rfl rfl #[.val (.int u), .val (.int (5 : Int32)), .val (.ref (t 5)), .val (.int (0 : Int32)), .unset, .unset] rfl ?_
    refine g_aloadN w at_25 rfl rfl 26 rfl ?_
    refine g_virtO w (argsL := []) (rest := []) (rm2 l Z a0 hw n0 t p' (t 5) ([]) hW) at_26 (hW.1 5 (by decide)).2.1 8 rfl 9 rfl 6 rfl 12 rfl 11 rfl 10 rfl ⟨by decide, by decide⟩ pd_1 rfl rfl rfl 0 rfl (by decide) (by decide) (by decide) (by decide) 29 rfl (fun T v L w h => ?_)
    obtain ⟨rfl, hL⟩ := h
    replace w := w.to hL
    refine g_int (x' := (0 : Int32)) (by simp [own_dec, own_tne hW (i := 5) (j := 16) (by decide) (by decide) (by decide), own_tne hW (i := 5) (j := 17) (by decide) (by decide) (by decide), own_tne hW (i := 5) (j := 18) (by decide) (by decide) (by decide)]) ?_
    refine g_istore w at_29 31 rfl rfl #[.val (.int u), .val (.int (5 : Int32)), .val (.ref (t 5)), .val (.int (0 : Int32)), .val (.int (0 : Int32)), .unset] rfl ?_
    refine g_iload w at_31 rfl 33 rfl ?_
    refine g_iloadN w at_33 rfl 34 rfl ?_
    refine g_icmp_eq w at_34 39 (by decide) (by decide) 37 rfl (fun hc34 => ?_) (fun h => absurd (by decide) h)
    refine g_aloadN w at_39 rfl rfl 40 rfl ?_
    refine g_virtO w (argsL := []) (rest := []) (rm3 l Z a0 hw n0 (t 5) (p' 4) ([]) (hW.1 5 (by decide)).2.2.2) at_40 (hW.1 5 (by decide)).2.1 19 rfl 20 rfl 6 rfl 23 rfl 22 rfl 21 rfl ⟨by decide, by decide⟩ pd_2 rfl rfl rfl 0 rfl (by decide) (by decide) (by decide) (by decide) 43 rfl (fun T v L w h => ?_)
    obtain ⟨rfl, hL⟩ := h
    replace w := w.to hL
    refine g_astore w at_43 45 rfl rfl #[.val (.int u), .val (.int (5 : Int32)), .val (.ref (t 5)), .val (.int (0 : Int32)), .val (.int (0 : Int32)), .val (.ref (p' 4))] rfl ?_
    refine g_iload w at_45 rfl 47 rfl ?_
    refine g_if_eq w at_47 76 (by decide) (by decide) 50 rfl (fun hc47 => ?_) (fun h => absurd (by decide) h)
    refine g_aload w at_76 rfl rfl 78 rfl ?_
    refine g_gets w (show Sta Z Z.heap "tidestone/parquet/PhysicalType" "FIXED_LEN_BYTE_ARRAY" "Ltidestone/parquet/PhysicalType;" (.ref (p' 7)) from (hW.2 7 (by decide)).1) at_78 28 rfl 81 rfl (fun T w => ?_)
    refine g_acmp_ne w at_81 rfl rfl 91 (by decide) (by decide) 84 rfl (fun hc81 => ?_) (fun h => absurd h (fun h => own_pne hW (i := 4) (j := 7) (by decide) (by decide) (by decide) (Value.ref.inj h)))
    refine g_iconst w at_91 (1 : Int32) rfl 92 rfl ?_
    exact g_iretn w (by simp) at_92 (by decide) (by decide) rfl
  · -- pc 7 k = 6
    refine g_int (x' := (6 : Int32)) hn ?_
    refine g_istoreN w at_7 8 rfl rfl #[.val (.int u), .val (.int (6 : Int32)), .unset, .unset, .unset, .unset] rfl ?_
    refine g_iloadN w at_8 rfl 9 rfl ?_
    refine g_static w (argsL := [(.int (6 : Int32))]) (rest := []) (rmP_6 l Z a0 hw n0 t p' ([]) hW) at_9 1 rfl 2 rfl 3 rfl 4 rfl ⟨by decide, by decide⟩ pd_0 rfl rfl rfl 0 rfl (by decide) (by decide) (by decide) (by decide) 12 rfl (fun T v L w h => ?_)
    obtain ⟨rfl, hL⟩ := h
    replace w := w.to hL
    refine g_astoreN w at_12 13 rfl rfl #[.val (.int u), .val (.int (6 : Int32)), .val (.ref (t 6)), .unset, .unset, .unset] rfl ?_
    refine g_iloadN w at_13 rfl 14 rfl ?_
    refine g_bipush w at_14 (16 : Int32) rfl 16 rfl ?_
    refine g_icmp_lt w at_16 23 (by decide) (by decide) 19 rfl (fun hc16 => ?_) (fun h => absurd (by decide) h)
    refine g_iconst w at_23 (0 : Int32) rfl 24 rfl ?_
    refine g_istoreN w at_24 25 rfl rfl #[.val (.int u), .val (.int (6 : Int32)), .val (.ref (t 6)), .val (.int (0 : Int32)), .unset, .unset] rfl ?_
    refine g_aloadN w at_25 rfl rfl 26 rfl ?_
    refine g_virtO w (argsL := []) (rest := []) (rm2 l Z a0 hw n0 t p' (t 6) ([]) hW) at_26 (hW.1 6 (by decide)).2.1 8 rfl 9 rfl 6 rfl 12 rfl 11 rfl 10 rfl ⟨by decide, by decide⟩ pd_1 rfl rfl rfl 0 rfl (by decide) (by decide) (by decide) (by decide) 29 rfl (fun T v L w h => ?_)
    obtain ⟨rfl, hL⟩ := h
    replace w := w.to hL
    refine g_int (x' := (0 : Int32)) (by simp [own_dec, own_tne hW (i := 6) (j := 16) (by decide) (by decide) (by decide), own_tne hW (i := 6) (j := 17) (by decide) (by decide) (by decide), own_tne hW (i := 6) (j := 18) (by decide) (by decide) (by decide)]) ?_
    refine g_istore w at_29 31 rfl rfl #[.val (.int u), .val (.int (6 : Int32)), .val (.ref (t 6)), .val (.int (0 : Int32)), .val (.int (0 : Int32)), .unset] rfl ?_
    refine g_iload w at_31 rfl 33 rfl ?_
    refine g_iloadN w at_33 rfl 34 rfl ?_
    refine g_icmp_eq w at_34 39 (by decide) (by decide) 37 rfl (fun hc34 => ?_) (fun h => absurd (by decide) h)
    refine g_aloadN w at_39 rfl rfl 40 rfl ?_
    refine g_virtO w (argsL := []) (rest := []) (rm3 l Z a0 hw n0 (t 6) (p' 5) ([]) (hW.1 6 (by decide)).2.2.2) at_40 (hW.1 6 (by decide)).2.1 19 rfl 20 rfl 6 rfl 23 rfl 22 rfl 21 rfl ⟨by decide, by decide⟩ pd_2 rfl rfl rfl 0 rfl (by decide) (by decide) (by decide) (by decide) 43 rfl (fun T v L w h => ?_)
    obtain ⟨rfl, hL⟩ := h
    replace w := w.to hL
    refine g_astore w at_43 45 rfl rfl #[.val (.int u), .val (.int (6 : Int32)), .val (.ref (t 6)), .val (.int (0 : Int32)), .val (.int (0 : Int32)), .val (.ref (p' 5))] rfl ?_
    refine g_iload w at_45 rfl 47 rfl ?_
    refine g_if_eq w at_47 76 (by decide) (by decide) 50 rfl (fun hc47 => ?_) (fun h => absurd (by decide) h)
    refine g_aload w at_76 rfl rfl 78 rfl ?_
    refine g_gets w (show Sta Z Z.heap "tidestone/parquet/PhysicalType" "FIXED_LEN_BYTE_ARRAY" "Ltidestone/parquet/PhysicalType;" (.ref (p' 7)) from (hW.2 7 (by decide)).1) at_78 28 rfl 81 rfl (fun T w => ?_)
    refine g_acmp_ne w at_81 rfl rfl 91 (by decide) (by decide) 84 rfl (fun hc81 => ?_) (fun h => absurd h (fun h => own_pne hW (i := 5) (j := 7) (by decide) (by decide) (by decide) (Value.ref.inj h)))
    refine g_iconst w at_91 (1 : Int32) rfl 92 rfl ?_
    exact g_iretn w (by simp) at_92 (by decide) (by decide) rfl
  · -- pc 7 k = 7
    refine g_int (x' := (7 : Int32)) hn ?_
    refine g_istoreN w at_7 8 rfl rfl #[.val (.int u), .val (.int (7 : Int32)), .unset, .unset, .unset, .unset] rfl ?_
    refine g_iloadN w at_8 rfl 9 rfl ?_
    refine g_static w (argsL := [(.int (7 : Int32))]) (rest := []) (rmP_7 l Z a0 hw n0 t p' ([]) hW) at_9 1 rfl 2 rfl 3 rfl 4 rfl ⟨by decide, by decide⟩ pd_0 rfl rfl rfl 0 rfl (by decide) (by decide) (by decide) (by decide) 12 rfl (fun T v L w h => ?_)
    obtain ⟨rfl, hL⟩ := h
    replace w := w.to hL
    refine g_astoreN w at_12 13 rfl rfl #[.val (.int u), .val (.int (7 : Int32)), .val (.ref (t 7)), .unset, .unset, .unset] rfl ?_
    refine g_iloadN w at_13 rfl 14 rfl ?_
    refine g_bipush w at_14 (16 : Int32) rfl 16 rfl ?_
    refine g_icmp_lt w at_16 23 (by decide) (by decide) 19 rfl (fun hc16 => ?_) (fun h => absurd (by decide) h)
    refine g_iconst w at_23 (0 : Int32) rfl 24 rfl ?_
    refine g_istoreN w at_24 25 rfl rfl #[.val (.int u), .val (.int (7 : Int32)), .val (.ref (t 7)), .val (.int (0 : Int32)), .unset, .unset] rfl ?_
    refine g_aloadN w at_25 rfl rfl 26 rfl ?_
    refine g_virtO w (argsL := []) (rest := []) (rm2 l Z a0 hw n0 t p' (t 7) ([]) hW) at_26 (hW.1 7 (by decide)).2.1 8 rfl 9 rfl 6 rfl 12 rfl 11 rfl 10 rfl ⟨by decide, by decide⟩ pd_1 rfl rfl rfl 0 rfl (by decide) (by decide) (by decide) (by decide) 29 rfl (fun T v L w h => ?_)
    obtain ⟨rfl, hL⟩ := h
    replace w := w.to hL
    refine g_int (x' := (0 : Int32)) (by simp [own_dec, own_tne hW (i := 7) (j := 16) (by decide) (by decide) (by decide), own_tne hW (i := 7) (j := 17) (by decide) (by decide) (by decide), own_tne hW (i := 7) (j := 18) (by decide) (by decide) (by decide)]) ?_
    refine g_istore w at_29 31 rfl rfl #[.val (.int u), .val (.int (7 : Int32)), .val (.ref (t 7)), .val (.int (0 : Int32)), .val (.int (0 : Int32)), .unset] rfl ?_
    refine g_iload w at_31 rfl 33 rfl ?_
    refine g_iloadN w at_33 rfl 34 rfl ?_
    refine g_icmp_eq w at_34 39 (by decide) (by decide) 37 rfl (fun hc34 => ?_) (fun h => absurd (by decide) h)
    refine g_aloadN w at_39 rfl rfl 40 rfl ?_
    refine g_virtO w (argsL := []) (rest := []) (rm3 l Z a0 hw n0 (t 7) (p' 6) ([]) (hW.1 7 (by decide)).2.2.2) at_40 (hW.1 7 (by decide)).2.1 19 rfl 20 rfl 6 rfl 23 rfl 22 rfl 21 rfl ⟨by decide, by decide⟩ pd_2 rfl rfl rfl 0 rfl (by decide) (by decide) (by decide) (by decide) 43 rfl (fun T v L w h => ?_)
    obtain ⟨rfl, hL⟩ := h
    replace w := w.to hL
    refine g_astore w at_43 45 rfl rfl #[.val (.int u), .val (.int (7 : Int32)), .val (.ref (t 7)), .val (.int (0 : Int32)), .val (.int (0 : Int32)), .val (.ref (p' 6))] rfl ?_
    refine g_iload w at_45 rfl 47 rfl ?_
    refine g_if_eq w at_47 76 (by decide) (by decide) 50 rfl (fun hc47 => ?_) (fun h => absurd (by decide) h)
    refine g_aload w at_76 rfl rfl 78 rfl ?_
    refine g_gets w (show Sta Z Z.heap "tidestone/parquet/PhysicalType" "FIXED_LEN_BYTE_ARRAY" "Ltidestone/parquet/PhysicalType;" (.ref (p' 7)) from (hW.2 7 (by decide)).1) at_78 28 rfl 81 rfl (fun T w => ?_)
    refine g_acmp_ne w at_81 rfl rfl 91 (by decide) (by decide) 84 rfl (fun hc81 => ?_) (fun h => absurd h (fun h => own_pne hW (i := 6) (j := 7) (by decide) (by decide) (by decide) (Value.ref.inj h)))
    refine g_iconst w at_91 (1 : Int32) rfl 92 rfl ?_
    exact g_iretn w (by simp) at_92 (by decide) (by decide) rfl
  · -- pc 7 k = 8
    refine g_int (x' := (8 : Int32)) hn ?_
    refine g_istoreN w at_7 8 rfl rfl #[.val (.int u), .val (.int (8 : Int32)), .unset, .unset, .unset, .unset] rfl ?_
    refine g_iloadN w at_8 rfl 9 rfl ?_
    refine g_static w (argsL := [(.int (8 : Int32))]) (rest := []) (rmP_8 l Z a0 hw n0 t p' ([]) hW) at_9 1 rfl 2 rfl 3 rfl 4 rfl ⟨by decide, by decide⟩ pd_0 rfl rfl rfl 0 rfl (by decide) (by decide) (by decide) (by decide) 12 rfl (fun T v L w h => ?_)
    obtain ⟨rfl, hL⟩ := h
    replace w := w.to hL
    refine g_astoreN w at_12 13 rfl rfl #[.val (.int u), .val (.int (8 : Int32)), .val (.ref (t 8)), .unset, .unset, .unset] rfl ?_
    refine g_iloadN w at_13 rfl 14 rfl ?_
    refine g_bipush w at_14 (16 : Int32) rfl 16 rfl ?_
    refine g_icmp_lt w at_16 23 (by decide) (by decide) 19 rfl (fun hc16 => ?_) (fun h => absurd (by decide) h)
    refine g_iconst w at_23 (0 : Int32) rfl 24 rfl ?_
    refine g_istoreN w at_24 25 rfl rfl #[.val (.int u), .val (.int (8 : Int32)), .val (.ref (t 8)), .val (.int (0 : Int32)), .unset, .unset] rfl ?_
    refine g_aloadN w at_25 rfl rfl 26 rfl ?_
    refine g_virtO w (argsL := []) (rest := []) (rm2 l Z a0 hw n0 t p' (t 8) ([]) hW) at_26 (hW.1 8 (by decide)).2.1 8 rfl 9 rfl 6 rfl 12 rfl 11 rfl 10 rfl ⟨by decide, by decide⟩ pd_1 rfl rfl rfl 0 rfl (by decide) (by decide) (by decide) (by decide) 29 rfl (fun T v L w h => ?_)
    obtain ⟨rfl, hL⟩ := h
    replace w := w.to hL
    refine g_int (x' := (0 : Int32)) (by simp [own_dec, own_tne hW (i := 8) (j := 16) (by decide) (by decide) (by decide), own_tne hW (i := 8) (j := 17) (by decide) (by decide) (by decide), own_tne hW (i := 8) (j := 18) (by decide) (by decide) (by decide)]) ?_
    refine g_istore w at_29 31 rfl rfl #[.val (.int u), .val (.int (8 : Int32)), .val (.ref (t 8)), .val (.int (0 : Int32)), .val (.int (0 : Int32)), .unset] rfl ?_
    refine g_iload w at_31 rfl 33 rfl ?_
    refine g_iloadN w at_33 rfl 34 rfl ?_
    refine g_icmp_eq w at_34 39 (by decide) (by decide) 37 rfl (fun hc34 => ?_) (fun h => absurd (by decide) h)
    refine g_aloadN w at_39 rfl rfl 40 rfl ?_
    refine g_virtO w (argsL := []) (rest := []) (rm3 l Z a0 hw n0 (t 8) (p' 6) ([]) (hW.1 8 (by decide)).2.2.2) at_40 (hW.1 8 (by decide)).2.1 19 rfl 20 rfl 6 rfl 23 rfl 22 rfl 21 rfl ⟨by decide, by decide⟩ pd_2 rfl rfl rfl 0 rfl (by decide) (by decide) (by decide) (by decide) 43 rfl (fun T v L w h => ?_)
    obtain ⟨rfl, hL⟩ := h
    replace w := w.to hL
    refine g_astore w at_43 45 rfl rfl #[.val (.int u), .val (.int (8 : Int32)), .val (.ref (t 8)), .val (.int (0 : Int32)), .val (.int (0 : Int32)), .val (.ref (p' 6))] rfl ?_
    refine g_iload w at_45 rfl 47 rfl ?_
    refine g_if_eq w at_47 76 (by decide) (by decide) 50 rfl (fun hc47 => ?_) (fun h => absurd (by decide) h)
    refine g_aload w at_76 rfl rfl 78 rfl ?_
    refine g_gets w (show Sta Z Z.heap "tidestone/parquet/PhysicalType" "FIXED_LEN_BYTE_ARRAY" "Ltidestone/parquet/PhysicalType;" (.ref (p' 7)) from (hW.2 7 (by decide)).1) at_78 28 rfl 81 rfl (fun T w => ?_)
    refine g_acmp_ne w at_81 rfl rfl 91 (by decide) (by decide) 84 rfl (fun hc81 => ?_) (fun h => absurd h (fun h => own_pne hW (i := 6) (j := 7) (by decide) (by decide) (by decide) (Value.ref.inj h)))
    refine g_iconst w at_91 (1 : Int32) rfl 92 rfl ?_
    exact g_iretn w (by simp) at_92 (by decide) (by decide) rfl
  · -- pc 7 k = 9
    refine g_int (x' := (9 : Int32)) hn ?_
    refine g_istoreN w at_7 8 rfl rfl #[.val (.int u), .val (.int (9 : Int32)), .unset, .unset, .unset, .unset] rfl ?_
    refine g_iloadN w at_8 rfl 9 rfl ?_
    refine g_static w (argsL := [(.int (9 : Int32))]) (rest := []) (rmP_9 l Z a0 hw n0 t p' ([]) hW) at_9 1 rfl 2 rfl 3 rfl 4 rfl ⟨by decide, by decide⟩ pd_0 rfl rfl rfl 0 rfl (by decide) (by decide) (by decide) (by decide) 12 rfl (fun T v L w h => ?_)
    obtain ⟨rfl, hL⟩ := h
    replace w := w.to hL
    refine g_astoreN w at_12 13 rfl rfl #[.val (.int u), .val (.int (9 : Int32)), .val (.ref (t 9)), .unset, .unset, .unset] rfl ?_
    refine g_iloadN w at_13 rfl 14 rfl ?_
    refine g_bipush w at_14 (16 : Int32) rfl 16 rfl ?_
    refine g_icmp_lt w at_16 23 (by decide) (by decide) 19 rfl (fun hc16 => ?_) (fun h => absurd (by decide) h)
    refine g_iconst w at_23 (0 : Int32) rfl 24 rfl ?_
    refine g_istoreN w at_24 25 rfl rfl #[.val (.int u), .val (.int (9 : Int32)), .val (.ref (t 9)), .val (.int (0 : Int32)), .unset, .unset] rfl ?_
    refine g_aloadN w at_25 rfl rfl 26 rfl ?_
    refine g_virtO w (argsL := []) (rest := []) (rm2 l Z a0 hw n0 t p' (t 9) ([]) hW) at_26 (hW.1 9 (by decide)).2.1 8 rfl 9 rfl 6 rfl 12 rfl 11 rfl 10 rfl ⟨by decide, by decide⟩ pd_1 rfl rfl rfl 0 rfl (by decide) (by decide) (by decide) (by decide) 29 rfl (fun T v L w h => ?_)
    obtain ⟨rfl, hL⟩ := h
    replace w := w.to hL
    refine g_int (x' := (0 : Int32)) (by simp [own_dec, own_tne hW (i := 9) (j := 16) (by decide) (by decide) (by decide), own_tne hW (i := 9) (j := 17) (by decide) (by decide) (by decide), own_tne hW (i := 9) (j := 18) (by decide) (by decide) (by decide)]) ?_
    refine g_istore w at_29 31 rfl rfl #[.val (.int u), .val (.int (9 : Int32)), .val (.ref (t 9)), .val (.int (0 : Int32)), .val (.int (0 : Int32)), .unset] rfl ?_
    refine g_iload w at_31 rfl 33 rfl ?_
    refine g_iloadN w at_33 rfl 34 rfl ?_
    refine g_icmp_eq w at_34 39 (by decide) (by decide) 37 rfl (fun hc34 => ?_) (fun h => absurd (by decide) h)
    refine g_aloadN w at_39 rfl rfl 40 rfl ?_
    refine g_virtO w (argsL := []) (rest := []) (rm3 l Z a0 hw n0 (t 9) (p' 1) ([]) (hW.1 9 (by decide)).2.2.2) at_40 (hW.1 9 (by decide)).2.1 19 rfl 20 rfl 6 rfl 23 rfl 22 rfl 21 rfl ⟨by decide, by decide⟩ pd_2 rfl rfl rfl 0 rfl (by decide) (by decide) (by decide) (by decide) 43 rfl (fun T v L w h => ?_)
    obtain ⟨rfl, hL⟩ := h
    replace w := w.to hL
    refine g_astore w at_43 45 rfl rfl #[.val (.int u), .val (.int (9 : Int32)), .val (.ref (t 9)), .val (.int (0 : Int32)), .val (.int (0 : Int32)), .val (.ref (p' 1))] rfl ?_
    refine g_iload w at_45 rfl 47 rfl ?_
    refine g_if_eq w at_47 76 (by decide) (by decide) 50 rfl (fun hc47 => ?_) (fun h => absurd (by decide) h)
    refine g_aload w at_76 rfl rfl 78 rfl ?_
    refine g_gets w (show Sta Z Z.heap "tidestone/parquet/PhysicalType" "FIXED_LEN_BYTE_ARRAY" "Ltidestone/parquet/PhysicalType;" (.ref (p' 7)) from (hW.2 7 (by decide)).1) at_78 28 rfl 81 rfl (fun T w => ?_)
    refine g_acmp_ne w at_81 rfl rfl 91 (by decide) (by decide) 84 rfl (fun hc81 => ?_) (fun h => absurd h (fun h => own_pne hW (i := 1) (j := 7) (by decide) (by decide) (by decide) (Value.ref.inj h)))
    refine g_iconst w at_91 (1 : Int32) rfl 92 rfl ?_
    exact g_iretn w (by simp) at_92 (by decide) (by decide) rfl
  · -- pc 7 k = 10
    refine g_int (x' := (10 : Int32)) hn ?_
    refine g_istoreN w at_7 8 rfl rfl #[.val (.int u), .val (.int (10 : Int32)), .unset, .unset, .unset, .unset] rfl ?_
    refine g_iloadN w at_8 rfl 9 rfl ?_
    refine g_static w (argsL := [(.int (10 : Int32))]) (rest := []) (rmP_10 l Z a0 hw n0 t p' ([]) hW) at_9 1 rfl 2 rfl 3 rfl 4 rfl ⟨by decide, by decide⟩ pd_0 rfl rfl rfl 0 rfl (by decide) (by decide) (by decide) (by decide) 12 rfl (fun T v L w h => ?_)
    obtain ⟨rfl, hL⟩ := h
    replace w := w.to hL
    refine g_astoreN w at_12 13 rfl rfl #[.val (.int u), .val (.int (10 : Int32)), .val (.ref (t 10)), .unset, .unset, .unset] rfl ?_
    refine g_iloadN w at_13 rfl 14 rfl ?_
    refine g_bipush w at_14 (16 : Int32) rfl 16 rfl ?_
    refine g_icmp_lt w at_16 23 (by decide) (by decide) 19 rfl (fun hc16 => ?_) (fun h => absurd (by decide) h)
    refine g_iconst w at_23 (0 : Int32) rfl 24 rfl ?_
    refine g_istoreN w at_24 25 rfl rfl #[.val (.int u), .val (.int (10 : Int32)), .val (.ref (t 10)), .val (.int (0 : Int32)), .unset, .unset] rfl ?_
    refine g_aloadN w at_25 rfl rfl 26 rfl ?_
    refine g_virtO w (argsL := []) (rest := []) (rm2 l Z a0 hw n0 t p' (t 10) ([]) hW) at_26 (hW.1 10 (by decide)).2.1 8 rfl 9 rfl 6 rfl 12 rfl 11 rfl 10 rfl ⟨by decide, by decide⟩ pd_1 rfl rfl rfl 0 rfl (by decide) (by decide) (by decide) (by decide) 29 rfl (fun T v L w h => ?_)
    obtain ⟨rfl, hL⟩ := h
    replace w := w.to hL
    refine g_int (x' := (0 : Int32)) (by simp [own_dec, own_tne hW (i := 10) (j := 16) (by decide) (by decide) (by decide), own_tne hW (i := 10) (j := 17) (by decide) (by decide) (by decide), own_tne hW (i := 10) (j := 18) (by decide) (by decide) (by decide)]) ?_
    refine g_istore w at_29 31 rfl rfl #[.val (.int u), .val (.int (10 : Int32)), .val (.ref (t 10)), .val (.int (0 : Int32)), .val (.int (0 : Int32)), .unset] rfl ?_
    refine g_iload w at_31 rfl 33 rfl ?_
    refine g_iloadN w at_33 rfl 34 rfl ?_
    refine g_icmp_eq w at_34 39 (by decide) (by decide) 37 rfl (fun hc34 => ?_) (fun h => absurd (by decide) h)
    refine g_aloadN w at_39 rfl rfl 40 rfl ?_
    refine g_virtO w (argsL := []) (rest := []) (rm3 l Z a0 hw n0 (t 10) (p' 1) ([]) (hW.1 10 (by decide)).2.2.2) at_40 (hW.1 10 (by decide)).2.1 19 rfl 20 rfl 6 rfl 23 rfl 22 rfl 21 rfl ⟨by decide, by decide⟩ pd_2 rfl rfl rfl 0 rfl (by decide) (by decide) (by decide) (by decide) 43 rfl (fun T v L w h => ?_)
    obtain ⟨rfl, hL⟩ := h
    replace w := w.to hL
    refine g_astore w at_43 45 rfl rfl #[.val (.int u), .val (.int (10 : Int32)), .val (.ref (t 10)), .val (.int (0 : Int32)), .val (.int (0 : Int32)), .val (.ref (p' 1))] rfl ?_
    refine g_iload w at_45 rfl 47 rfl ?_
    refine g_if_eq w at_47 76 (by decide) (by decide) 50 rfl (fun hc47 => ?_) (fun h => absurd (by decide) h)
    refine g_aload w at_76 rfl rfl 78 rfl ?_
    refine g_gets w (show Sta Z Z.heap "tidestone/parquet/PhysicalType" "FIXED_LEN_BYTE_ARRAY" "Ltidestone/parquet/PhysicalType;" (.ref (p' 7)) from (hW.2 7 (by decide)).1) at_78 28 rfl 81 rfl (fun T w => ?_)
    refine g_acmp_ne w at_81 rfl rfl 91 (by decide) (by decide) 84 rfl (fun hc81 => ?_) (fun h => absurd h (fun h => own_pne hW (i := 1) (j := 7) (by decide) (by decide) (by decide) (Value.ref.inj h)))
    refine g_iconst w at_91 (1 : Int32) rfl 92 rfl ?_
    exact g_iretn w (by simp) at_92 (by decide) (by decide) rfl
  · -- pc 7 k = 11
    refine g_int (x' := (11 : Int32)) hn ?_
    refine g_istoreN w at_7 8 rfl rfl #[.val (.int u), .val (.int (11 : Int32)), .unset, .unset, .unset, .unset] rfl ?_
    refine g_iloadN w at_8 rfl 9 rfl ?_
    refine g_static w (argsL := [(.int (11 : Int32))]) (rest := []) (rmP_11 l Z a0 hw n0 t p' ([]) hW) at_9 1 rfl 2 rfl 3 rfl 4 rfl ⟨by decide, by decide⟩ pd_0 rfl rfl rfl 0 rfl (by decide) (by decide) (by decide) (by decide) 12 rfl (fun T v L w h => ?_)
    obtain ⟨rfl, hL⟩ := h
    replace w := w.to hL
    refine g_astoreN w at_12 13 rfl rfl #[.val (.int u), .val (.int (11 : Int32)), .val (.ref (t 11)), .unset, .unset, .unset] rfl ?_
    refine g_iloadN w at_13 rfl 14 rfl ?_
    refine g_bipush w at_14 (16 : Int32) rfl 16 rfl ?_
    refine g_icmp_lt w at_16 23 (by decide) (by decide) 19 rfl (fun hc16 => ?_) (fun h => absurd (by decide) h)
    refine g_iconst w at_23 (0 : Int32) rfl 24 rfl ?_
    refine g_istoreN w at_24 25 rfl rfl #[.val (.int u), .val (.int (11 : Int32)), .val (.ref (t 11)), .val (.int (0 : Int32)), .unset, .unset] rfl ?_
    refine g_aloadN w at_25 rfl rfl 26 rfl ?_
    refine g_virtO w (argsL := []) (rest := []) (rm2 l Z a0 hw n0 t p' (t 11) ([]) hW) at_26 (hW.1 11 (by decide)).2.1 8 rfl 9 rfl 6 rfl 12 rfl 11 rfl 10 rfl ⟨by decide, by decide⟩ pd_1 rfl rfl rfl 0 rfl (by decide) (by decide) (by decide) (by decide) 29 rfl (fun T v L w h => ?_)
    obtain ⟨rfl, hL⟩ := h
    replace w := w.to hL
    refine g_int (x' := (0 : Int32)) (by simp [own_dec, own_tne hW (i := 11) (j := 16) (by decide) (by decide) (by decide), own_tne hW (i := 11) (j := 17) (by decide) (by decide) (by decide), own_tne hW (i := 11) (j := 18) (by decide) (by decide) (by decide)]) ?_
    refine g_istore w at_29 31 rfl rfl #[.val (.int u), .val (.int (11 : Int32)), .val (.ref (t 11)), .val (.int (0 : Int32)), .val (.int (0 : Int32)), .unset] rfl ?_
    refine g_iload w at_31 rfl 33 rfl ?_
    refine g_iloadN w at_33 rfl 34 rfl ?_
    refine g_icmp_eq w at_34 39 (by decide) (by decide) 37 rfl (fun hc34 => ?_) (fun h => absurd (by decide) h)
    refine g_aloadN w at_39 rfl rfl 40 rfl ?_
    refine g_virtO w (argsL := []) (rest := []) (rm3 l Z a0 hw n0 (t 11) (p' 2) ([]) (hW.1 11 (by decide)).2.2.2) at_40 (hW.1 11 (by decide)).2.1 19 rfl 20 rfl 6 rfl 23 rfl 22 rfl 21 rfl ⟨by decide, by decide⟩ pd_2 rfl rfl rfl 0 rfl (by decide) (by decide) (by decide) (by decide) 43 rfl (fun T v L w h => ?_)
    obtain ⟨rfl, hL⟩ := h
    replace w := w.to hL
    refine g_astore w at_43 45 rfl rfl #[.val (.int u), .val (.int (11 : Int32)), .val (.ref (t 11)), .val (.int (0 : Int32)), .val (.int (0 : Int32)), .val (.ref (p' 2))] rfl ?_
    refine g_iload w at_45 rfl 47 rfl ?_
    refine g_if_eq w at_47 76 (by decide) (by decide) 50 rfl (fun hc47 => ?_) (fun h => absurd (by decide) h)
    refine g_aload w at_76 rfl rfl 78 rfl ?_
    refine g_gets w (show Sta Z Z.heap "tidestone/parquet/PhysicalType" "FIXED_LEN_BYTE_ARRAY" "Ltidestone/parquet/PhysicalType;" (.ref (p' 7)) from (hW.2 7 (by decide)).1) at_78 28 rfl 81 rfl (fun T w => ?_)
    refine g_acmp_ne w at_81 rfl rfl 91 (by decide) (by decide) 84 rfl (fun hc81 => ?_) (fun h => absurd h (fun h => own_pne hW (i := 2) (j := 7) (by decide) (by decide) (by decide) (Value.ref.inj h)))
    refine g_iconst w at_91 (1 : Int32) rfl 92 rfl ?_
    exact g_iretn w (by simp) at_92 (by decide) (by decide) rfl
  · -- pc 7 k = 12
    refine g_int (x' := (12 : Int32)) hn ?_
    refine g_istoreN w at_7 8 rfl rfl #[.val (.int u), .val (.int (12 : Int32)), .unset, .unset, .unset, .unset] rfl ?_
    refine g_iloadN w at_8 rfl 9 rfl ?_
    refine g_static w (argsL := [(.int (12 : Int32))]) (rest := []) (rmP_12 l Z a0 hw n0 t p' ([]) hW) at_9 1 rfl 2 rfl 3 rfl 4 rfl ⟨by decide, by decide⟩ pd_0 rfl rfl rfl 0 rfl (by decide) (by decide) (by decide) (by decide) 12 rfl (fun T v L w h => ?_)
    obtain ⟨rfl, hL⟩ := h
    replace w := w.to hL
    refine g_astoreN w at_12 13 rfl rfl #[.val (.int u), .val (.int (12 : Int32)), .val (.ref (t 12)), .unset, .unset, .unset] rfl ?_
    refine g_iloadN w at_13 rfl 14 rfl ?_
    refine g_bipush w at_14 (16 : Int32) rfl 16 rfl ?_
    refine g_icmp_lt w at_16 23 (by decide) (by decide) 19 rfl (fun hc16 => ?_) (fun h => absurd (by decide) h)
    refine g_iconst w at_23 (0 : Int32) rfl 24 rfl ?_
    refine g_istoreN w at_24 25 rfl rfl #[.val (.int u), .val (.int (12 : Int32)), .val (.ref (t 12)), .val (.int (0 : Int32)), .unset, .unset] rfl ?_
    refine g_aloadN w at_25 rfl rfl 26 rfl ?_
    refine g_virtO w (argsL := []) (rest := []) (rm2 l Z a0 hw n0 t p' (t 12) ([]) hW) at_26 (hW.1 12 (by decide)).2.1 8 rfl 9 rfl 6 rfl 12 rfl 11 rfl 10 rfl ⟨by decide, by decide⟩ pd_1 rfl rfl rfl 0 rfl (by decide) (by decide) (by decide) (by decide) 29 rfl (fun T v L w h => ?_)
    obtain ⟨rfl, hL⟩ := h
    replace w := w.to hL
    refine g_int (x' := (0 : Int32)) (by simp [own_dec, own_tne hW (i := 12) (j := 16) (by decide) (by decide) (by decide), own_tne hW (i := 12) (j := 17) (by decide) (by decide) (by decide), own_tne hW (i := 12) (j := 18) (by decide) (by decide) (by decide)]) ?_
    refine g_istore w at_29 31 rfl rfl #[.val (.int u), .val (.int (12 : Int32)), .val (.ref (t 12)), .val (.int (0 : Int32)), .val (.int (0 : Int32)), .unset] rfl ?_
    refine g_iload w at_31 rfl 33 rfl ?_
    refine g_iloadN w at_33 rfl 34 rfl ?_
    refine g_icmp_eq w at_34 39 (by decide) (by decide) 37 rfl (fun hc34 => ?_) (fun h => absurd (by decide) h)
    refine g_aloadN w at_39 rfl rfl 40 rfl ?_
    refine g_virtO w (argsL := []) (rest := []) (rm3 l Z a0 hw n0 (t 12) (p' 2) ([]) (hW.1 12 (by decide)).2.2.2) at_40 (hW.1 12 (by decide)).2.1 19 rfl 20 rfl 6 rfl 23 rfl 22 rfl 21 rfl ⟨by decide, by decide⟩ pd_2 rfl rfl rfl 0 rfl (by decide) (by decide) (by decide) (by decide) 43 rfl (fun T v L w h => ?_)
    obtain ⟨rfl, hL⟩ := h
    replace w := w.to hL
    refine g_astore w at_43 45 rfl rfl #[.val (.int u), .val (.int (12 : Int32)), .val (.ref (t 12)), .val (.int (0 : Int32)), .val (.int (0 : Int32)), .val (.ref (p' 2))] rfl ?_
    refine g_iload w at_45 rfl 47 rfl ?_
    refine g_if_eq w at_47 76 (by decide) (by decide) 50 rfl (fun hc47 => ?_) (fun h => absurd (by decide) h)
    refine g_aload w at_76 rfl rfl 78 rfl ?_
    refine g_gets w (show Sta Z Z.heap "tidestone/parquet/PhysicalType" "FIXED_LEN_BYTE_ARRAY" "Ltidestone/parquet/PhysicalType;" (.ref (p' 7)) from (hW.2 7 (by decide)).1) at_78 28 rfl 81 rfl (fun T w => ?_)
    refine g_acmp_ne w at_81 rfl rfl 91 (by decide) (by decide) 84 rfl (fun hc81 => ?_) (fun h => absurd h (fun h => own_pne hW (i := 2) (j := 7) (by decide) (by decide) (by decide) (Value.ref.inj h)))
    refine g_iconst w at_91 (1 : Int32) rfl 92 rfl ?_
    exact g_iretn w (by simp) at_92 (by decide) (by decide) rfl
  · -- pc 7 k = 13
    refine g_int (x' := (13 : Int32)) hn ?_
    refine g_istoreN w at_7 8 rfl rfl #[.val (.int u), .val (.int (13 : Int32)), .unset, .unset, .unset, .unset] rfl ?_
    refine g_iloadN w at_8 rfl 9 rfl ?_
    refine g_static w (argsL := [(.int (13 : Int32))]) (rest := []) (rmP_13 l Z a0 hw n0 t p' ([]) hW) at_9 1 rfl 2 rfl 3 rfl 4 rfl ⟨by decide, by decide⟩ pd_0 rfl rfl rfl 0 rfl (by decide) (by decide) (by decide) (by decide) 12 rfl (fun T v L w h => ?_)
    obtain ⟨rfl, hL⟩ := h
    replace w := w.to hL
    refine g_astoreN w at_12 13 rfl rfl #[.val (.int u), .val (.int (13 : Int32)), .val (.ref (t 13)), .unset, .unset, .unset] rfl ?_
    refine g_iloadN w at_13 rfl 14 rfl ?_
    refine g_bipush w at_14 (16 : Int32) rfl 16 rfl ?_
    refine g_icmp_lt w at_16 23 (by decide) (by decide) 19 rfl (fun hc16 => ?_) (fun h => absurd (by decide) h)
    refine g_iconst w at_23 (0 : Int32) rfl 24 rfl ?_
    refine g_istoreN w at_24 25 rfl rfl #[.val (.int u), .val (.int (13 : Int32)), .val (.ref (t 13)), .val (.int (0 : Int32)), .unset, .unset] rfl ?_
    refine g_aloadN w at_25 rfl rfl 26 rfl ?_
    refine g_virtO w (argsL := []) (rest := []) (rm2 l Z a0 hw n0 t p' (t 13) ([]) hW) at_26 (hW.1 13 (by decide)).2.1 8 rfl 9 rfl 6 rfl 12 rfl 11 rfl 10 rfl ⟨by decide, by decide⟩ pd_1 rfl rfl rfl 0 rfl (by decide) (by decide) (by decide) (by decide) 29 rfl (fun T v L w h => ?_)
    obtain ⟨rfl, hL⟩ := h
    replace w := w.to hL
    refine g_int (x' := (0 : Int32)) (by simp [own_dec, own_tne hW (i := 13) (j := 16) (by decide) (by decide) (by decide), own_tne hW (i := 13) (j := 17) (by decide) (by decide) (by decide), own_tne hW (i := 13) (j := 18) (by decide) (by decide) (by decide)]) ?_
    refine g_istore w at_29 31 rfl rfl #[.val (.int u), .val (.int (13 : Int32)), .val (.ref (t 13)), .val (.int (0 : Int32)), .val (.int (0 : Int32)), .unset] rfl ?_
    refine g_iload w at_31 rfl 33 rfl ?_
    refine g_iloadN w at_33 rfl 34 rfl ?_
    refine g_icmp_eq w at_34 39 (by decide) (by decide) 37 rfl (fun hc34 => ?_) (fun h => absurd (by decide) h)
    refine g_aloadN w at_39 rfl rfl 40 rfl ?_
    refine g_virtO w (argsL := []) (rest := []) (rm3 l Z a0 hw n0 (t 13) (p' 2) ([]) (hW.1 13 (by decide)).2.2.2) at_40 (hW.1 13 (by decide)).2.1 19 rfl 20 rfl 6 rfl 23 rfl 22 rfl 21 rfl ⟨by decide, by decide⟩ pd_2 rfl rfl rfl 0 rfl (by decide) (by decide) (by decide) (by decide) 43 rfl (fun T v L w h => ?_)
    obtain ⟨rfl, hL⟩ := h
    replace w := w.to hL
    refine g_astore w at_43 45 rfl rfl #[.val (.int u), .val (.int (13 : Int32)), .val (.ref (t 13)), .val (.int (0 : Int32)), .val (.int (0 : Int32)), .val (.ref (p' 2))] rfl ?_
    refine g_iload w at_45 rfl 47 rfl ?_
    refine g_if_eq w at_47 76 (by decide) (by decide) 50 rfl (fun hc47 => ?_) (fun h => absurd (by decide) h)
    refine g_aload w at_76 rfl rfl 78 rfl ?_
    refine g_gets w (show Sta Z Z.heap "tidestone/parquet/PhysicalType" "FIXED_LEN_BYTE_ARRAY" "Ltidestone/parquet/PhysicalType;" (.ref (p' 7)) from (hW.2 7 (by decide)).1) at_78 28 rfl 81 rfl (fun T w => ?_)
    refine g_acmp_ne w at_81 rfl rfl 91 (by decide) (by decide) 84 rfl (fun hc81 => ?_) (fun h => absurd h (fun h => own_pne hW (i := 2) (j := 7) (by decide) (by decide) (by decide) (Value.ref.inj h)))
    refine g_iconst w at_91 (1 : Int32) rfl 92 rfl ?_
    exact g_iretn w (by simp) at_92 (by decide) (by decide) rfl
  · -- pc 7 k = 14
    refine g_int (x' := (14 : Int32)) hn ?_
    refine g_istoreN w at_7 8 rfl rfl #[.val (.int u), .val (.int (14 : Int32)), .unset, .unset, .unset, .unset] rfl ?_
    refine g_iloadN w at_8 rfl 9 rfl ?_
    refine g_static w (argsL := [(.int (14 : Int32))]) (rest := []) (rmP_14 l Z a0 hw n0 t p' ([]) hW) at_9 1 rfl 2 rfl 3 rfl 4 rfl ⟨by decide, by decide⟩ pd_0 rfl rfl rfl 0 rfl (by decide) (by decide) (by decide) (by decide) 12 rfl (fun T v L w h => ?_)
    obtain ⟨rfl, hL⟩ := h
    replace w := w.to hL
    refine g_astoreN w at_12 13 rfl rfl #[.val (.int u), .val (.int (14 : Int32)), .val (.ref (t 14)), .unset, .unset, .unset] rfl ?_
    refine g_iloadN w at_13 rfl 14 rfl ?_
    refine g_bipush w at_14 (16 : Int32) rfl 16 rfl ?_
    refine g_icmp_lt w at_16 23 (by decide) (by decide) 19 rfl (fun hc16 => ?_) (fun h => absurd (by decide) h)
    refine g_iconst w at_23 (0 : Int32) rfl 24 rfl ?_
    refine g_istoreN w at_24 25 rfl rfl #[.val (.int u), .val (.int (14 : Int32)), .val (.ref (t 14)), .val (.int (0 : Int32)), .unset, .unset] rfl ?_
    refine g_aloadN w at_25 rfl rfl 26 rfl ?_
    refine g_virtO w (argsL := []) (rest := []) (rm2 l Z a0 hw n0 t p' (t 14) ([]) hW) at_26 (hW.1 14 (by decide)).2.1 8 rfl 9 rfl 6 rfl 12 rfl 11 rfl 10 rfl ⟨by decide, by decide⟩ pd_1 rfl rfl rfl 0 rfl (by decide) (by decide) (by decide) (by decide) 29 rfl (fun T v L w h => ?_)
    obtain ⟨rfl, hL⟩ := h
    replace w := w.to hL
    refine g_int (x' := (0 : Int32)) (by simp [own_dec, own_tne hW (i := 14) (j := 16) (by decide) (by decide) (by decide), own_tne hW (i := 14) (j := 17) (by decide) (by decide) (by decide), own_tne hW (i := 14) (j := 18) (by decide) (by decide) (by decide)]) ?_
    refine g_istore w at_29 31 rfl rfl #[.val (.int u), .val (.int (14 : Int32)), .val (.ref (t 14)), .val (.int (0 : Int32)), .val (.int (0 : Int32)), .unset] rfl ?_
    refine g_iload w at_31 rfl 33 rfl ?_
    refine g_iloadN w at_33 rfl 34 rfl ?_
    refine g_icmp_eq w at_34 39 (by decide) (by decide) 37 rfl (fun hc34 => ?_) (fun h => absurd (by decide) h)
    refine g_aloadN w at_39 rfl rfl 40 rfl ?_
    refine g_virtO w (argsL := []) (rest := []) (rm3 l Z a0 hw n0 (t 14) (p' 2) ([]) (hW.1 14 (by decide)).2.2.2) at_40 (hW.1 14 (by decide)).2.1 19 rfl 20 rfl 6 rfl 23 rfl 22 rfl 21 rfl ⟨by decide, by decide⟩ pd_2 rfl rfl rfl 0 rfl (by decide) (by decide) (by decide) (by decide) 43 rfl (fun T v L w h => ?_)
    obtain ⟨rfl, hL⟩ := h
    replace w := w.to hL
    refine g_astore w at_43 45 rfl rfl #[.val (.int u), .val (.int (14 : Int32)), .val (.ref (t 14)), .val (.int (0 : Int32)), .val (.int (0 : Int32)), .val (.ref (p' 2))] rfl ?_
    refine g_iload w at_45 rfl 47 rfl ?_
    refine g_if_eq w at_47 76 (by decide) (by decide) 50 rfl (fun hc47 => ?_) (fun h => absurd (by decide) h)
    refine g_aload w at_76 rfl rfl 78 rfl ?_
    refine g_gets w (show Sta Z Z.heap "tidestone/parquet/PhysicalType" "FIXED_LEN_BYTE_ARRAY" "Ltidestone/parquet/PhysicalType;" (.ref (p' 7)) from (hW.2 7 (by decide)).1) at_78 28 rfl 81 rfl (fun T w => ?_)
    refine g_acmp_ne w at_81 rfl rfl 91 (by decide) (by decide) 84 rfl (fun hc81 => ?_) (fun h => absurd h (fun h => own_pne hW (i := 2) (j := 7) (by decide) (by decide) (by decide) (Value.ref.inj h)))
    refine g_iconst w at_91 (1 : Int32) rfl 92 rfl ?_
    exact g_iretn w (by simp) at_92 (by decide) (by decide) rfl
  · -- pc 7 k = 15
    refine g_int (x' := (15 : Int32)) hn ?_
    refine g_istoreN w at_7 8 rfl rfl #[.val (.int u), .val (.int (15 : Int32)), .unset, .unset, .unset, .unset] rfl ?_
    refine g_iloadN w at_8 rfl 9 rfl ?_
    refine g_static w (argsL := [(.int (15 : Int32))]) (rest := []) (rmP_15 l Z a0 hw n0 t p' ([]) hW) at_9 1 rfl 2 rfl 3 rfl 4 rfl ⟨by decide, by decide⟩ pd_0 rfl rfl rfl 0 rfl (by decide) (by decide) (by decide) (by decide) 12 rfl (fun T v L w h => ?_)
    obtain ⟨rfl, hL⟩ := h
    replace w := w.to hL
    refine g_astoreN w at_12 13 rfl rfl #[.val (.int u), .val (.int (15 : Int32)), .val (.ref (t 15)), .unset, .unset, .unset] rfl ?_
    refine g_iloadN w at_13 rfl 14 rfl ?_
    refine g_bipush w at_14 (16 : Int32) rfl 16 rfl ?_
    refine g_icmp_lt w at_16 23 (by decide) (by decide) 19 rfl (fun hc16 => ?_) (fun h => absurd (by decide) h)
    refine g_iconst w at_23 (0 : Int32) rfl 24 rfl ?_
    refine g_istoreN w at_24 25 rfl rfl #[.val (.int u), .val (.int (15 : Int32)), .val (.ref (t 15)), .val (.int (0 : Int32)), .unset, .unset] rfl ?_
    refine g_aloadN w at_25 rfl rfl 26 rfl ?_
    refine g_virtO w (argsL := []) (rest := []) (rm2 l Z a0 hw n0 t p' (t 15) ([]) hW) at_26 (hW.1 15 (by decide)).2.1 8 rfl 9 rfl 6 rfl 12 rfl 11 rfl 10 rfl ⟨by decide, by decide⟩ pd_1 rfl rfl rfl 0 rfl (by decide) (by decide) (by decide) (by decide) 29 rfl (fun T v L w h => ?_)
    obtain ⟨rfl, hL⟩ := h
    replace w := w.to hL
    refine g_int (x' := (0 : Int32)) (by simp [own_dec, own_tne hW (i := 15) (j := 16) (by decide) (by decide) (by decide), own_tne hW (i := 15) (j := 17) (by decide) (by decide) (by decide), own_tne hW (i := 15) (j := 18) (by decide) (by decide) (by decide)]) ?_
    refine g_istore w at_29 31 rfl rfl #[.val (.int u), .val (.int (15 : Int32)), .val (.ref (t 15)), .val (.int (0 : Int32)), .val (.int (0 : Int32)), .unset] rfl ?_
    refine g_iload w at_31 rfl 33 rfl ?_
    refine g_iloadN w at_33 rfl 34 rfl ?_
    refine g_icmp_eq w at_34 39 (by decide) (by decide) 37 rfl (fun hc34 => ?_) (fun h => absurd (by decide) h)
    refine g_aloadN w at_39 rfl rfl 40 rfl ?_
    refine g_virtO w (argsL := []) (rest := []) (rm3 l Z a0 hw n0 (t 15) (p' 3) ([]) (hW.1 15 (by decide)).2.2.2) at_40 (hW.1 15 (by decide)).2.1 19 rfl 20 rfl 6 rfl 23 rfl 22 rfl 21 rfl ⟨by decide, by decide⟩ pd_2 rfl rfl rfl 0 rfl (by decide) (by decide) (by decide) (by decide) 43 rfl (fun T v L w h => ?_)
    obtain ⟨rfl, hL⟩ := h
    replace w := w.to hL
    refine g_astore w at_43 45 rfl rfl #[.val (.int u), .val (.int (15 : Int32)), .val (.ref (t 15)), .val (.int (0 : Int32)), .val (.int (0 : Int32)), .val (.ref (p' 3))] rfl ?_
    refine g_iload w at_45 rfl 47 rfl ?_
    refine g_if_eq w at_47 76 (by decide) (by decide) 50 rfl (fun hc47 => ?_) (fun h => absurd (by decide) h)
    refine g_aload w at_76 rfl rfl 78 rfl ?_
    refine g_gets w (show Sta Z Z.heap "tidestone/parquet/PhysicalType" "FIXED_LEN_BYTE_ARRAY" "Ltidestone/parquet/PhysicalType;" (.ref (p' 7)) from (hW.2 7 (by decide)).1) at_78 28 rfl 81 rfl (fun T w => ?_)
    refine g_acmp_ne w at_81 rfl rfl 91 (by decide) (by decide) 84 rfl (fun hc81 => ?_) (fun h => absurd h (fun h => own_pne hW (i := 3) (j := 7) (by decide) (by decide) (by decide) (Value.ref.inj h)))
    refine g_iconst w at_91 (1 : Int32) rfl 92 rfl ?_
    exact g_iretn w (by simp) at_92 (by decide) (by decide) rfl
  · -- pc 7 k = 16
    refine g_int (x' := (16 : Int32)) hn ?_
    refine g_istoreN w at_7 8 rfl rfl #[.val (.int u), .val (.int (16 : Int32)), .unset, .unset, .unset, .unset] rfl ?_
    refine g_iloadN w at_8 rfl 9 rfl ?_
    refine g_static w (argsL := [(.int (16 : Int32))]) (rest := []) (rmP_16 l Z a0 hw n0 t p' ([]) hW) at_9 1 rfl 2 rfl 3 rfl 4 rfl ⟨by decide, by decide⟩ pd_0 rfl rfl rfl 0 rfl (by decide) (by decide) (by decide) (by decide) 12 rfl (fun T v L w h => ?_)
    obtain ⟨rfl, hL⟩ := h
    replace w := w.to hL
    refine g_astoreN w at_12 13 rfl rfl #[.val (.int u), .val (.int (16 : Int32)), .val (.ref (t 16)), .unset, .unset, .unset] rfl ?_
    refine g_iloadN w at_13 rfl 14 rfl ?_
    refine g_bipush w at_14 (16 : Int32) rfl 16 rfl ?_
    refine g_icmp_lt w at_16 23 (by decide) (by decide) 19 rfl (fun h => absurd h (by decide)) (fun hc16 => ?_)
    refine g_iconst w at_19 (1 : Int32) rfl 20 rfl ?_
    refine g_goto w at_20 24 (by decide) (by decide) ?_
    refine g_istoreN w at_24 25 rfl rfl #[.val (.int u), .val (.int (16 : Int32)), .val (.ref (t 16)), .val (.int (1 : Int32)), .unset, .unset] rfl ?_
    refine g_aloadN w at_25 rfl rfl 26 rfl ?_
    refine g_virtO w (argsL := []) (rest := []) (rm2 l Z a0 hw n0 t p' (t 16) ([]) hW) at_26 (hW.1 16 (by decide)).2.1 8 rfl 9 rfl 6 rfl 12 rfl 11 rfl 10 rfl ⟨by decide, by decide⟩ pd_1 rfl rfl rfl 0 rfl (by decide) (by decide) (by decide) (by decide) 29 rfl (fun T v L w h => ?_)
    obtain ⟨rfl, hL⟩ := h
    replace w := w.to hL
    refine g_int (x' := (1 : Int32)) (by simp [own_dec]) ?_
    refine g_istore w at_29 31 rfl rfl #[.val (.int u), .val (.int (16 : Int32)), .val (.ref (t 16)), .val (.int (1 : Int32)), .val (.int (1 : Int32)), .unset] rfl ?_
    refine g_iload w at_31 rfl 33 rfl ?_
    refine g_iloadN w at_33 rfl 34 rfl ?_
    refine g_icmp_eq w at_34 39 (by decide) (by decide) 37 rfl (fun hc34 => ?_) (fun h => absurd (by decide) h)
    refine g_aloadN w at_39 rfl rfl 40 rfl ?_
    refine g_virtO w (argsL := []) (rest := []) (rm3 l Z a0 hw n0 (t 16) (p' 1) ([]) (hW.1 16 (by decide)).2.2.2) at_40 (hW.1 16 (by decide)).2.1 19 rfl 20 rfl 6 rfl 23 rfl 22 rfl 21 rfl ⟨by decide, by decide⟩ pd_2 rfl rfl rfl 0 rfl (by decide) (by decide) (by decide) (by decide) 43 rfl (fun T v L w h => ?_)
    obtain ⟨rfl, hL⟩ := h
    replace w := w.to hL
    refine g_astore w at_43 45 rfl rfl #[.val (.int u), .val (.int (16 : Int32)), .val (.ref (t 16)), .val (.int (1 : Int32)), .val (.int (1 : Int32)), .val (.ref (p' 1))] rfl ?_
    refine g_iload w at_45 rfl 47 rfl ?_
    refine g_if_eq w at_47 76 (by decide) (by decide) 50 rfl (fun h => absurd h (by decide)) (fun hc47 => ?_)
    refine g_aload w at_50 rfl rfl 52 rfl ?_
    refine g_gets w (show Sta Z Z.heap "tidestone/parquet/PhysicalType" "INT32" "Ltidestone/parquet/PhysicalType;" (.ref (p' 1)) from (hW.2 1 (by decide)).1) at_52 41 rfl 55 rfl (fun T w => ?_)
    refine g_acmp_eq w at_55 rfl rfl 76 (by decide) (by decide) 58 rfl (fun hc55 => ?_) (fun h => absurd rfl h)
    refine g_aload w at_76 rfl rfl 78 rfl ?_
    refine g_gets w (show Sta Z Z.heap "tidestone/parquet/PhysicalType" "FIXED_LEN_BYTE_ARRAY" "Ltidestone/parquet/PhysicalType;" (.ref (p' 7)) from (hW.2 7 (by decide)).1) at_78 28 rfl 81 rfl (fun T w => ?_)
    refine g_acmp_ne w at_81 rfl rfl 91 (by decide) (by decide) 84 rfl (fun hc81 => ?_) (fun h => absurd h (fun h => own_pne hW (i := 1) (j := 7) (by decide) (by decide) (by decide) (Value.ref.inj h)))
    refine g_iconst w at_91 (1 : Int32) rfl 92 rfl ?_
    exact g_iretn w (by simp) at_92 (by decide) (by decide) rfl
  · -- pc 7 k = 17
    refine g_int (x' := (17 : Int32)) hn ?_
    refine g_istoreN w at_7 8 rfl rfl #[.val (.int u), .val (.int (17 : Int32)), .unset, .unset, .unset, .unset] rfl ?_
    refine g_iloadN w at_8 rfl 9 rfl ?_
    refine g_static w (argsL := [(.int (17 : Int32))]) (rest := []) (rmP_17 l Z a0 hw n0 t p' ([]) hW) at_9 1 rfl 2 rfl 3 rfl 4 rfl ⟨by decide, by decide⟩ pd_0 rfl rfl rfl 0 rfl (by decide) (by decide) (by decide) (by decide) 12 rfl (fun T v L w h => ?_)
    obtain ⟨rfl, hL⟩ := h
    replace w := w.to hL
    refine g_astoreN w at_12 13 rfl rfl #[.val (.int u), .val (.int (17 : Int32)), .val (.ref (t 17)), .unset, .unset, .unset] rfl ?_
    refine g_iloadN w at_13 rfl 14 rfl ?_
    refine g_bipush w at_14 (16 : Int32) rfl 16 rfl ?_
    refine g_icmp_lt w at_16 23 (by decide) (by decide) 19 rfl (fun h => absurd h (by decide)) (fun hc16 => ?_)
    refine g_iconst w at_19 (1 : Int32) rfl 20 rfl ?_
    refine g_goto w at_20 24 (by decide) (by decide) ?_
    refine g_istoreN w at_24 25 rfl rfl #[.val (.int u), .val (.int (17 : Int32)), .val (.ref (t 17)), .val (.int (1 : Int32)), .unset, .unset] rfl ?_
    refine g_aloadN w at_25 rfl rfl 26 rfl ?_
    refine g_virtO w (argsL := []) (rest := []) (rm2 l Z a0 hw n0 t p' (t 17) ([]) hW) at_26 (hW.1 17 (by decide)).2.1 8 rfl 9 rfl 6 rfl 12 rfl 11 rfl 10 rfl ⟨by decide, by decide⟩ pd_1 rfl rfl rfl 0 rfl (by decide) (by decide) (by decide) (by decide) 29 rfl (fun T v L w h => ?_)
    obtain ⟨rfl, hL⟩ := h
    replace w := w.to hL
    refine g_int (x' := (1 : Int32)) (by simp [own_dec]) ?_
    refine g_istore w at_29 31 rfl rfl #[.val (.int u), .val (.int (17 : Int32)), .val (.ref (t 17)), .val (.int (1 : Int32)), .val (.int (1 : Int32)), .unset] rfl ?_
    refine g_iload w at_31 rfl 33 rfl ?_
    refine g_iloadN w at_33 rfl 34 rfl ?_
    refine g_icmp_eq w at_34 39 (by decide) (by decide) 37 rfl (fun hc34 => ?_) (fun h => absurd (by decide) h)
    refine g_aloadN w at_39 rfl rfl 40 rfl ?_
    refine g_virtO w (argsL := []) (rest := []) (rm3 l Z a0 hw n0 (t 17) (p' 2) ([]) (hW.1 17 (by decide)).2.2.2) at_40 (hW.1 17 (by decide)).2.1 19 rfl 20 rfl 6 rfl 23 rfl 22 rfl 21 rfl ⟨by decide, by decide⟩ pd_2 rfl rfl rfl 0 rfl (by decide) (by decide) (by decide) (by decide) 43 rfl (fun T v L w h => ?_)
    obtain ⟨rfl, hL⟩ := h
    replace w := w.to hL
    refine g_astore w at_43 45 rfl rfl #[.val (.int u), .val (.int (17 : Int32)), .val (.ref (t 17)), .val (.int (1 : Int32)), .val (.int (1 : Int32)), .val (.ref (p' 2))] rfl ?_
    refine g_iload w at_45 rfl 47 rfl ?_
    refine g_if_eq w at_47 76 (by decide) (by decide) 50 rfl (fun h => absurd h (by decide)) (fun hc47 => ?_)
    refine g_aload w at_50 rfl rfl 52 rfl ?_
    refine g_gets w (show Sta Z Z.heap "tidestone/parquet/PhysicalType" "INT32" "Ltidestone/parquet/PhysicalType;" (.ref (p' 1)) from (hW.2 1 (by decide)).1) at_52 41 rfl 55 rfl (fun T w => ?_)
    refine g_acmp_eq w at_55 rfl rfl 76 (by decide) (by decide) 58 rfl (fun h => absurd h (fun h => own_pne hW (i := 2) (j := 1) (by decide) (by decide) (by decide) (Value.ref.inj h))) (fun hc55 => ?_)
    refine g_aload w at_58 rfl rfl 60 rfl ?_
    refine g_gets w (show Sta Z Z.heap "tidestone/parquet/PhysicalType" "INT64" "Ltidestone/parquet/PhysicalType;" (.ref (p' 2)) from (hW.2 2 (by decide)).1) at_60 42 rfl 63 rfl (fun T w => ?_)
    refine g_acmp_eq w at_63 rfl rfl 76 (by decide) (by decide) 66 rfl (fun hc63 => ?_) (fun h => absurd rfl h)
    refine g_aload w at_76 rfl rfl 78 rfl ?_
    refine g_gets w (show Sta Z Z.heap "tidestone/parquet/PhysicalType" "FIXED_LEN_BYTE_ARRAY" "Ltidestone/parquet/PhysicalType;" (.ref (p' 7)) from (hW.2 7 (by decide)).1) at_78 28 rfl 81 rfl (fun T w => ?_)
    refine g_acmp_ne w at_81 rfl rfl 91 (by decide) (by decide) 84 rfl (fun hc81 => ?_) (fun h => absurd h (fun h => own_pne hW (i := 2) (j := 7) (by decide) (by decide) (by decide) (Value.ref.inj h)))
    refine g_iconst w at_91 (1 : Int32) rfl 92 rfl ?_
    exact g_iretn w (by simp) at_92 (by decide) (by decide) rfl
  · -- pc 7 k = 18
    refine g_int (x' := (18 : Int32)) hn ?_
    refine g_istoreN w at_7 8 rfl rfl #[.val (.int u), .val (.int (18 : Int32)), .unset, .unset, .unset, .unset] rfl ?_
    refine g_iloadN w at_8 rfl 9 rfl ?_
    refine g_static w (argsL := [(.int (18 : Int32))]) (rest := []) (rmP_18 l Z a0 hw n0 t p' ([]) hW) at_9 1 rfl 2 rfl 3 rfl 4 rfl ⟨by decide, by decide⟩ pd_0 rfl rfl rfl 0 rfl (by decide) (by decide) (by decide) (by decide) 12 rfl (fun T v L w h => ?_)
    obtain ⟨rfl, hL⟩ := h
    replace w := w.to hL
    refine g_astoreN w at_12 13 rfl rfl #[.val (.int u), .val (.int (18 : Int32)), .val (.ref (t 18)), .unset, .unset, .unset] rfl ?_
    refine g_iloadN w at_13 rfl 14 rfl ?_
    refine g_bipush w at_14 (16 : Int32) rfl 16 rfl ?_
    refine g_icmp_lt w at_16 23 (by decide) (by decide) 19 rfl (fun h => absurd h (by decide)) (fun hc16 => ?_)
    refine g_iconst w at_19 (1 : Int32) rfl 20 rfl ?_
    refine g_goto w at_20 24 (by decide) (by decide) ?_
    refine g_istoreN w at_24 25 rfl rfl #[.val (.int u), .val (.int (18 : Int32)), .val (.ref (t 18)), .val (.int (1 : Int32)), .unset, .unset] rfl ?_
    refine g_aloadN w at_25 rfl rfl 26 rfl ?_
    refine g_virtO w (argsL := []) (rest := []) (rm2 l Z a0 hw n0 t p' (t 18) ([]) hW) at_26 (hW.1 18 (by decide)).2.1 8 rfl 9 rfl 6 rfl 12 rfl 11 rfl 10 rfl ⟨by decide, by decide⟩ pd_1 rfl rfl rfl 0 rfl (by decide) (by decide) (by decide) (by decide) 29 rfl (fun T v L w h => ?_)
    obtain ⟨rfl, hL⟩ := h
    replace w := w.to hL
    refine g_int (x' := (1 : Int32)) (by simp [own_dec]) ?_
    refine g_istore w at_29 31 rfl rfl #[.val (.int u), .val (.int (18 : Int32)), .val (.ref (t 18)), .val (.int (1 : Int32)), .val (.int (1 : Int32)), .unset] rfl ?_
    refine g_iload w at_31 rfl 33 rfl ?_
    refine g_iloadN w at_33 rfl 34 rfl ?_
    refine g_icmp_eq w at_34 39 (by decide) (by decide) 37 rfl (fun hc34 => ?_) (fun h => absurd (by decide) h)
    refine g_aloadN w at_39 rfl rfl 40 rfl ?_
    refine g_virtO w (argsL := []) (rest := []) (rm3 l Z a0 hw n0 (t 18) (p' 7) ([]) (hW.1 18 (by decide)).2.2.2) at_40 (hW.1 18 (by decide)).2.1 19 rfl 20 rfl 6 rfl 23 rfl 22 rfl 21 rfl ⟨by decide, by decide⟩ pd_2 rfl rfl rfl 0 rfl (by decide) (by decide) (by decide) (by decide) 43 rfl (fun T v L w h => ?_)
    obtain ⟨rfl, hL⟩ := h
    replace w := w.to hL
    refine g_astore w at_43 45 rfl rfl #[.val (.int u), .val (.int (18 : Int32)), .val (.ref (t 18)), .val (.int (1 : Int32)), .val (.int (1 : Int32)), .val (.ref (p' 7))] rfl ?_
    refine g_iload w at_45 rfl 47 rfl ?_
    refine g_if_eq w at_47 76 (by decide) (by decide) 50 rfl (fun h => absurd h (by decide)) (fun hc47 => ?_)
    refine g_aload w at_50 rfl rfl 52 rfl ?_
    refine g_gets w (show Sta Z Z.heap "tidestone/parquet/PhysicalType" "INT32" "Ltidestone/parquet/PhysicalType;" (.ref (p' 1)) from (hW.2 1 (by decide)).1) at_52 41 rfl 55 rfl (fun T w => ?_)
    refine g_acmp_eq w at_55 rfl rfl 76 (by decide) (by decide) 58 rfl (fun h => absurd h (fun h => own_pne hW (i := 7) (j := 1) (by decide) (by decide) (by decide) (Value.ref.inj h))) (fun hc55 => ?_)
    refine g_aload w at_58 rfl rfl 60 rfl ?_
    refine g_gets w (show Sta Z Z.heap "tidestone/parquet/PhysicalType" "INT64" "Ltidestone/parquet/PhysicalType;" (.ref (p' 2)) from (hW.2 2 (by decide)).1) at_60 42 rfl 63 rfl (fun T w => ?_)
    refine g_acmp_eq w at_63 rfl rfl 76 (by decide) (by decide) 66 rfl (fun h => absurd h (fun h => own_pne hW (i := 7) (j := 2) (by decide) (by decide) (by decide) (Value.ref.inj h))) (fun hc63 => ?_)
    refine g_aload w at_66 rfl rfl 68 rfl ?_
    refine g_gets w (show Sta Z Z.heap "tidestone/parquet/PhysicalType" "FIXED_LEN_BYTE_ARRAY" "Ltidestone/parquet/PhysicalType;" (.ref (p' 7)) from (hW.2 7 (by decide)).1) at_68 28 rfl 71 rfl (fun T w => ?_)
    refine g_acmp_eq w at_71 rfl rfl 76 (by decide) (by decide) 74 rfl (fun hc71 => ?_) (fun h => absurd rfl h)
    refine g_aload w at_76 rfl rfl 78 rfl ?_
    refine g_gets w (show Sta Z Z.heap "tidestone/parquet/PhysicalType" "FIXED_LEN_BYTE_ARRAY" "Ltidestone/parquet/PhysicalType;" (.ref (p' 7)) from (hW.2 7 (by decide)).1) at_78 28 rfl 81 rfl (fun T w => ?_)
    refine g_acmp_ne w at_81 rfl rfl 91 (by decide) (by decide) 84 rfl (fun h => absurd rfl h) (fun hc81 => ?_)
    refine g_iload w at_84 rfl 86 rfl ?_
    refine g_if_ne w at_86 91 (by decide) (by decide) 89 rfl (fun hc86 => ?_) (fun h => absurd h (by decide))
    refine g_iconst w at_91 (1 : Int32) rfl 92 rfl ?_
    exact g_iretn w (by simp) at_92 (by decide) (by decide) rfl
set_option maxRecDepth 65536 in
set_option maxHeartbeats 40000000 in
theorem comes_1 {Post : Tables → Env → Array Value → State → Outcome → State → Prop} (hpost : ∀ tb e args s v u, (limb_1_1.after args s (.returned v) u = true ∧ limb_1_2.after args s (.returned v) u = true ∧ True) → FrameEnd s (.returned v) u (Jvm.fieldLocs frame_1_writes args s ++ Jvm.arrayLocs frame_1_arrays args s ++ Jvm.staticLocs frame_1_statics s) 0 0 → Post tb e args s (.returned v) u) :
    ArmFor flags0 classFile x code maxLocals ret World_1 tables_1 room_1 Calls_1 rest_1 Pre_1 Post := by
  intro l hfl _ _ p e ha hc hk s m args below hf hA hF happ hP
  obtain ⟨hcalls, hrest, hpre⟩ := hP
  obtain ⟨-, -, -, hnamed, -, -, -, hat⟩ := (Spec.applies_iff hf).mp happ
  obtain ⟨hg, hn⟩ := and_e (Cond.before_iff.mp (show (Jvm.Cond.and given_1 narrow_1).before args s = true from hpre))
  obtain ⟨hcnt, g0⟩ := and_e hg
  have k0 := g0
  obtain ⟨w0, rfl⟩ : ∃ w0 : Value, args = #[w0] := by
    have hs : args.size = 1 := by simpa [Cond.value, given_1] using hcnt
    obtain ⟨L⟩ := args
    match L, hs with
    | [w0], _ => exact ⟨w0, rfl⟩
  have hw := fun d (hd : d ∈ tables_1) => atoms_spec (ws := Jvm.Cond.code x code maxLocals ret :: tables_1) hat d (List.mem_cons_of_mem _ hd)
  obtain ⟨i0, e0⟩ := is_v k0
  obtain rfl : w0 = (.int i0) := Option.some.inj e0
  obtain ⟨c0, m0⟩ := and_e hn
  obtain ⟨c1, m1⟩ := and_e m0
  obtain ⟨c2, m2⟩ := and_e m1
  obtain ⟨c3, m3⟩ := and_e m2
  obtain ⟨c4, m4⟩ := and_e m3
  obtain ⟨c5, m5⟩ := and_e m4
  obtain ⟨c6, m6⟩ := and_e m5
  obtain ⟨c7, m7⟩ := and_e m6
  obtain ⟨c8, m8⟩ := and_e m7
  obtain ⟨c9, m9⟩ := and_e m8
  obtain ⟨c10, m10⟩ := and_e m9
  obtain ⟨c11, m11⟩ := and_e m10
  obtain ⟨c12, m12⟩ := and_e m11
  obtain ⟨c13, m13⟩ := and_e m12
  obtain ⟨c14, m14⟩ := and_e m13
  obtain ⟨c15, m15⟩ := and_e m14
  obtain ⟨c16, m16⟩ := and_e m15
  obtain ⟨c17, m17⟩ := and_e m16
  obtain ⟨c18, m18⟩ := and_e m17
  obtain ⟨c19, m19⟩ := and_e m18
  obtain ⟨c20, m20⟩ := and_e m19
  obtain ⟨c21, m21⟩ := and_e m20
  obtain ⟨c22, m22⟩ := and_e m21
  obtain ⟨c23, m23⟩ := and_e m22
  obtain ⟨c24, m24⟩ := and_e m23
  obtain ⟨c25, m25⟩ := and_e m24
  obtain ⟨c26, m26⟩ := and_e m25
  obtain ⟨c27, m27⟩ := and_e m26
  obtain ⟨c28, m28⟩ := and_e m27
  obtain ⟨c29, m29⟩ := and_e m28
  obtain ⟨c30, m30⟩ := and_e m29
  obtain ⟨c31, m31⟩ := and_e m30
  obtain ⟨c32, m32⟩ := and_e m31
  obtain ⟨c33, m33⟩ := and_e m32
  obtain ⟨c34, m34⟩ := and_e m33
  obtain ⟨c35, m35⟩ := and_e m34
  obtain ⟨c36, m36⟩ := and_e m35
  obtain ⟨c37, m37⟩ := and_e m36
  obtain ⟨c38, m38⟩ := and_e m37
  obtain ⟨c39, m39⟩ := and_e m38
  obtain ⟨c40, m40⟩ := and_e m39
  obtain ⟨c41, m41⟩ := and_e m40
  obtain ⟨c42, m42⟩ := and_e m41
  obtain ⟨c43, m43⟩ := and_e m42
  obtain ⟨c44, m44⟩ := and_e m43
  obtain ⟨c45, m45⟩ := and_e m44
  obtain ⟨c46, m46⟩ := and_e m45
  obtain ⟨c47, m47⟩ := and_e m46
  obtain ⟨c48, m48⟩ := and_e m47
  obtain ⟨c49, m49⟩ := and_e m48
  obtain ⟨c50, m50⟩ := and_e m49
  obtain ⟨c51, m51⟩ := and_e m50
  obtain ⟨c52, m52⟩ := and_e m51
  obtain ⟨c53, m53⟩ := and_e m52
  obtain ⟨c54, m54⟩ := and_e m53
  obtain ⟨c55, m55⟩ := and_e m54
  obtain ⟨c56, m56⟩ := and_e m55
  obtain ⟨c57, m57⟩ := and_e m56
  obtain ⟨c58, m58⟩ := and_e m57
  obtain ⟨c59, m59⟩ := and_e m58
  obtain ⟨c60, m60⟩ := and_e m59
  obtain ⟨c61, m61⟩ := and_e m60
  obtain ⟨c62, m62⟩ := and_e m61
  obtain ⟨c63, m63⟩ := and_e m62
  obtain ⟨c64, m64⟩ := and_e m63
  obtain ⟨c65, m65⟩ := and_e m64
  obtain ⟨c66, m66⟩ := and_e m65
  obtain ⟨c67, m67⟩ := and_e m66
  obtain ⟨c68, m68⟩ := and_e m67
  obtain ⟨c69, m69⟩ := and_e m68
  obtain ⟨c70, m70⟩ := and_e m69
  obtain ⟨c71, m71⟩ := and_e m70
  have c72 := m71
  obtain ⟨t0, evt0⟩ := exa_v c0
  have St0 := Sta.start evt0 (Or.inr ⟨(hw _ (List.mem_of_getElem? (i := 6) rfl)), (hw _ (List.mem_of_getElem? (i := 7) rfl))⟩)
  have Xt0 := Exa.start evt0 c0
  have Ot0 := own_fld evt0 (own_int c2)
  obtain ⟨t1, evt1⟩ := exa_v c48
  have St1 := Sta.start evt1 (Or.inr ⟨(hw _ (List.mem_of_getElem? (i := 6) rfl)), (hw _ (List.mem_of_getElem? (i := 55) rfl))⟩)
  have Xt1 := Exa.start evt1 c48
  have Ot1 := own_fld evt1 (own_int c49)
  obtain ⟨t2, evt2⟩ := exa_v c36
  have St2 := Sta.start evt2 (Or.inr ⟨(hw _ (List.mem_of_getElem? (i := 6) rfl)), (hw _ (List.mem_of_getElem? (i := 47) rfl))⟩)
  have Xt2 := Exa.start evt2 c36
  have Ot2 := own_fld evt2 (own_int c37)
  obtain ⟨t3, evt3⟩ := exa_v c13
  have St3 := Sta.start evt3 (Or.inr ⟨(hw _ (List.mem_of_getElem? (i := 6) rfl)), (hw _ (List.mem_of_getElem? (i := 31) rfl))⟩)
  have Xt3 := Exa.start evt3 c13
  have Ot3 := own_fld evt3 (own_int c14)
  obtain ⟨t4, evt4⟩ := exa_v c61
  have St4 := Sta.start evt4 (Or.inr ⟨(hw _ (List.mem_of_getElem? (i := 6) rfl)), (hw _ (List.mem_of_getElem? (i := 64) rfl))⟩)
  have Xt4 := Exa.start evt4 c61
  have Ot4 := own_fld evt4 (own_int c62)
  obtain ⟨t5, evt5⟩ := exa_v c23
  have St5 := Sta.start evt5 (Or.inr ⟨(hw _ (List.mem_of_getElem? (i := 6) rfl)), (hw _ (List.mem_of_getElem? (i := 37) rfl))⟩)
  have Xt5 := Exa.start evt5 c23
  have Ot5 := own_fld evt5 (own_int c24)
  obtain ⟨t6, evt6⟩ := exa_v c55
  have St6 := Sta.start evt6 (Or.inr ⟨(hw _ (List.mem_of_getElem? (i := 6) rfl)), (hw _ (List.mem_of_getElem? (i := 60) rfl))⟩)
  have Xt6 := Exa.start evt6 c55
  have Ot6 := own_fld evt6 (own_int c56)
  obtain ⟨t7, evt7⟩ := exa_v c31
  have St7 := Sta.start evt7 (Or.inr ⟨(hw _ (List.mem_of_getElem? (i := 6) rfl)), (hw _ (List.mem_of_getElem? (i := 44) rfl))⟩)
  have Xt7 := Exa.start evt7 c31
  have Ot7 := own_fld evt7 (own_int c32)
  obtain ⟨t8, evt8⟩ := exa_v c45
  have St8 := Sta.start evt8 (Or.inr ⟨(hw _ (List.mem_of_getElem? (i := 6) rfl)), (hw _ (List.mem_of_getElem? (i := 53) rfl))⟩)
  have Xt8 := Exa.start evt8 c45
  have Ot8 := own_fld evt8 (own_int c46)
  obtain ⟨t9, evt9⟩ := exa_v c64
  have St9 := Sta.start evt9 (Or.inr ⟨(hw _ (List.mem_of_getElem? (i := 6) rfl)), (hw _ (List.mem_of_getElem? (i := 66) rfl))⟩)
  have Xt9 := Exa.start evt9 c64
  have Ot9 := own_fld evt9 (own_int c65)
  obtain ⟨t10, evt10⟩ := exa_v c42
  have St10 := Sta.start evt10 (Or.inr ⟨(hw _ (List.mem_of_getElem? (i := 6) rfl)), (hw _ (List.mem_of_getElem? (i := 51) rfl))⟩)
  have Xt10 := Exa.start evt10 c42
  have Ot10 := own_fld evt10 (own_int c43)
  obtain ⟨t11, evt11⟩ := exa_v c39
  have St11 := Sta.start evt11 (Or.inr ⟨(hw _ (List.mem_of_getElem? (i := 6) rfl)), (hw _ (List.mem_of_getElem? (i := 49) rfl))⟩)
  have Xt11 := Exa.start evt11 c39
  have Ot11 := own_fld evt11 (own_int c40)
  obtain ⟨t12, evt12⟩ := exa_v c67
  have St12 := Sta.start evt12 (Or.inr ⟨(hw _ (List.mem_of_getElem? (i := 6) rfl)), (hw _ (List.mem_of_getElem? (i := 68) rfl))⟩)
  have Xt12 := Exa.start evt12 c67
  have Ot12 := own_fld evt12 (own_int c68)
  obtain ⟨t13, evt13⟩ := exa_v c70
  have St13 := Sta.start evt13 (Or.inr ⟨(hw _ (List.mem_of_getElem? (i := 6) rfl)), (hw _ (List.mem_of_getElem? (i := 70) rfl))⟩)
  have Xt13 := Exa.start evt13 c70
  have Ot13 := own_fld evt13 (own_int c71)
  obtain ⟨t14, evt14⟩ := exa_v c51
  have St14 := Sta.start evt14 (Or.inr ⟨(hw _ (List.mem_of_getElem? (i := 6) rfl)), (hw _ (List.mem_of_getElem? (i := 57) rfl))⟩)
  have Xt14 := Exa.start evt14 c51
  have Ot14 := own_fld evt14 (own_int c52)
  obtain ⟨t15, evt15⟩ := exa_v c18
  have St15 := Sta.start evt15 (Or.inr ⟨(hw _ (List.mem_of_getElem? (i := 6) rfl)), (hw _ (List.mem_of_getElem? (i := 34) rfl))⟩)
  have Xt15 := Exa.start evt15 c18
  have Ot15 := own_fld evt15 (own_int c19)
  obtain ⟨t16, evt16⟩ := exa_v c1
  have St16 := Sta.start evt16 (Or.inr ⟨(hw _ (List.mem_of_getElem? (i := 6) rfl)), (hw _ (List.mem_of_getElem? (i := 14) rfl))⟩)
  have Xt16 := Exa.start evt16 c1
  have Ot16 := own_fld evt16 (own_int c3)
  obtain ⟨t17, evt17⟩ := exa_v c4
  have St17 := Sta.start evt17 (Or.inr ⟨(hw _ (List.mem_of_getElem? (i := 6) rfl)), (hw _ (List.mem_of_getElem? (i := 16) rfl))⟩)
  have Xt17 := Exa.start evt17 c4
  have Ot17 := own_fld evt17 (own_int c5)
  obtain ⟨t18, evt18⟩ := exa_v c6
  have St18 := Sta.start evt18 (Or.inr ⟨(hw _ (List.mem_of_getElem? (i := 6) rfl)), (hw _ (List.mem_of_getElem? (i := 18) rfl))⟩)
  have Xt18 := Exa.start evt18 c6
  have Ot18 := own_fld evt18 (own_int c7)
  obtain ⟨p0, evp0⟩ := exa_v c8
  have Sp0 := Sta.start evp0 (Or.inr ⟨(hw _ (List.mem_of_getElem? (i := 26) rfl)), (hw _ (List.mem_of_getElem? (i := 27) rfl))⟩)
  have Xp0 := Exa.start evp0 c8
  have Op0 := own_fld evp0 (own_int c11)
  obtain ⟨p1, evp1⟩ := exa_v c15
  have Sp1 := Sta.start evp1 (Or.inr ⟨(hw _ (List.mem_of_getElem? (i := 26) rfl)), (hw _ (List.mem_of_getElem? (i := 32) rfl))⟩)
  have Xp1 := Exa.start evp1 c15
  have Op1 := own_fld evp1 (own_int c17)
  obtain ⟨p2, evp2⟩ := exa_v c28
  have Sp2 := Sta.start evp2 (Or.inr ⟨(hw _ (List.mem_of_getElem? (i := 26) rfl)), (hw _ (List.mem_of_getElem? (i := 40) rfl))⟩)
  have Xp2 := Exa.start evp2 c28
  have Op2 := own_fld evp2 (own_int c30)
  obtain ⟨p3, evp3⟩ := exa_v c20
  have Sp3 := Sta.start evp3 (Or.inr ⟨(hw _ (List.mem_of_getElem? (i := 26) rfl)), (hw _ (List.mem_of_getElem? (i := 35) rfl))⟩)
  have Xp3 := Exa.start evp3 c20
  have Op3 := own_fld evp3 (own_int c22)
  obtain ⟨p4, evp4⟩ := exa_v c25
  have Sp4 := Sta.start evp4 (Or.inr ⟨(hw _ (List.mem_of_getElem? (i := 26) rfl)), (hw _ (List.mem_of_getElem? (i := 38) rfl))⟩)
  have Xp4 := Exa.start evp4 c25
  have Op4 := own_fld evp4 (own_int c27)
  obtain ⟨p5, evp5⟩ := exa_v c57
  have Sp5 := Sta.start evp5 (Or.inr ⟨(hw _ (List.mem_of_getElem? (i := 26) rfl)), (hw _ (List.mem_of_getElem? (i := 61) rfl))⟩)
  have Xp5 := Exa.start evp5 c57
  have Op5 := own_fld evp5 (own_int c59)
  obtain ⟨p6, evp6⟩ := exa_v c33
  have Sp6 := Sta.start evp6 (Or.inr ⟨(hw _ (List.mem_of_getElem? (i := 26) rfl)), (hw _ (List.mem_of_getElem? (i := 45) rfl))⟩)
  have Xp6 := Exa.start evp6 c33
  have Op6 := own_fld evp6 (own_int c35)
  obtain ⟨p7, evp7⟩ := exa_v c10
  have Sp7 := Sta.start evp7 (Or.inr ⟨(hw _ (List.mem_of_getElem? (i := 26) rfl)), (hw _ (List.mem_of_getElem? (i := 29) rfl))⟩)
  have Xp7 := Exa.start evp7 c10
  have Op7 := own_fld evp7 (own_int c12)
  have F0 := own_fld evt0 (own_ref c9 evp0)
  have F1 := own_fld evt1 (own_ref c50 evp1)
  have F2 := own_fld evt2 (own_ref c38 evp1)
  have F3 := own_fld evt3 (own_ref c16 evp1)
  have F4 := own_fld evt4 (own_ref c63 evp2)
  have F5 := own_fld evt5 (own_ref c26 evp4)
  have F6 := own_fld evt6 (own_ref c58 evp5)
  have F7 := own_fld evt7 (own_ref c34 evp6)
  have F8 := own_fld evt8 (own_ref c47 evp6)
  have F9 := own_fld evt9 (own_ref c66 evp1)
  have F10 := own_fld evt10 (own_ref c44 evp1)
  have F11 := own_fld evt11 (own_ref c41 evp2)
  have F12 := own_fld evt12 (own_ref c69 evp2)
  have F13 := own_fld evt13 (own_ref c72 evp2)
  have F14 := own_fld evt14 (own_ref c53 evp2)
  have F15 := own_fld evt15 (own_ref c21 evp3)
  have F16 := own_fld evt16 (own_ref c60 evp1)
  have F17 := own_fld evt17 (own_ref c29 evp2)
  have F18 := own_fld evt18 (own_ref c54 evp7)
  have hW : own_W s (fun k => [t0, t1, t2, t3, t4, t5, t6, t7, t8, t9, t10, t11, t12, t13, t14, t15, t16, t17, t18].getD k 0) (fun k => [p0, p1, p2, p3, p4, p5, p6, p7].getD k 0) := by
    refine ⟨fun k hk => ?_, fun k hk => ?_⟩
    · rcases k with _ | _ | _ | _ | _ | _ | _ | _ | _ | _ | _ | _ | _ | _ | _ | _ | _ | _ | _ | _
      · exact ⟨St0, Xt0, Ot0, F0⟩
      · exact ⟨St1, Xt1, Ot1, F1⟩
      · exact ⟨St2, Xt2, Ot2, F2⟩
      · exact ⟨St3, Xt3, Ot3, F3⟩
      · exact ⟨St4, Xt4, Ot4, F4⟩
      · exact ⟨St5, Xt5, Ot5, F5⟩
      · exact ⟨St6, Xt6, Ot6, F6⟩
      · exact ⟨St7, Xt7, Ot7, F7⟩
      · exact ⟨St8, Xt8, Ot8, F8⟩
      · exact ⟨St9, Xt9, Ot9, F9⟩
      · exact ⟨St10, Xt10, Ot10, F10⟩
      · exact ⟨St11, Xt11, Ot11, F11⟩
      · exact ⟨St12, Xt12, Ot12, F12⟩
      · exact ⟨St13, Xt13, Ot13, F13⟩
      · exact ⟨St14, Xt14, Ot14, F14⟩
      · exact ⟨St15, Xt15, Ot15, F15⟩
      · exact ⟨St16, Xt16, Ot16, F16⟩
      · exact ⟨St17, Xt17, Ot17, F17⟩
      · exact ⟨St18, Xt18, Ot18, F18⟩
      · exfalso; omega
    · rcases k with _ | _ | _ | _ | _ | _ | _ | _ | _
      · exact ⟨Sp0, Op0⟩
      · exact ⟨Sp1, Op1⟩
      · exact ⟨Sp2, Op2⟩
      · exact ⟨Sp3, Op3⟩
      · exact ⟨Sp4, Op4⟩
      · exact ⟨Sp5, Op5⟩
      · exact ⟨Sp6, Op6⟩
      · exact ⟨Sp7, Op7⟩
      · exfalso; omega
  obtain ⟨n, o, h1, h2, h3, _, Lc, rfl, ⟨N, LL, hH, rfl⟩, hq⟩ := rm0 l s _ hw s.heap.size i0 _ _ hW tables_1 0 s.heap (Hp.nil (Old.start s) (Nat.zero_le _)) p e ha hc hk s m _ below hf ((Spec.applies_iff_loose hf).mp happ).1 ⟨rfl, State.Warmed39.refl s, rfl⟩ trivial
  exact ⟨n, _, h1, h2, h3, hpost _ _ _ _ _ _ ⟨Cond.after_iff.mpr rfl, Cond.after_iff.mpr (eq_i res_at (Term.int_eval (1)) rfl), trivial⟩ (fr_end N hq _ (by decide) (by decide))⟩
theorem main_1_1 : Claimed_1_1 := comes_1 fun _ _ _ _ _ _ h hF => ⟨h.1, hF⟩
theorem main_1_2 : Claimed_1_2 := comes_1 fun _ _ _ _ _ _ h hF => ⟨h.2.1, hF⟩
end Jvm.Pilot.@@N@@
namespace Jvm.Pilot.@@N@@
open Jvm Jvm.ClassFile Sem Op Lib Jvm.Free Jvm.Stand Jvm.Pilot.@@N@@.Jvm.D
/-! MADE BY PROGRAM (witnessworld.py) out of the Statement's table words and the real class files: 13 classes; the members and pool entries that the words name. The judged class is class 1, her method 2. -/
namespace start1
open Jvm.ClassFile
def u (s : String) : CpInfo := .utf8 (stringToUtf16 s)
/-- a pool by its gaps: so many unusable entries, then the entry; so many at the end -/
def gap : Nat → List CpInfo → List CpInfo
  | 0, r => r
  | n + 1, r => .unusable :: gap n r
def poolList (es : List (Nat × CpInfo)) (last : Nat) : List CpInfo := es.foldr (fun e r => gap e.1 (e.2 :: r)) (gap last [])
def pool (es : List (Nat × CpInfo)) (last : Nat) : Array CpInfo := ⟨poolList es last⟩
def fileOf (pool : Array CpInfo) (this : Nat) (attrs : Array Attribute := #[]) (ms : Array MethodInfo := #[]) (fl : Nat := 33) (sup : Nat := 0) (ifs : Array Nat := #[]) (fds : Array FieldInfo := #[]) : ClassFile where
  minorVersion := 0
  majorVersion := 65
  constantPool := pool
  accessFlags := fl
  thisClass := this
  superClass := sup
  interfaces := ifs
  fields := fds
  methods := ms
  attributes := attrs
def plain (name : String) (sup : Option ClassId) : Class where
  name := name
  kind := .ordinary
  loader := none
  accessFlags := 33
  super := sup
  interfaces := #[]
  cf := none
  fields := #[]
  methods := #[]
  instanceTypes := #[]
  staticTypes := #[]
  resolved := #[]
  callSites := []
  init := .initialized
  statics := none
  mirror := none

def pool0 : Array CpInfo := pool [(5, u "<init>"), (0, u "()V"), (1, .class_ 10), (1, u "java/lang/Object")] 113

def k0m0 : Method := { name := "<init>", desc := "()V", sig := { parameters := [], returnType := none }, accessFlags := 1, code := none }
/-- java/lang/Object -/
def k0 : Class := { plain "java/lang/Object" none with
  accessFlags := 33
  interfaces := #[]
  cf := some (fileOf pool0 8 #[] #[{ accessFlags := 1, nameIndex := 5, descriptorIndex := 6, attributes := #[] }] 33 0 #[] #[])
  fields := #[]
  methods := #[k0m0]
  instanceTypes := #[]
  staticTypes := #[]
  resolved := Array.replicate 124 none
  statics := none }

def pool1 : Array CpInfo := pool [(2, .class_ 4), (1, u "java/lang/Object"), (0, u "<init>"), (0, u "()V"), (0, .fieldref 8 9), (0, .class_ 10), (0, .nameAndType 11 12), (0, u "tidestone/parquet/ParquetColumn$Type"), (0, u "BOOLEAN"), (0, u "Ltidestone/parquet/ParquetColumn$Type;"), (0, .fieldref 8 14), (0, .nameAndType 15 12), (0, u "INT8"), (0, .fieldref 8 17), (0, .nameAndType 18 12), (0, u "INT16"), (0, .fieldref 8 20), (0, .nameAndType 21 12), (0, u "INT32"), (0, .fieldref 8 23), (0, .nameAndType 24 12), (0, u "INT64"), (0, .fieldref 8 26), (0, .nameAndType 27 12), (0, u "FLOAT"), (0, .fieldref 8 29), (0, .nameAndType 30 12), (0, u "DOUBLE"), (0, .fieldref 8 32), (0, .nameAndType 33 12), (0, u "STRING"), (0, .fieldref 8 35), (0, .nameAndType 36 12), (0, u "BYTES"), (0, .fieldref 8 38), (0, .nameAndType 39 12), (0, u "DATE"), (0, .fieldref 8 41), (0, .nameAndType 42 12), (0, u "TIME_MILLIS"), (0, .fieldref 8 44), (0, .nameAndType 45 12), (0, u "TIMESTAMP_MILLIS"), (0, .fieldref 8 47), (0, .nameAndType 48 12), (0, u "TIMESTAMP_MICROS"), (0, .fieldref 8 50), (0, .nameAndType 51 12), (0, u "TIMESTAMP_MILLIS_UTC"), (0, .fieldref 8 53), (0, .nameAndType 54 12), (0, u "TIMESTAMP_MICROS_UTC"), (0, .fieldref 8 56), (0, .nameAndType 57 12), (0, u "INT96"), (0, .fieldref 8 59), (0, .nameAndType 60 12), (0, u "DECIMAL_INT32"), (0, .fieldref 8 62), (0, .nameAndType 63 12), (0, u "DECIMAL_INT64"), (0, .fieldref 8 65), (0, .nameAndType 66 12), (0, u "DECIMAL_FIXED"), (0, .integer 2147483647), (0, .methodref 69 70), (0, .class_ 71), (0, .nameAndType 72 73), (0, u "tidestone/parquet/TypeIsDecimalPinLaw"), (0, u "pick"), (0, u "(I)Ltidestone/parquet/ParquetColumn$Type;"), (0, .methodref 8 75), (0, .nameAndType 76 77), (0, u "isDecimal"), (0, u "()Z"), (0, .methodref 8 79), (0, .nameAndType 80 81), (0, u "physicalType"), (0, u "()Ltidestone/parquet/PhysicalType;"), (0, .fieldref 83 84), (0, .class_ 85), (0, .nameAndType 21 86), (0, u "tidestone/parquet/PhysicalType"), (0, u "Ltidestone/parquet/PhysicalType;"), (0, .fieldref 83 88), (0, .nameAndType 24 86), (0, .fieldref 83 90), (0, .nameAndType 91 86), (0, u "FIXED_LEN_BYTE_ARRAY"), (3, u "law"), (0, u "(I)Z")] 6

def k1m0 : Method := { name := "<init>", desc := "()V", sig := { parameters := [], returnType := none }, accessFlags := 1, code := none }
def k1c1 : Code := { maxStack := 2, maxLocals := 1, code := method_2_code, exceptionTable := #[], attributes := #[] }
def k1m1 : Method := { name := "pick", desc := "(I)Ltidestone/parquet/ParquetColumn$Type;", sig := { parameters := [.int], returnType := some (.object "tidestone/parquet/ParquetColumn$Type") }, accessFlags := 10, code := some k1c1 }
def k1c2 : Code := { maxStack := 2, maxLocals := 6, code := code, exceptionTable := #[], attributes := #[] }
def k1m2 : Method := { name := "law", desc := "(I)Z", sig := { parameters := [.int], returnType := some .boolean }, accessFlags := 9, code := some k1c2 }
/-- tidestone/parquet/TypeIsDecimalPinLaw -/
def k1 : Class := { plain "tidestone/parquet/TypeIsDecimalPinLaw" (some 0) with
  accessFlags := 49
  interfaces := #[]
  cf := some (fileOf pool1 69 #[] #[{ accessFlags := 1, nameIndex := 5, descriptorIndex := 6, attributes := #[] }, { accessFlags := 10, nameIndex := 72, descriptorIndex := 73, attributes := #[] }, { accessFlags := 9, nameIndex := 95, descriptorIndex := 96, attributes := #[] }] 49 2 #[] #[])
  fields := #[]
  methods := #[k1m0, k1m1, k1m2]
  instanceTypes := #[]
  staticTypes := #[]
  resolved := Array.replicate 103 none
  statics := none }

def pool2 : Array CpInfo := pool [(1, .class_ 2), (0, u "java/lang/constant/Constable"), (0, .class_ 4), (0, u "java/lang/Object")] 6

/-- java/lang/constant/Constable -/
def k2 : Class := { plain "java/lang/constant/Constable" (some 0) with
  accessFlags := 1537
  interfaces := #[]
  cf := some (fileOf pool2 1 #[] #[] 1537 3 #[] #[])
  fields := #[]
  methods := #[]
  instanceTypes := #[]
  staticTypes := #[]
  resolved := Array.replicate 11 none
  statics := none }

def pool3 : Array CpInfo := pool [(1, .class_ 2), (0, u "java/lang/Comparable"), (0, .class_ 4), (0, u "java/lang/Object")] 7

/-- java/lang/Comparable -/
def k3 : Class := { plain "java/lang/Comparable" (some 0) with
  accessFlags := 1537
  interfaces := #[]
  cf := some (fileOf pool3 1 #[] #[] 1537 3 #[] #[])
  fields := #[]
  methods := #[]
  instanceTypes := #[]
  staticTypes := #[]
  resolved := Array.replicate 12 none
  statics := none }

def pool4 : Array CpInfo := pool [(1, .class_ 2), (0, u "java/io/Serializable"), (0, .class_ 4), (0, u "java/lang/Object")] 2

/-- java/io/Serializable -/
def k4 : Class := { plain "java/io/Serializable" (some 0) with
  accessFlags := 1537
  interfaces := #[]
  cf := some (fileOf pool4 1 #[] #[] 1537 3 #[] #[])
  fields := #[]
  methods := #[]
  instanceTypes := #[]
  staticTypes := #[]
  resolved := Array.replicate 7 none
  statics := none }

def pool5 : Array CpInfo := pool [(2, .class_ 4), (1, u "java/lang/Enum"), (0, u "name"), (0, u "Ljava/lang/String;"), (2, u "ordinal"), (0, u "I"), (1, .class_ 14), (1, u "java/lang/Object"), (4, u "hash"), (86, .class_ 108), (1, u "java/lang/Enum$EnumDesc"), (2, .class_ 112), (0, u "java/lang/constant/Constable"), (0, .class_ 114), (0, u "java/lang/Comparable"), (0, .class_ 116), (0, u "java/io/Serializable")] 87

/-- java/lang/Enum -/
def k5 : Class := { plain "java/lang/Enum" (some 0) with
  accessFlags := 1057
  interfaces := #[2, 3, 4]
  cf := some (fileOf pool5 2 #[.nestMembers #[106]] #[] 1057 12 #[111, 113, 115] #[{ accessFlags := 18, nameIndex := 5, descriptorIndex := 6, attributes := #[] }, { accessFlags := 18, nameIndex := 9, descriptorIndex := 10, attributes := #[] }, { accessFlags := 2, nameIndex := 19, descriptorIndex := 10, attributes := #[] }])
  fields := #[{ name := "name", type := (.object "java/lang/String"), accessFlags := 18, slot := 0, constantValue := 0 }, { name := "ordinal", type := .int, accessFlags := 18, slot := 1, constantValue := 0 }, { name := "hash", type := .int, accessFlags := 2, slot := 2, constantValue := 0 }]
  methods := #[]
  instanceTypes := #[(.object "java/lang/String"), .int, .int]
  staticTypes := #[]
  resolved := Array.replicate 204 none
  statics := none }

def pool6 : Array CpInfo := pool [(1, .class_ 2), (0, u "tidestone/parquet/ParquetColumn$Type"), (2, u "BOOLEAN"), (0, u "Ltidestone/parquet/ParquetColumn$Type;"), (2, u "INT8"), (2, u "INT16"), (2, u "INT32"), (2, u "INT64"), (2, u "FLOAT"), (2, u "DOUBLE"), (2, u "STRING"), (2, u "BYTES"), (2, u "DATE"), (2, u "TIME_MILLIS"), (2, u "TIMESTAMP_MILLIS"), (2, u "TIMESTAMP_MICROS"), (2, u "TIMESTAMP_MILLIS_UTC"), (2, u "TIMESTAMP_MICROS_UTC"), (2, u "INT96"), (0, .fieldref 1 53), (0, .nameAndType 54 6), (0, u "DECIMAL_INT32"), (0, .fieldref 1 56), (0, .nameAndType 57 6), (0, u "DECIMAL_INT64"), (0, .fieldref 1 59), (0, .nameAndType 60 6), (0, u "DECIMAL_FIXED"), (2, u "$VALUES"), (0, u "[Ltidestone/parquet/ParquetColumn$Type;"), (6, .class_ 73), (1, u "java/lang/Enum"), (6, .fieldref 1 81), (0, .nameAndType 82 83), (0, u "physicalType"), (0, u "Ltidestone/parquet/PhysicalType;"), (53, u "()Ltidestone/parquet/PhysicalType;"), (0, u "isDecimal"), (0, u "()Z"), (7, .class_ 148), (0, u "tidestone/parquet/ParquetColumn")] 2

def k6c0 : Code := { maxStack := 1, maxLocals := 1, code := prog_91_method_4_code, exceptionTable := #[], attributes := #[] }
def k6m0 : Method := { name := "physicalType", desc := "()Ltidestone/parquet/PhysicalType;", sig := { parameters := [], returnType := some (.object "tidestone/parquet/PhysicalType") }, accessFlags := 1, code := some k6c0 }
def k6c1 : Code := { maxStack := 2, maxLocals := 1, code := prog_91_method_5_code, exceptionTable := #[], attributes := #[] }
def k6m1 : Method := { name := "isDecimal", desc := "()Z", sig := { parameters := [], returnType := some .boolean }, accessFlags := 0, code := some k6c1 }
/-- tidestone/parquet/ParquetColumn$Type -/
def k6 : Class := { plain "tidestone/parquet/ParquetColumn$Type" (some 5) with
  accessFlags := 16433
  interfaces := #[]
  cf := some (fileOf pool6 1 #[.nestHost 147] #[{ accessFlags := 1, nameIndex := 82, descriptorIndex := 137, attributes := #[] }, { accessFlags := 0, nameIndex := 138, descriptorIndex := 139, attributes := #[] }] 16433 71 #[] #[{ accessFlags := 16409, nameIndex := 5, descriptorIndex := 6, attributes := #[] }, { accessFlags := 16409, nameIndex := 9, descriptorIndex := 6, attributes := #[] }, { accessFlags := 16409, nameIndex := 12, descriptorIndex := 6, attributes := #[] }, { accessFlags := 16409, nameIndex := 15, descriptorIndex := 6, attributes := #[] }, { accessFlags := 16409, nameIndex := 18, descriptorIndex := 6, attributes := #[] }, { accessFlags := 16409, nameIndex := 21, descriptorIndex := 6, attributes := #[] }, { accessFlags := 16409, nameIndex := 24, descriptorIndex := 6, attributes := #[] }, { accessFlags := 16409, nameIndex := 27, descriptorIndex := 6, attributes := #[] }, { accessFlags := 16409, nameIndex := 30, descriptorIndex := 6, attributes := #[] }, { accessFlags := 16409, nameIndex := 33, descriptorIndex := 6, attributes := #[] }, { accessFlags := 16409, nameIndex := 36, descriptorIndex := 6, attributes := #[] }, { accessFlags := 16409, nameIndex := 39, descriptorIndex := 6, attributes := #[] }, { accessFlags := 16409, nameIndex := 42, descriptorIndex := 6, attributes := #[] }, { accessFlags := 16409, nameIndex := 45, descriptorIndex := 6, attributes := #[] }, { accessFlags := 16409, nameIndex := 48, descriptorIndex := 6, attributes := #[] }, { accessFlags := 16409, nameIndex := 51, descriptorIndex := 6, attributes := #[] }, { accessFlags := 16409, nameIndex := 54, descriptorIndex := 6, attributes := #[] }, { accessFlags := 16409, nameIndex := 57, descriptorIndex := 6, attributes := #[] }, { accessFlags := 16409, nameIndex := 60, descriptorIndex := 6, attributes := #[] }, { accessFlags := 18, nameIndex := 82, descriptorIndex := 83, attributes := #[] }, { accessFlags := 4122, nameIndex := 63, descriptorIndex := 64, attributes := #[] }])
  fields := #[{ name := "BOOLEAN", type := (.object "tidestone/parquet/ParquetColumn$Type"), accessFlags := 16409, slot := 0, constantValue := 0 }, { name := "INT8", type := (.object "tidestone/parquet/ParquetColumn$Type"), accessFlags := 16409, slot := 1, constantValue := 0 }, { name := "INT16", type := (.object "tidestone/parquet/ParquetColumn$Type"), accessFlags := 16409, slot := 2, constantValue := 0 }, { name := "INT32", type := (.object "tidestone/parquet/ParquetColumn$Type"), accessFlags := 16409, slot := 3, constantValue := 0 }, { name := "INT64", type := (.object "tidestone/parquet/ParquetColumn$Type"), accessFlags := 16409, slot := 4, constantValue := 0 }, { name := "FLOAT", type := (.object "tidestone/parquet/ParquetColumn$Type"), accessFlags := 16409, slot := 5, constantValue := 0 }, { name := "DOUBLE", type := (.object "tidestone/parquet/ParquetColumn$Type"), accessFlags := 16409, slot := 6, constantValue := 0 }, { name := "STRING", type := (.object "tidestone/parquet/ParquetColumn$Type"), accessFlags := 16409, slot := 7, constantValue := 0 }, { name := "BYTES", type := (.object "tidestone/parquet/ParquetColumn$Type"), accessFlags := 16409, slot := 8, constantValue := 0 }, { name := "DATE", type := (.object "tidestone/parquet/ParquetColumn$Type"), accessFlags := 16409, slot := 9, constantValue := 0 }, { name := "TIME_MILLIS", type := (.object "tidestone/parquet/ParquetColumn$Type"), accessFlags := 16409, slot := 10, constantValue := 0 }, { name := "TIMESTAMP_MILLIS", type := (.object "tidestone/parquet/ParquetColumn$Type"), accessFlags := 16409, slot := 11, constantValue := 0 }, { name := "TIMESTAMP_MICROS", type := (.object "tidestone/parquet/ParquetColumn$Type"), accessFlags := 16409, slot := 12, constantValue := 0 }, { name := "TIMESTAMP_MILLIS_UTC", type := (.object "tidestone/parquet/ParquetColumn$Type"), accessFlags := 16409, slot := 13, constantValue := 0 }, { name := "TIMESTAMP_MICROS_UTC", type := (.object "tidestone/parquet/ParquetColumn$Type"), accessFlags := 16409, slot := 14, constantValue := 0 }, { name := "INT96", type := (.object "tidestone/parquet/ParquetColumn$Type"), accessFlags := 16409, slot := 15, constantValue := 0 }, { name := "DECIMAL_INT32", type := (.object "tidestone/parquet/ParquetColumn$Type"), accessFlags := 16409, slot := 16, constantValue := 0 }, { name := "DECIMAL_INT64", type := (.object "tidestone/parquet/ParquetColumn$Type"), accessFlags := 16409, slot := 17, constantValue := 0 }, { name := "DECIMAL_FIXED", type := (.object "tidestone/parquet/ParquetColumn$Type"), accessFlags := 16409, slot := 18, constantValue := 0 }, { name := "physicalType", type := (.object "tidestone/parquet/PhysicalType"), accessFlags := 18, slot := 3, constantValue := 0 }, { name := "$VALUES", type := (.array (.object "tidestone/parquet/ParquetColumn$Type")), accessFlags := 4122, slot := 19, constantValue := 0 }]
  methods := #[k6m0, k6m1]
  instanceTypes := #[(.object "java/lang/String"), .int, .int, (.object "tidestone/parquet/PhysicalType")]
  staticTypes := #[(.object "tidestone/parquet/ParquetColumn$Type"), (.object "tidestone/parquet/ParquetColumn$Type"), (.object "tidestone/parquet/ParquetColumn$Type"), (.object "tidestone/parquet/ParquetColumn$Type"), (.object "tidestone/parquet/ParquetColumn$Type"), (.object "tidestone/parquet/ParquetColumn$Type"), (.object "tidestone/parquet/ParquetColumn$Type"), (.object "tidestone/parquet/ParquetColumn$Type"), (.object "tidestone/parquet/ParquetColumn$Type"), (.object "tidestone/parquet/ParquetColumn$Type"), (.object "tidestone/parquet/ParquetColumn$Type"), (.object "tidestone/parquet/ParquetColumn$Type"), (.object "tidestone/parquet/ParquetColumn$Type"), (.object "tidestone/parquet/ParquetColumn$Type"), (.object "tidestone/parquet/ParquetColumn$Type"), (.object "tidestone/parquet/ParquetColumn$Type"), (.object "tidestone/parquet/ParquetColumn$Type"), (.object "tidestone/parquet/ParquetColumn$Type"), (.object "tidestone/parquet/ParquetColumn$Type"), (.array (.object "tidestone/parquet/ParquetColumn$Type"))]
  resolved := Array.replicate 151 none
  statics := some 0 }

def pool7 : Array CpInfo := pool [(1, .class_ 2), (0, u "tidestone/parquet/PhysicalType"), (2, u "BOOLEAN"), (0, u "Ltidestone/parquet/PhysicalType;"), (2, u "INT32"), (2, u "INT64"), (2, u "INT96"), (2, u "FLOAT"), (2, u "DOUBLE"), (2, u "BYTE_ARRAY"), (2, u "FIXED_LEN_BYTE_ARRAY"), (2, u "$VALUES"), (0, u "[Ltidestone/parquet/PhysicalType;"), (6, .class_ 40), (1, u "java/lang/Enum"), (23, u "INT96_BYTES"), (0, u "I")] 14

/-- tidestone/parquet/PhysicalType -/
def k7 : Class := { plain "tidestone/parquet/PhysicalType" (some 5) with
  accessFlags := 16433
  interfaces := #[]
  cf := some (fileOf pool7 1 #[] #[] 16433 38 #[] #[{ accessFlags := 16409, nameIndex := 5, descriptorIndex := 6, attributes := #[] }, { accessFlags := 16409, nameIndex := 9, descriptorIndex := 6, attributes := #[] }, { accessFlags := 16409, nameIndex := 12, descriptorIndex := 6, attributes := #[] }, { accessFlags := 16409, nameIndex := 15, descriptorIndex := 6, attributes := #[] }, { accessFlags := 16409, nameIndex := 18, descriptorIndex := 6, attributes := #[] }, { accessFlags := 16409, nameIndex := 21, descriptorIndex := 6, attributes := #[] }, { accessFlags := 16409, nameIndex := 24, descriptorIndex := 6, attributes := #[] }, { accessFlags := 16409, nameIndex := 27, descriptorIndex := 6, attributes := #[] }, { accessFlags := 25, nameIndex := 64, descriptorIndex := 65, attributes := #[] }, { accessFlags := 4122, nameIndex := 30, descriptorIndex := 31, attributes := #[] }])
  fields := #[{ name := "BOOLEAN", type := (.object "tidestone/parquet/PhysicalType"), accessFlags := 16409, slot := 0, constantValue := 0 }, { name := "INT32", type := (.object "tidestone/parquet/PhysicalType"), accessFlags := 16409, slot := 1, constantValue := 0 }, { name := "INT64", type := (.object "tidestone/parquet/PhysicalType"), accessFlags := 16409, slot := 2, constantValue := 0 }, { name := "INT96", type := (.object "tidestone/parquet/PhysicalType"), accessFlags := 16409, slot := 3, constantValue := 0 }, { name := "FLOAT", type := (.object "tidestone/parquet/PhysicalType"), accessFlags := 16409, slot := 4, constantValue := 0 }, { name := "DOUBLE", type := (.object "tidestone/parquet/PhysicalType"), accessFlags := 16409, slot := 5, constantValue := 0 }, { name := "BYTE_ARRAY", type := (.object "tidestone/parquet/PhysicalType"), accessFlags := 16409, slot := 6, constantValue := 0 }, { name := "FIXED_LEN_BYTE_ARRAY", type := (.object "tidestone/parquet/PhysicalType"), accessFlags := 16409, slot := 7, constantValue := 0 }, { name := "INT96_BYTES", type := .int, accessFlags := 25, slot := 8, constantValue := 0 }, { name := "$VALUES", type := (.array (.object "tidestone/parquet/PhysicalType")), accessFlags := 4122, slot := 9, constantValue := 0 }]
  methods := #[]
  instanceTypes := #[(.object "java/lang/String"), .int, .int]
  staticTypes := #[(.object "tidestone/parquet/PhysicalType"), (.object "tidestone/parquet/PhysicalType"), (.object "tidestone/parquet/PhysicalType"), (.object "tidestone/parquet/PhysicalType"), (.object "tidestone/parquet/PhysicalType"), (.object "tidestone/parquet/PhysicalType"), (.object "tidestone/parquet/PhysicalType"), (.object "tidestone/parquet/PhysicalType"), .int, (.array (.object "tidestone/parquet/PhysicalType"))]
  resolved := Array.replicate 80 none
  statics := some 1 }

def pool8 : Array CpInfo := pool [(1, u "java/lang/Cloneable"), (0, .class_ 1), (0, u "java/lang/Object"), (0, .class_ 3)] 3

/-- java/lang/Cloneable -/
def k8 : Class := { plain "java/lang/Cloneable" (some 0) with
  accessFlags := 1537
  interfaces := #[]
  cf := some (fileOf pool8 2 #[] #[] 1537 4 #[] #[])
  fields := #[]
  methods := #[]
  instanceTypes := #[]
  staticTypes := #[]
  resolved := Array.replicate 8 none
  statics := none }

/-- the primitive byte -/
def k9 : Class := { plain "byte" none with kind := .primitive 'B', accessFlags := 0x411 }
/-- [B -/
def k10 : Class := { plain "[B" (some 0) with kind := .array 9 .byte, interfaces := #[8, 4], accessFlags := 1041 }

/-- the primitive int -/
def k11 : Class := { plain "int" none with kind := .primitive 'I', accessFlags := 0x411 }
/-- [I -/
def k12 : Class := { plain "[I" (some 0) with kind := .array 11 .int, interfaces := #[8, 4], accessFlags := 1041 }

def heap : Heap := #[{ cls := 6, slots := #[.ref 10, .ref 11, .ref 12, .ref 13, .ref 14, .ref 15, .ref 16, .ref 17, .ref 18, .ref 19, .ref 20, .ref 21, .ref 22, .ref 23, .ref 24, .ref 25, .ref 26, .ref 27, .ref 28, .null], vm := .statics 6 },
  { cls := 7, slots := #[.ref 2, .ref 3, .ref 4, .ref 5, .ref 6, .ref 7, .ref 8, .ref 9, .int 0, .null], vm := .statics 7 },
  { cls := 7, slots := #[.null, .int 0, .int 0], vm := .none },
  { cls := 7, slots := #[.null, .int 1, .int 0], vm := .none },
  { cls := 7, slots := #[.null, .int 2, .int 0], vm := .none },
  { cls := 7, slots := #[.null, .int 3, .int 0], vm := .none },
  { cls := 7, slots := #[.null, .int 4, .int 0], vm := .none },
  { cls := 7, slots := #[.null, .int 5, .int 0], vm := .none },
  { cls := 7, slots := #[.null, .int 6, .int 0], vm := .none },
  { cls := 7, slots := #[.null, .int 7, .int 0], vm := .none },
  { cls := 6, slots := #[.null, .int 0, .int 0, .ref 2], vm := .none },
  { cls := 6, slots := #[.null, .int 1, .int 0, .ref 3], vm := .none },
  { cls := 6, slots := #[.null, .int 2, .int 0, .ref 3], vm := .none },
  { cls := 6, slots := #[.null, .int 3, .int 0, .ref 3], vm := .none },
  { cls := 6, slots := #[.null, .int 4, .int 0, .ref 4], vm := .none },
  { cls := 6, slots := #[.null, .int 5, .int 0, .ref 6], vm := .none },
  { cls := 6, slots := #[.null, .int 6, .int 0, .ref 7], vm := .none },
  { cls := 6, slots := #[.null, .int 7, .int 0, .ref 8], vm := .none },
  { cls := 6, slots := #[.null, .int 8, .int 0, .ref 8], vm := .none },
  { cls := 6, slots := #[.null, .int 9, .int 0, .ref 3], vm := .none },
  { cls := 6, slots := #[.null, .int 10, .int 0, .ref 3], vm := .none },
  { cls := 6, slots := #[.null, .int 11, .int 0, .ref 4], vm := .none },
  { cls := 6, slots := #[.null, .int 12, .int 0, .ref 4], vm := .none },
  { cls := 6, slots := #[.null, .int 13, .int 0, .ref 4], vm := .none },
  { cls := 6, slots := #[.null, .int 14, .int 0, .ref 4], vm := .none },
  { cls := 6, slots := #[.null, .int 15, .int 0, .ref 5], vm := .none },
  { cls := 6, slots := #[.null, .int 16, .int 0, .ref 3], vm := .none },
  { cls := 6, slots := #[.null, .int 17, .int 0, .ref 4], vm := .none },
  { cls := 6, slots := #[.null, .int 18, .int 0, .ref 9], vm := .none }]
def classes : Array Class := #[k0, k1, k2, k3, k4, k5, k6, k7, k8, k9, k10, k11, k12]
def interned : List (Array UInt16 × Addr) := []
def slotsUsed : Nat := 130
def theMethod : MethodId := ⟨1, 2⟩
def args0 : Array Value := #[.int 0]
def aboutOver (below : List Frame) : State where
  vm := { classes := classes, interned := interned.toArray }
  heap := heap
  slotsUsed := slotsUsed
  threads := #[{ frames := .invoking theMethod args0 :: below }]
def below0 : List Frame := [.native { method := ⟨0, 0⟩, args := #[] }]
def about1 : State := aboutOver below0
def p0 : Program := .bare "" "" ""
def e0 : Env := launch0.env 0 0 0
theorem w_frames : about1.frames = Frame.invoking theMethod args0 :: below0 := rfl
set_option maxRecDepth 65536 in
theorem w_args : argsFit about1.vm theMethod args0 = true := by decide +kernel
set_option maxRecDepth 65536 in
theorem w_heap : heapFits about1 = true := by decide +kernel
set_option maxRecDepth 65536 in
theorem w_runnable : about1.curStatus? = some .runnable := by decide +kernel
set_option maxRecDepth 65536 in
theorem w_alone : about1.alone = true := by decide +kernel
set_option maxRecDepth 65536 in
theorem w_named : about1.methodNamed? x = some theMethod := by decide +kernel
set_option maxRecDepth 65536 in
theorem w_hears : about1.hears theMethod below0 = true := by decide +kernel
set_option maxRecDepth 65536 in
theorem w_ripe : about1.ripe theMethod args0 below0 = true := by decide +kernel
theorem w_running : about1.status = .running := rfl
set_option maxRecDepth 65536 in
theorem w_room : about1.hasRoom e0.platform room_1 = true :=
  launch0.hasRoom_least _ room_1 (by decide +kernel) (by decide +kernel) (by decide +kernel) (by decide +kernel) (by decide +kernel) (by decide +kernel)
theorem allAtoms_all (ts : List Jvm.Cond) (a : Array Jvm.Value) (st : Jvm.State) : (allAtoms ts).before a st = ts.all (fun c => c.before a st) := by
  induction ts with
  | nil => rfl
  | cons c t ih =>
    show (Jvm.Cond.and c (allAtoms t)).before a st = _
    rw [Jvm.Cond.before_and, ih, List.all_cons]
def words1 : List Jvm.Cond := Jvm.Cond.code x code maxLocals ret :: tables_1
/-- a 'code' word, met by the world's own term for the bytes: nothing is compared byte by byte -/
theorem code_word {y : MethodName} {bytes : ByteArray} {mx : Nat} {rt : Option FieldType} {a : Array Value} {s : State} {m : MethodId} {meth : Method} {c : Code} (h1 : s.methodNamed? y = some m) (h2 : s.vm.method? m = some meth) (h3 : meth.code = some c) (h4 : c.code = bytes)
    (h5 : (c.maxLocals == mx && c.exceptionTable.isEmpty && decide (c.maxStack ≤ mostOperands) && decide (meth.sig.returnType = rt) && !meth.locks && decide (parseMethodDescriptor y.desc = some meth.sig)) = true) : (Jvm.Cond.code y bytes mx rt).before a s = true := by
  simp only [Bool.and_eq_true, beq_iff_eq, Bool.not_eq_true', decide_eq_true_eq] at h5
  obtain ⟨⟨⟨⟨⟨g1, g2⟩, g3⟩, g4⟩, g5⟩, g6⟩ := h5
  simp [Cond.before, Cond.holds, Cond.value, h1, h2, h3, h4, g1, g2, g3, g4, g5, g6]
def isCode : Jvm.Cond → Bool
  | .code _ _ _ _ => true
  | _ => false
theorem all_split {L : List Jvm.Cond} {P : Jvm.Cond → Bool} (h1 : L.all (fun c => isCode c || P c) = true) (h2 : ∀ c ∈ L.filter isCode, P c = true) : L.all P = true := by
  refine List.all_eq_true.mpr fun c hc => ?_
  have h := List.all_eq_true.mp h1 c hc
  rcases Bool.eq_false_or_eq_true (isCode c) with hi | hi
  · exact h2 c (List.mem_filter.mpr ⟨hc, hi⟩)
  · simpa [hi] using h
set_option maxRecDepth 65536 in
theorem w_c0 : (Jvm.Cond.code x code maxLocals ret).before args0 about1 = true := code_word (m := ⟨1, 2⟩) (meth := k1m2) (c := k1c2) (by decide +kernel) rfl rfl rfl (by decide +kernel)
set_option maxRecDepth 65536 in
theorem w_c1 : (Jvm.Cond.code ({ cls := "tidestone/parquet/TypeIsDecimalPinLaw", name := "pick", desc := "(I)Ltidestone/parquet/ParquetColumn$Type;" } : Jvm.MethodName) method_2_code (1 : Nat) (Option.some (Jvm.ClassFile.FieldType.object "tidestone/parquet/ParquetColumn$Type"))).before args0 about1 = true := code_word (m := ⟨1, 1⟩) (meth := k1m1) (c := k1c1) (by decide +kernel) rfl rfl rfl (by decide +kernel)
set_option maxRecDepth 65536 in
theorem w_c2 : (Jvm.Cond.code ({ cls := "tidestone/parquet/ParquetColumn$Type", name := "isDecimal", desc := "()Z" } : Jvm.MethodName) prog_91_method_5_code (1 : Nat) (Option.some Jvm.ClassFile.FieldType.boolean)).before args0 about1 = true := code_word (m := ⟨6, 1⟩) (meth := k6m1) (c := k6c1) (by decide +kernel) rfl rfl rfl (by decide +kernel)
set_option maxRecDepth 65536 in
theorem w_c3 : (Jvm.Cond.code ({ cls := "tidestone/parquet/ParquetColumn$Type", name := "physicalType", desc := "()Ltidestone/parquet/PhysicalType;" } : Jvm.MethodName) prog_91_method_4_code (1 : Nat) (Option.some (Jvm.ClassFile.FieldType.object "tidestone/parquet/PhysicalType"))).before args0 about1 = true := code_word (m := ⟨6, 0⟩) (meth := k6m0) (c := k6c0) (by decide +kernel) rfl rfl rfl (by decide +kernel)
def codes1 : List Jvm.Cond := [Jvm.Cond.code x code maxLocals ret, Jvm.Cond.code ({ cls := "tidestone/parquet/TypeIsDecimalPinLaw", name := "pick", desc := "(I)Ltidestone/parquet/ParquetColumn$Type;" } : Jvm.MethodName) method_2_code (1 : Nat) (Option.some (Jvm.ClassFile.FieldType.object "tidestone/parquet/ParquetColumn$Type")), Jvm.Cond.code ({ cls := "tidestone/parquet/ParquetColumn$Type", name := "isDecimal", desc := "()Z" } : Jvm.MethodName) prog_91_method_5_code (1 : Nat) (Option.some Jvm.ClassFile.FieldType.boolean), Jvm.Cond.code ({ cls := "tidestone/parquet/ParquetColumn$Type", name := "physicalType", desc := "()Ltidestone/parquet/PhysicalType;" } : Jvm.MethodName) prog_91_method_4_code (1 : Nat) (Option.some (Jvm.ClassFile.FieldType.object "tidestone/parquet/PhysicalType"))]
set_option maxRecDepth 65536 in
theorem codes_eq : words1.filter isCode = codes1 := rfl
theorem w_codes : ∀ c ∈ words1.filter isCode, c.before args0 about1 = true := by
  rw [codes_eq]
  intro c hc
  simp only [codes1, List.mem_cons, List.not_mem_nil, or_false] at hc
  rcases hc with rfl | rfl | rfl | rfl
  · exact w_c0
  · exact w_c1
  · exact w_c2
  · exact w_c3
set_option maxRecDepth 65536 in
theorem w_t1 : (words1.take 24).all (fun c => isCode c || c.before args0 about1) = true := by decide +kernel
set_option maxRecDepth 65536 in
theorem w_t2 : ((words1.drop 24).take 24).all (fun c => isCode c || c.before args0 about1) = true := by decide +kernel
set_option maxRecDepth 65536 in
theorem w_t3 : ((words1.drop 24).drop 24).all (fun c => isCode c || c.before args0 about1) = true := by decide +kernel
theorem w_tables : (allAtoms (Jvm.Cond.code x code maxLocals ret :: tables_1)).before args0 about1 = true := by
  rw [allAtoms_all]
  show words1.all (fun c => c.before args0 about1) = true
  refine all_split ?_ w_codes
  rw [← List.take_append_drop 24 words1, List.all_append, w_t1, ← List.take_append_drop 24 (words1.drop 24), List.all_append, w_t2, w_t3]
  rfl
set_option maxRecDepth 65536 in
theorem w_case : (Jvm.Cond.and given_1 narrow_1).before args0 about1 = true := by decide +kernel
theorem w_applies : (headSpec (Jvm.Cond.code x code maxLocals ret :: tables_1) room_1).applies x e0.platform about1 = true :=
  (Spec.applies_iff w_frames).mpr ⟨w_running, w_runnable, w_alone, w_named, w_hears, w_ripe, w_room, w_tables⟩
theorem atStart : AtStart classFile x code maxLocals ret World_1 tables_1 room_1 Calls_1 rest_1 Pre_1 launch0 p0 e0 about1 theMethod args0 below0 :=
  ⟨lists_1, trivial, launch0.admits_env _ _ _, launch0.least_env, fairChoices_fair.cas, fairChoices_fair.clock, w_frames, w_args, w_heap, w_applies, trivial, trivial, w_case⟩
end start1
theorem witness_1 : WitnessClaimed_1 := ⟨start1.p0, start1.e0, start1.about1, start1.theMethod, start1.args0, start1.below0, start1.atStart⟩
end Jvm.Pilot.@@N@@
