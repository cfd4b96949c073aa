import JvmDerived
import JvmDerived.Pilot.@@N@@Statement
import JvmDerived.Pilot.@@N@@Code
set_option linter.unusedVariables false
set_option linter.unusedSimpArgs false
namespace Jvm.OwnW
open Sem ClassFile Op Lib Jvm.Stand Jvm.Free Jvm.LawKit Jvm.RoadKit
/-! THE OWN LAYER: a walk as a backward reckoning over an abstract heap. -/
abbrev OS := List (Addr × (Cell → Prop))
abbrev FV := String × String × String × Value
abbrev Cx := Program × Launch × Env × Room × State × MethodId × Array Value × List Frame × Method × Code
/-- what the walk knows of a heap: the start's cells stand in it unchanged; the listed cells are new, lie apart, and are as described -/
def Hp (Z : State) (h : Heap) (os : OS) : Prop :=
  Ext Z.heap h ∧ (os.map Prod.fst).Nodup ∧ ∀ (k : Nat) (x : Addr × (Cell → Prop)), os[k]? = some x → Z.heap.size ≤ x.1 ∧ ∃ c, h[x.1]? = some c ∧ x.2 c
def FldC (Z : State) (c : Cell) (f : FV) : Prop := ∃ (cf : ClassId) (k : Class) (i : Nat) (fd : Field), Z.fieldFound? f.1 f.2.1 f.2.2.1 = some (cf, k, i, fd) ∧ fd.isStatic = false ∧ c.vm ≠ .unknown ∧ c.vm.isStatics = false ∧ Z.vm.assignable c.cls cf = true ∧ c.slots[fd.slot]? = some f.2.2.2
def ExaC (Z : State) (C : String) (c : Cell) : Prop := ∃ k : Class, Z.vm.findClass C = some c.cls ∧ Z.vm.classes[c.cls]? = some k ∧ c.vm.isStatics = false ∧ (k.kind = .ordinary → c.slots.size = k.instanceTypes.size)
def sl3 (Z : State) (f : FV) : Nat := RoadKit.slotOf Z f.1 f.2.1 f.2.2.1
/-- an object of just the class C with these fields -/
def OBJ (Z : State) (C : String) (fs : List FV) (c : Cell) : Prop := ExaC Z C c ∧ (fs.map (sl3 Z)).Nodup ∧ ∀ f ∈ fs, FldC Z c f
/-- an array of this component kind with these values -/
def ARR (Z : State) (ty : FieldType) (vs : List Value) (c : Cell) : Prop := Z.isArrayOf c ty ∧ c.vm ≠ .unknown ∧ c.slots = vs.toArray ∧ (∀ v ∈ vs, fits ty v = true) ∧ vs.length < 2 ^ 31

section Heap
variable {Z : State} {h h' : Heap} {os os' : OS} {a b : Addr} {P P' : Cell → Prop} {C O n d : String} {fs fs' : List FV} {v w : Value} {ty : FieldType} {vs : List Value} {c : Cell}
theorem Hp.nil (Z : State) : Hp Z Z.heap [] := ⟨⟨Nat.le_refl _, fun _ _ q => q⟩, List.nodup_nil, fun k x hx => by simp at hx⟩
theorem Hp.get (H : Hp Z h os) (hm : (a, P) ∈ os) : Z.heap.size ≤ a ∧ ∃ c, h[a]? = some c ∧ P c := by
  obtain ⟨k, hk⟩ := List.getElem?_of_mem hm
  exact H.2.2 k _ hk
theorem OBJ.exa (hc : h[a]? = some c) (q : OBJ Z C fs c) : Exa Z h a C := by
  obtain ⟨⟨k, h1, h2, h3, h4⟩, -⟩ := q
  exact ⟨c, k, hc, h1, h2, h3, h4⟩
theorem OBJ.fld (hc : h[a]? = some c) (q : OBJ Z C fs c) (hm : (O, n, d, v) ∈ fs) : Fld Z h a O n d v := by
  obtain ⟨cf, k, i, fd, h1, h2, h3, h4, h5, h6⟩ := q.2.2 _ hm
  exact ⟨c, cf, k, i, fd, hc, h1, h2, h3, h4, h5, h6⟩
theorem Hp.ne (H : Hp Z h os) {i j : Nat} {P P' : Cell → Prop} (hi : os[i]? = some (a, P)) (hj : os[j]? = some (b, P')) (hn : i ≠ j) : a ≠ b := by
  intro e
  subst e
  have h1 : (os.map Prod.fst)[i]? = some a := by simp [hi]
  have h2 : (os.map Prod.fst)[j]? = some a := by simp [hj]
  exact hn ((List.getElem?_inj (List.getElem?_eq_some_iff.mp h1).1 H.2.1).mp (h1.trans h2.symm))
theorem Hp.upd (H : Hp Z h os) {i : Nat} (hi : os[i]? = some (a, P)) {sl : Nat} (W : Wr h h' a sl v) (q : ∀ c c', h[a]? = some c → P c → h'[a]? = some c' → c' = c.setSlot sl v → P' c') : Hp Z h' (os.set i (a, P')) := by
  obtain ⟨ha, ca, hca, hPa⟩ := H.2.2 i _ hi
  refine ⟨⟨by rw [W.size]; exact H.1.1, fun x cx hx => ?_⟩, ?_, fun k x hx => ?_⟩
  · obtain ⟨cx', e1, -, -, -, e5, -⟩ := wr_at W (H.1.2 x cx hx)
    have ne : x ≠ a := fun e => by
      subst e
      exact absurd (Array.getElem?_eq_some_iff.mp hx).1 (Nat.not_lt.mpr ha)
    rw [e5 ne] at e1; exact e1
  · have e : (os.set i (a, P')).map Prod.fst = os.map Prod.fst := by
      apply List.ext_getElem?
      intro k
      simp only [List.getElem?_map, List.getElem?_set]
      split
      · rename_i e; subst e
        rw [if_pos (List.getElem?_eq_some_iff.mp hi).1, hi]; rfl
      · rfl
    rw [e]; exact H.2.1
  · rw [List.getElem?_set] at hx
    split at hx
    · rename_i e; subst e
      split at hx
      · cases hx
        obtain ⟨c', e1, -, -, -, -, -, e7⟩ := wr_at W hca
        exact ⟨ha, c', e1, q ca c' hca hPa e1 (e7 rfl).1⟩
      · cases hx
    · rename_i hne
      obtain ⟨g1, cx, g2, g3⟩ := H.2.2 k x hx
      obtain ⟨c', e1, -, -, -, e5, -⟩ := wr_at W g2
      have ne : x.1 ≠ a := H.ne (i := k) (j := i) (P := x.2) hx hi (fun e => hne e.symm)
      rw [e5 ne] at e1
      exact ⟨g1, cx, e1, g3⟩
theorem Hp.new (H : Hp Z h os) (E : Ext h h') (hc : h'[h.size]? = some c) (hP : P c) : Hp Z h' ((h.size, P) :: os) := by
  refine ⟨⟨Nat.le_trans H.1.1 E.1, fun x cx q => E.2 _ _ (H.1.2 _ _ q)⟩, ?_, fun k x hx => ?_⟩
  · rw [List.map_cons, List.nodup_cons]
    refine ⟨fun hm => ?_, H.2.1⟩
    obtain ⟨⟨y1, y2⟩, hy, he⟩ := List.mem_map.mp hm
    obtain ⟨-, cy, hcy, -⟩ := H.get hy
    have := (Array.getElem?_eq_some_iff.mp hcy).1
    dsimp at he
    rw [he] at this; exact Nat.lt_irrefl _ this
  · cases k with
    | zero => cases hx; exact ⟨H.1.1, c, hc, hP⟩
    | succ k =>
      obtain ⟨g1, cx, g2, g3⟩ := H.2.2 k x hx
      exact ⟨g1, cx, E.2 _ _ g2, g3⟩
theorem Hp.ext (H : Hp Z h os) (E : Ext h h') : Hp Z h' os :=
  ⟨⟨Nat.le_trans H.1.1 E.1, fun x cx q => E.2 _ _ (H.1.2 _ _ q)⟩, H.2.1, fun k x hx => by
    obtain ⟨g1, cx, g2, g3⟩ := H.2.2 k x hx; exact ⟨g1, cx, E.2 _ _ g2, g3⟩⟩
theorem Hp.perm (H : Hp Z h os) (p : os.Perm os') : Hp Z h os' :=
  ⟨H.1, (p.map Prod.fst).nodup_iff.mp H.2.1, fun k x hx => by
    obtain ⟨k', hk'⟩ := List.getElem?_of_mem (p.symm.subset (List.mem_of_getElem? hx))
    exact H.2.2 k' x hk'⟩
theorem Hp.sub (H : Hp Z h os) (p : List.Sublist os' os) : Hp Z h os' :=
  ⟨H.1, H.2.1.sublist (p.map Prod.fst), fun k x hx => by
    obtain ⟨k', hk'⟩ := List.getElem?_of_mem (p.subset (List.mem_of_getElem? hx))
    exact H.2.2 k' x hk'⟩
theorem Hp.imp (H : Hp Z h ((a, P) :: os)) (q : ∀ c, P c → P' c) : Hp Z h ((a, P') :: os) :=
  ⟨H.1, H.2.1, fun k x hx => by
    cases k with
    | zero => cases hx; obtain ⟨g1, c, g2, g3⟩ := H.2.2 0 (a, P) rfl; exact ⟨g1, c, g2, q c g3⟩
    | succ k => exact H.2.2 (k + 1) x hx⟩
/-- the list os with the entry at a turned from P to P' is os' -/
def Upd (os : OS) (a : Addr) (P P' : Cell → Prop) (os' : OS) : Prop := ∃ i : Nat, os[i]? = some (a, P) ∧ os' = os.set i (a, P')
theorem Upd.here {r : OS} : Upd ((a, P) :: r) a P P' ((a, P') :: r) := ⟨0, rfl, rfl⟩
theorem Upd.there {r r' : OS} {x : Addr × (Cell → Prop)} (u : Upd r a P P' r') : Upd (x :: r) a P P' (x :: r') := by
  obtain ⟨i, h1, rfl⟩ := u; exact ⟨i + 1, h1, rfl⟩
/-- the fields fs with (O, n, d) now at v are fs' -/
def UpdF (fs : List FV) (O n d : String) (w v : Value) (fs' : List FV) : Prop := ∃ i : Nat, fs[i]? = some (O, n, d, w) ∧ fs' = fs.set i (O, n, d, v)
theorem UpdF.here {r : List FV} : UpdF ((O, n, d, w) :: r) O n d w v ((O, n, d, v) :: r) := ⟨0, rfl, rfl⟩
theorem UpdF.there {r r' : List FV} {x : FV} (u : UpdF r O n d w v r') : UpdF (x :: r) O n d w v (x :: r') := by
  obtain ⟨i, h1, rfl⟩ := u; exact ⟨i + 1, h1, rfl⟩
theorem OBJ.put {c : Cell} (q : OBJ Z C fs c) (u : UpdF fs O n d w v fs') : OBJ Z C fs' (c.setSlot (RoadKit.slotOf Z O n d) v) := by
  obtain ⟨i, hi, rfl⟩ := u
  obtain ⟨⟨k, e1, e2, e3, e4⟩, nd, ff⟩ := q
  have hslots : ∀ j : Nat, (c.setSlot (RoadKit.slotOf Z O n d) v).slots[j]? = if RoadKit.slotOf Z O n d = j then (if j < c.slots.size then some v else none) else c.slots[j]? := fun j => by
    simp only [Cell.setSlot, Array.getElem?_setIfInBounds]
    by_cases e : RoadKit.slotOf Z O n d = j
    · rw [if_pos e, if_pos e, e]
    · rw [if_neg e, if_neg e]
  have hes : ∀ x ∈ fs, ∃ fd : Field, sl3 Z x = fd.slot ∧ ∃ cf k' i', Z.fieldFound? x.1 x.2.1 x.2.2.1 = some (cf, k', i', fd) := fun x hx => by
    obtain ⟨cf, k', i', fd, g1, -⟩ := ff x hx
    exact ⟨fd, by simp [sl3, RoadKit.slotOf, g1], cf, k', i', g1⟩
  refine ⟨⟨k, e1, e2, e3, fun z => by rw [show (c.setSlot (RoadKit.slotOf Z O n d) v).slots.size = c.slots.size by simp [Cell.setSlot]]; exact e4 z⟩, ?_, fun x hx => ?_⟩
  · have e : (fs.set i (O, n, d, v)).map (sl3 Z) = fs.map (sl3 Z) := by
      apply List.ext_getElem?
      intro k
      simp only [List.getElem?_map, List.getElem?_set]
      split
      · rename_i e; subst e
        rw [if_pos (List.getElem?_eq_some_iff.mp hi).1, hi]; rfl
      · rfl
    rw [e]; exact nd
  · obtain ⟨m, hm⟩ := List.getElem?_of_mem hx
    rw [List.getElem?_set] at hm
    split at hm
    · split at hm
      · cases hm
        obtain ⟨cf, k', i', fd, g1, g2, g3, g4, g5, g6⟩ := ff _ (List.mem_of_getElem? hi)
        refine ⟨cf, k', i', fd, g1, g2, g3, g4, g5, ?_⟩
        have es : RoadKit.slotOf Z O n d = fd.slot := by have g1' : Z.fieldFound? O n d = some (cf, k', i', fd) := g1; simp [RoadKit.slotOf, g1']
        rw [hslots, if_pos es, if_pos (Array.getElem?_eq_some_iff.mp g6).1]
      · cases hm
    · rename_i hne
      obtain ⟨cf, k', i', fd, g1, g2, g3, g4, g5, g6⟩ := ff x (List.mem_of_getElem? hm)
      refine ⟨cf, k', i', fd, g1, g2, g3, g4, g5, ?_⟩
      have es : sl3 Z x = fd.slot := by simp [sl3, RoadKit.slotOf, g1]
      have ne : RoadKit.slotOf Z O n d ≠ fd.slot := fun e => by
        have h1 : (fs.map (sl3 Z))[i]? = some fd.slot := by simp [hi, sl3, e]
        have h2 : (fs.map (sl3 Z))[m]? = some fd.slot := by simp [hm, es]
        exact hne ((List.getElem?_inj (List.getElem?_eq_some_iff.mp h1).1 nd).mp (h1.trans h2.symm))
      rw [hslots, if_neg ne]; exact g6
theorem ARR.put {c : Cell} (q : ARR Z ty vs c) {k : Nat} (hv : fits ty v = true) : ARR Z ty (vs.set k v) (c.setSlot k v) := by
  obtain ⟨h1, h2, h3, h4, h5⟩ := q
  refine ⟨h1, h2, by simp [Cell.setSlot, h3], fun x hx => ?_, by simpa using h5⟩
  rcases List.mem_or_eq_of_mem_set hx with g | g
  · exact h4 x g
  · rw [g]; exact hv
/-- the sheet's words on the fields of a class, and their first values -/
def Laids (Z : State) (a0 : Array Value) (C : String) : List FV → Prop
  | [] => True
  | f :: r => (Laid Z a0 C f.1 f.2.1 f.2.2.1 ∧ ∃ ty, parseFieldDescriptor f.2.2.1 = some ty ∧ defaultValue ty = f.2.2.2) ∧ Laids Z a0 C r
theorem Laids.mem {a0 : Array Value} : ∀ {fs : List FV}, Laids Z a0 C fs → ∀ f ∈ fs, Laid Z a0 C f.1 f.2.1 f.2.2.1 ∧ ∃ ty, parseFieldDescriptor f.2.2.1 = some ty ∧ defaultValue ty = f.2.2.2
  | [], _, f, hf => nomatch hf
  | g :: r, q, f, hf => by
    rcases List.mem_cons.mp hf with rfl | hf
    · exact q.1
    · exact Laids.mem q.2 f hf
theorem Laids.nodup {a0 : Array Value} : ∀ {fs : List FV}, Laids Z a0 C fs → (fs.map (fun f => f.2.1)).Nodup → (fs.map (sl3 Z)).Nodup
  | [], _, _ => List.nodup_nil
  | g :: r, q, nd => by
    rw [List.map_cons, List.nodup_cons] at nd ⊢
    refine ⟨fun hm => ?_, Laids.nodup q.2 nd.2⟩
    obtain ⟨x, hx, he⟩ := List.mem_map.mp hm
    obtain ⟨l1, t1, p1, -⟩ := q.1
    obtain ⟨l2, t2, p2, -⟩ := Laids.mem q.2 x hx
    exact RoadKit.slot_ne l2 l1 (fun e => nd.1 (List.mem_map.mpr ⟨x, hx, e⟩)) p2 p1 he
theorem OBJ.new {a0 : Array Value} (E : Exa Z h a C) (D : ∀ {O nm d : String} {ty : FieldType}, Laid Z a0 C O nm d → parseFieldDescriptor d = some ty → Fld Z h a O nm d (defaultValue ty)) (q : Laids Z a0 C fs) (nd : (fs.map (fun f => f.2.1)).Nodup) :
    ∃ c, h[a]? = some c ∧ OBJ Z C fs c := by
  obtain ⟨c, k, h1, h2, h3, h4, h5⟩ := E
  refine ⟨c, h1, ⟨k, h2, h3, h4, h5⟩, q.nodup nd, fun f hf => ?_⟩
  obtain ⟨l1, ty, p1, e1⟩ := q.mem f hf
  obtain ⟨c', cf, k', i, fd, g1, g2, g3, g4, g5, g6, g7⟩ := D l1 p1
  cases h1.symm.trans g1
  exact ⟨cf, k', i, fd, g2, g3, g4, g5, g6, by rw [← e1]; exact g7⟩
end Heap
end Jvm.OwnW
namespace Jvm.OwnW
open Sem ClassFile Op Lib Jvm.Stand Jvm.Free Jvm.LawKit Jvm.RoadKit
def Stn (X : Cx) (T : State) (locs : List Loc) (ce sl : Nat) : Prop := Stand X.1 X.2.1 X.2.2.1 X.2.2.2.1 X.2.2.2.2.1 X.2.2.2.2.2.1 X.2.2.2.2.2.2.1 X.2.2.2.2.2.2.2.1 X.2.2.2.2.2.2.2.2.1 X.2.2.2.2.2.2.2.2.2 T locs ce sl
/-- from here the run comes to the method's end, and there Q holds -/
def Fn (X : Cx) (Z : State) (rc rs : Nat) (Q : Option Value → OS → Prop) (start : State) : Prop :=
  ∃ s₂ o, Steps X.1.tables X.2.2.1 X.2.2.2.2.2.2.2.1 start s₂ ∧ s₂.status = .running ∧ Ended s₂ X.2.2.2.2.2.2.2.1 o ∧ ∃ v L, o = .returned v ∧ (∃ os', Q v os' ∧ Hp Z s₂.heap os' ∧ Fr Z.heap.size L) ∧ FrameEnd X.2.2.2.2.1 o s₂ L rc rs
def WP (X : Cx) (Z : State) (rc rs : Nat) (Q : Option Value → OS → Prop) (pc : Nat) (L : List Slot) (S : List Value) (os : OS) (ce sl : Nat) : Prop :=
  ∀ T locs, Stn X T locs ce sl → Hp Z T.heap os → Fr Z.heap.size locs → Fn X Z rc rs Q (T.setTop (mkF X.2.2.2.2.2.1 pc L.toArray S))
def Ctx (X : Cx) (l : Launch) (Z : State) (R : Room) (y : MethodName) (code : ByteArray) (maxL : Nat) (ret : Option FieldType) : Prop :=
  X.2.1 = l ∧ X.2.2.2.1 = R ∧ X.1.tables.exec = Jvm.exec ∧ Z.Warmed39 X.2.2.2.2.1.vm ∧ X.2.2.2.2.2.2.2.2.2.code = code ∧ X.2.2.2.2.2.2.2.2.2.maxLocals = maxL ∧ X.2.2.2.2.1.vm.findClass y.cls = some X.2.2.2.2.2.1.cls ∧ X.2.2.2.2.2.2.2.2.1.name = y.name ∧ X.2.2.2.2.2.2.2.2.1.sig.returnType = ret ∧ X.2.2.2.2.2.2.2.2.1.locks = false
/-- the contract of a method, called with these arguments over this abstract heap -/
def OMeets (l : Launch) (Z : State) (y : MethodName) (bytes : ByteArray) (maxL : Nat) (ret : Option FieldType) (rm : Room) (as : List Value) (os : OS) (Q : Option Value → OS → Prop) : Prop :=
  ∀ h0, Hp Z h0 os → ∀ ws : List Jvm.Cond, MetFree l y (head1 (Jvm.Cond.code y bytes maxL ret :: ws) rm) (fun a U => a = as.toArray ∧ Z.Warmed39 U.vm ∧ U.heap = h0) (fun _ _ _ _ _ => True)
    (fun _ U o U' => ∃ v L, o = .returned v ∧ (∃ os', Q v os' ∧ Hp Z U'.heap os' ∧ Fr Z.heap.size L) ∧ FrameEnd U o U' L rm.cells rm.slots)
def RetV (q : Value → OS → Prop) : Option Value → OS → Prop := fun v os => ∃ x, v = some x ∧ q x os
def RetN (q : OS → Prop) : Option Value → OS → Prop := fun v os => v = none ∧ q os
theorem OMeets.of_body {l : Launch} {Z : State} {y : MethodName} {bytes : ByteArray} {maxL : Nat} {ret : Option FieldType} {rm : Room} {as : List Value} {os : OS} {Q : Option Value → OS → Prop} (L : List Slot)
    (hpn : plainFor y = true) (hef : argsToLocals as.toArray maxL = L.toArray) (hk : ∀ X : Cx, Ctx X l Z rm y bytes maxL ret → WP X Z rm.cells rm.slots Q 0 L [] os 0 0) : OMeets l Z y bytes maxL ret rm as os Q := by
  intro h0 H ws
  refine MetFree.of_bodySF hpn hisR ?_
  intro p e s m args below meth c s₁ Bd hml0 hP hK
  obtain ⟨rfl, hZ, hh⟩ := hP
  have X0 : Stand p l e rm s m as.toArray below meth c s₁ [] 0 0 := Stand.of_body Bd
  have e0 : s₁.heap = h0 := by rw [← hh, Bd.state]; rfl
  obtain ⟨s2, o, st, r⟩ := hk (p, l, e, rm, s, m, as.toArray, below, meth, c) ⟨rfl, rfl, Bd.exec, hZ, Bd.bytes, hml0, findClass_of_methodNamed Bd.named, (name_of_methodNamed Bd.named Bd.method).1, Bd.returns, Bd.notSynchronized⟩ s₁ [] X0 (by rw [e0]; exact H) (Fr.nil _)
  refine ⟨s2, o, castTop (g' := mkF m 0 L.toArray []) ?_ st, r⟩
  simp only [entryFrame, mkF, hef]
theorem OMeets.weaken {l : Launch} {Z : State} {y : MethodName} {bytes : ByteArray} {maxL : Nat} {ret : Option FieldType} {rm : Room} {as : List Value} {os : OS} {Q Q' : Option Value → OS → Prop}
    (h : OMeets l Z y bytes maxL ret rm as os Q) (q : ∀ v os', Q v os' → Q' v os') : OMeets l Z y bytes maxL ret rm as os Q' := by
  intro h0 H ws p e ha hc hk s m args below hf happ hP hK
  obtain ⟨n, o, h1, h2, h3, v, L, h4, ⟨os', h5, h6⟩, h7⟩ := h h0 H ws p e ha hc hk s m args below hf happ hP hK
  exact ⟨n, o, h1, h2, h3, v, L, h4, ⟨os', q v os' h5, h6⟩, h7⟩
section Ops
variable {X : Cx} {l : Launch} {Z : State} {R : Room} {y : MethodName} {code : ByteArray} {maxL : Nat} {ret : Option FieldType} {rc rs : Nat} {Q : Option Value → OS → Prop} {pc : Nat} {L : List Slot} {S : List Value} {os os' : OS} {ce sl : Nat} {a0 : Array Value}
theorem WP.perm (p : os.Perm os') (k : WP X Z rc rs Q pc L S os' ce sl) : WP X Z rc rs Q pc L S os ce sl := fun T locs hT hH hF => k T locs hT (hH.perm p) hF
theorem WP.sub (p : List.Sublist os' os) (k : WP X Z rc rs Q pc L S os' ce sl) : WP X Z rc rs Q pc L S os ce sl := fun T locs hT hH hF => k T locs hT (hH.sub p) hF
/-- a fact out of the abstract heap -/
theorem WP.fact {F : Prop} (f : ∀ h, Hp Z h os → F) (k : F → WP X Z rc rs Q pc L S os ce sl) : WP X Z rc rs Q pc L S os ce sl := fun T locs hT hH hF => k (f _ hH) T locs hT hH hF
theorem perm_front {α : Type} {x : α} : ∀ {os : List α} (i : Nat), os[i]? = some x → os.Perm (x :: os.eraseIdx i)
  | [], i, h => by simp at h
  | y :: r, 0, h => by cases h; exact List.Perm.refl _
  | y :: r, i + 1, h => ((perm_front (os := r) i h).cons y).trans (List.Perm.swap x y _)
theorem pickHere {α : Type} {x : α} {r : List α} : (x :: r).Perm (x :: r) := List.Perm.refl _
theorem pickThere {α : Type} {x z : α} {r r' : List α} (h : r.Perm (x :: r')) : (z :: r).Perm (x :: z :: r') := (h.cons z).trans (List.Perm.swap x z r')
/-- the entry of address a comes to the front -/
theorem WP.pick {P : Cell → Prop} (a : Addr) (p : os.Perm ((a, P) :: os')) (k : WP X Z rc rs Q pc L S ((a, P) :: os') ce sl) : WP X Z rc rs Q pc L S os ce sl := WP.perm p k
/-- more cells and slots booked than were used -/
theorem WP.book {ce' sl' : Nat} (hc : ce ≤ ce') (hs : sl ≤ sl') (k : WP X Z rc rs Q pc L S os ce' sl') : WP X Z rc rs Q pc L S os ce sl := by
  intro T locs hT hH hF
  refine k T locs ?_ hH hF
  obtain ⟨h1, h2, h3, h4, h5, h6, h7, h8, h9, h10, h11, h12, h13, h14⟩ := hT
  exact ⟨h1, h2, h3, h4, h5, h6, h7, h8, h9, h10, h11, h12, h13, h14.mono hc hs⟩

theorem W.iadd {x z : Int32} (K : Ctx X l Z R y code maxL ret) (pc' : Nat) (hd : decode code pc = .ok (.iadd, 1)) (k : WP X Z rc rs Q pc' L (.int (x + z) :: S) os ce sl) (hp : pc + 1 = pc' := by rfl) : WP X Z rc rs Q pc L (.int z :: .int x :: S) os ce sl := by
  obtain ⟨p, l', e, R', s, m, args, below, meth, c⟩ := X
  obtain ⟨h1, h2, hx, hZ, hby, hml, hown, hnm, hret, hlk⟩ := K
  have h2' : R' = R := h2
  subst h2'
  subst hp
  intro T locs hT0 hH hF
  have hT : Stand p l' e R' s m args below meth c T locs ce sl := hT0
  obtain ⟨s2, o, st, r⟩ := k T locs hT hH hF
  exact ⟨s2, o, XS.iadd (Stand.here hT) hx rfl (hb hby hd) rfl st, r⟩
theorem W.isub {x z : Int32} (K : Ctx X l Z R y code maxL ret) (pc' : Nat) (hd : decode code pc = .ok (.isub, 1)) (k : WP X Z rc rs Q pc' L (.int (x - z) :: S) os ce sl) (hp : pc + 1 = pc' := by rfl) : WP X Z rc rs Q pc L (.int z :: .int x :: S) os ce sl := by
  obtain ⟨p, l', e, R', s, m, args, below, meth, c⟩ := X
  obtain ⟨h1, h2, hx, hZ, hby, hml, hown, hnm, hret, hlk⟩ := K
  have h2' : R' = R := h2
  subst h2'
  subst hp
  intro T locs hT0 hH hF
  have hT : Stand p l' e R' s m args below meth c T locs ce sl := hT0
  obtain ⟨s2, o, st, r⟩ := k T locs hT hH hF
  exact ⟨s2, o, XS.isub (Stand.here hT) hx rfl (hb hby hd) rfl st, r⟩
theorem W.imul {x z : Int32} (K : Ctx X l Z R y code maxL ret) (pc' : Nat) (hd : decode code pc = .ok (.imul, 1)) (k : WP X Z rc rs Q pc' L (.int (x * z) :: S) os ce sl) (hp : pc + 1 = pc' := by rfl) : WP X Z rc rs Q pc L (.int z :: .int x :: S) os ce sl := by
  obtain ⟨p, l', e, R', s, m, args, below, meth, c⟩ := X
  obtain ⟨h1, h2, hx, hZ, hby, hml, hown, hnm, hret, hlk⟩ := K
  have h2' : R' = R := h2
  subst h2'
  subst hp
  intro T locs hT0 hH hF
  have hT : Stand p l' e R' s m args below meth c T locs ce sl := hT0
  obtain ⟨s2, o, st, r⟩ := k T locs hT hH hF
  exact ⟨s2, o, XS.imul (Stand.here hT) hx rfl (hb hby hd) rfl st, r⟩
theorem W.iand {x z : Int32} (K : Ctx X l Z R y code maxL ret) (pc' : Nat) (hd : decode code pc = .ok (.iand, 1)) (k : WP X Z rc rs Q pc' L (.int (x &&& z) :: S) os ce sl) (hp : pc + 1 = pc' := by rfl) : WP X Z rc rs Q pc L (.int z :: .int x :: S) os ce sl := by
  obtain ⟨p, l', e, R', s, m, args, below, meth, c⟩ := X
  obtain ⟨h1, h2, hx, hZ, hby, hml, hown, hnm, hret, hlk⟩ := K
  have h2' : R' = R := h2
  subst h2'
  subst hp
  intro T locs hT0 hH hF
  have hT : Stand p l' e R' s m args below meth c T locs ce sl := hT0
  obtain ⟨s2, o, st, r⟩ := k T locs hT hH hF
  exact ⟨s2, o, XS.iand (Stand.here hT) hx rfl (hb hby hd) rfl st, r⟩
theorem W.ior {x z : Int32} (K : Ctx X l Z R y code maxL ret) (pc' : Nat) (hd : decode code pc = .ok (.ior, 1)) (k : WP X Z rc rs Q pc' L (.int (x ||| z) :: S) os ce sl) (hp : pc + 1 = pc' := by rfl) : WP X Z rc rs Q pc L (.int z :: .int x :: S) os ce sl := by
  obtain ⟨p, l', e, R', s, m, args, below, meth, c⟩ := X
  obtain ⟨h1, h2, hx, hZ, hby, hml, hown, hnm, hret, hlk⟩ := K
  have h2' : R' = R := h2
  subst h2'
  subst hp
  intro T locs hT0 hH hF
  have hT : Stand p l' e R' s m args below meth c T locs ce sl := hT0
  obtain ⟨s2, o, st, r⟩ := k T locs hT hH hF
  exact ⟨s2, o, XS.ior (Stand.here hT) hx rfl (hb hby hd) rfl st, r⟩
theorem W.ixor {x z : Int32} (K : Ctx X l Z R y code maxL ret) (pc' : Nat) (hd : decode code pc = .ok (.ixor, 1)) (k : WP X Z rc rs Q pc' L (.int (x ^^^ z) :: S) os ce sl) (hp : pc + 1 = pc' := by rfl) : WP X Z rc rs Q pc L (.int z :: .int x :: S) os ce sl := by
  obtain ⟨p, l', e, R', s, m, args, below, meth, c⟩ := X
  obtain ⟨h1, h2, hx, hZ, hby, hml, hown, hnm, hret, hlk⟩ := K
  have h2' : R' = R := h2
  subst h2'
  subst hp
  intro T locs hT0 hH hF
  have hT : Stand p l' e R' s m args below meth c T locs ce sl := hT0
  obtain ⟨s2, o, st, r⟩ := k T locs hT hH hF
  exact ⟨s2, o, XS.ixor (Stand.here hT) hx rfl (hb hby hd) rfl st, r⟩
theorem W.ishl {x z : Int32} (K : Ctx X l Z R y code maxL ret) (pc' : Nat) (hd : decode code pc = .ok (.ishl, 1)) (k : WP X Z rc rs Q pc' L (.int (x <<< (z &&& 31)) :: S) os ce sl) (hp : pc + 1 = pc' := by rfl) : WP X Z rc rs Q pc L (.int z :: .int x :: S) os ce sl := by
  obtain ⟨p, l', e, R', s, m, args, below, meth, c⟩ := X
  obtain ⟨h1, h2, hx, hZ, hby, hml, hown, hnm, hret, hlk⟩ := K
  have h2' : R' = R := h2
  subst h2'
  subst hp
  intro T locs hT0 hH hF
  have hT : Stand p l' e R' s m args below meth c T locs ce sl := hT0
  obtain ⟨s2, o, st, r⟩ := k T locs hT hH hF
  exact ⟨s2, o, XS.ishl (Stand.here hT) hx rfl (hb hby hd) rfl st, r⟩
theorem W.ishr {x z : Int32} (K : Ctx X l Z R y code maxL ret) (pc' : Nat) (hd : decode code pc = .ok (.ishr, 1)) (k : WP X Z rc rs Q pc' L (.int (x >>> (z &&& 31)) :: S) os ce sl) (hp : pc + 1 = pc' := by rfl) : WP X Z rc rs Q pc L (.int z :: .int x :: S) os ce sl := by
  obtain ⟨p, l', e, R', s, m, args, below, meth, c⟩ := X
  obtain ⟨h1, h2, hx, hZ, hby, hml, hown, hnm, hret, hlk⟩ := K
  have h2' : R' = R := h2
  subst h2'
  subst hp
  intro T locs hT0 hH hF
  have hT : Stand p l' e R' s m args below meth c T locs ce sl := hT0
  obtain ⟨s2, o, st, r⟩ := k T locs hT hH hF
  exact ⟨s2, o, XS.ishr (Stand.here hT) hx rfl (hb hby hd) rfl st, r⟩
theorem W.iushr {x z : Int32} (K : Ctx X l Z R y code maxL ret) (pc' : Nat) (hd : decode code pc = .ok (.iushr, 1)) (k : WP X Z rc rs Q pc' L (.int ((x.toUInt32 >>> (z &&& 31).toUInt32).toInt32) :: S) os ce sl) (hp : pc + 1 = pc' := by rfl) : WP X Z rc rs Q pc L (.int z :: .int x :: S) os ce sl := by
  obtain ⟨p, l', e, R', s, m, args, below, meth, c⟩ := X
  obtain ⟨h1, h2, hx, hZ, hby, hml, hown, hnm, hret, hlk⟩ := K
  have h2' : R' = R := h2
  subst h2'
  subst hp
  intro T locs hT0 hH hF
  have hT : Stand p l' e R' s m args below meth c T locs ce sl := hT0
  obtain ⟨s2, o, st, r⟩ := k T locs hT hH hF
  exact ⟨s2, o, XS.iushr (Stand.here hT) hx rfl (hb hby hd) rfl st, r⟩
theorem W.ladd {x z : Int64} (K : Ctx X l Z R y code maxL ret) (pc' : Nat) (hd : decode code pc = .ok (.ladd, 1)) (k : WP X Z rc rs Q pc' L (.long (x + z) :: S) os ce sl) (hp : pc + 1 = pc' := by rfl) : WP X Z rc rs Q pc L (.long z :: .long x :: S) os ce sl := by
  obtain ⟨p, l', e, R', s, m, args, below, meth, c⟩ := X
  obtain ⟨h1, h2, hx, hZ, hby, hml, hown, hnm, hret, hlk⟩ := K
  have h2' : R' = R := h2
  subst h2'
  subst hp
  intro T locs hT0 hH hF
  have hT : Stand p l' e R' s m args below meth c T locs ce sl := hT0
  obtain ⟨s2, o, st, r⟩ := k T locs hT hH hF
  exact ⟨s2, o, XS.ladd (Stand.here hT) hx rfl (hb hby hd) rfl st, r⟩
theorem W.lsub {x z : Int64} (K : Ctx X l Z R y code maxL ret) (pc' : Nat) (hd : decode code pc = .ok (.lsub, 1)) (k : WP X Z rc rs Q pc' L (.long (x - z) :: S) os ce sl) (hp : pc + 1 = pc' := by rfl) : WP X Z rc rs Q pc L (.long z :: .long x :: S) os ce sl := by
  obtain ⟨p, l', e, R', s, m, args, below, meth, c⟩ := X
  obtain ⟨h1, h2, hx, hZ, hby, hml, hown, hnm, hret, hlk⟩ := K
  have h2' : R' = R := h2
  subst h2'
  subst hp
  intro T locs hT0 hH hF
  have hT : Stand p l' e R' s m args below meth c T locs ce sl := hT0
  obtain ⟨s2, o, st, r⟩ := k T locs hT hH hF
  exact ⟨s2, o, XS.lsub (Stand.here hT) hx rfl (hb hby hd) rfl st, r⟩
theorem W.lmul {x z : Int64} (K : Ctx X l Z R y code maxL ret) (pc' : Nat) (hd : decode code pc = .ok (.lmul, 1)) (k : WP X Z rc rs Q pc' L (.long (x * z) :: S) os ce sl) (hp : pc + 1 = pc' := by rfl) : WP X Z rc rs Q pc L (.long z :: .long x :: S) os ce sl := by
  obtain ⟨p, l', e, R', s, m, args, below, meth, c⟩ := X
  obtain ⟨h1, h2, hx, hZ, hby, hml, hown, hnm, hret, hlk⟩ := K
  have h2' : R' = R := h2
  subst h2'
  subst hp
  intro T locs hT0 hH hF
  have hT : Stand p l' e R' s m args below meth c T locs ce sl := hT0
  obtain ⟨s2, o, st, r⟩ := k T locs hT hH hF
  exact ⟨s2, o, XS.lmul (Stand.here hT) hx rfl (hb hby hd) rfl st, r⟩
theorem W.land {x z : Int64} (K : Ctx X l Z R y code maxL ret) (pc' : Nat) (hd : decode code pc = .ok (.land, 1)) (k : WP X Z rc rs Q pc' L (.long (x &&& z) :: S) os ce sl) (hp : pc + 1 = pc' := by rfl) : WP X Z rc rs Q pc L (.long z :: .long x :: S) os ce sl := by
  obtain ⟨p, l', e, R', s, m, args, below, meth, c⟩ := X
  obtain ⟨h1, h2, hx, hZ, hby, hml, hown, hnm, hret, hlk⟩ := K
  have h2' : R' = R := h2
  subst h2'
  subst hp
  intro T locs hT0 hH hF
  have hT : Stand p l' e R' s m args below meth c T locs ce sl := hT0
  obtain ⟨s2, o, st, r⟩ := k T locs hT hH hF
  exact ⟨s2, o, XS.land (Stand.here hT) hx rfl (hb hby hd) rfl st, r⟩
theorem W.lor {x z : Int64} (K : Ctx X l Z R y code maxL ret) (pc' : Nat) (hd : decode code pc = .ok (.lor, 1)) (k : WP X Z rc rs Q pc' L (.long (x ||| z) :: S) os ce sl) (hp : pc + 1 = pc' := by rfl) : WP X Z rc rs Q pc L (.long z :: .long x :: S) os ce sl := by
  obtain ⟨p, l', e, R', s, m, args, below, meth, c⟩ := X
  obtain ⟨h1, h2, hx, hZ, hby, hml, hown, hnm, hret, hlk⟩ := K
  have h2' : R' = R := h2
  subst h2'
  subst hp
  intro T locs hT0 hH hF
  have hT : Stand p l' e R' s m args below meth c T locs ce sl := hT0
  obtain ⟨s2, o, st, r⟩ := k T locs hT hH hF
  exact ⟨s2, o, XS.lor (Stand.here hT) hx rfl (hb hby hd) rfl st, r⟩
theorem W.lxor {x z : Int64} (K : Ctx X l Z R y code maxL ret) (pc' : Nat) (hd : decode code pc = .ok (.lxor, 1)) (k : WP X Z rc rs Q pc' L (.long (x ^^^ z) :: S) os ce sl) (hp : pc + 1 = pc' := by rfl) : WP X Z rc rs Q pc L (.long z :: .long x :: S) os ce sl := by
  obtain ⟨p, l', e, R', s, m, args, below, meth, c⟩ := X
  obtain ⟨h1, h2, hx, hZ, hby, hml, hown, hnm, hret, hlk⟩ := K
  have h2' : R' = R := h2
  subst h2'
  subst hp
  intro T locs hT0 hH hF
  have hT : Stand p l' e R' s m args below meth c T locs ce sl := hT0
  obtain ⟨s2, o, st, r⟩ := k T locs hT hH hF
  exact ⟨s2, o, XS.lxor (Stand.here hT) hx rfl (hb hby hd) rfl st, r⟩
theorem W.lshl {x : Int64} {z : Int32} (K : Ctx X l Z R y code maxL ret) (pc' : Nat) (hd : decode code pc = .ok (.lshl, 1)) (k : WP X Z rc rs Q pc' L (.long (x <<< (z &&& 0x3f).toInt64) :: S) os ce sl) (hp : pc + 1 = pc' := by rfl) : WP X Z rc rs Q pc L (.int z :: .long x :: S) os ce sl := by
  obtain ⟨p, l', e, R', s, m, args, below, meth, c⟩ := X
  obtain ⟨h1, h2, hx, hZ, hby, hml, hown, hnm, hret, hlk⟩ := K
  have h2' : R' = R := h2
  subst h2'
  subst hp
  intro T locs hT0 hH hF
  have hT : Stand p l' e R' s m args below meth c T locs ce sl := hT0
  obtain ⟨s2, o, st, r⟩ := k T locs hT hH hF
  exact ⟨s2, o, XS.lshl (Stand.here hT) hx rfl (hb hby hd) rfl st, r⟩
theorem W.lshr {x : Int64} {z : Int32} (K : Ctx X l Z R y code maxL ret) (pc' : Nat) (hd : decode code pc = .ok (.lshr, 1)) (k : WP X Z rc rs Q pc' L (.long (x >>> (z &&& 0x3f).toInt64) :: S) os ce sl) (hp : pc + 1 = pc' := by rfl) : WP X Z rc rs Q pc L (.int z :: .long x :: S) os ce sl := by
  obtain ⟨p, l', e, R', s, m, args, below, meth, c⟩ := X
  obtain ⟨h1, h2, hx, hZ, hby, hml, hown, hnm, hret, hlk⟩ := K
  have h2' : R' = R := h2
  subst h2'
  subst hp
  intro T locs hT0 hH hF
  have hT : Stand p l' e R' s m args below meth c T locs ce sl := hT0
  obtain ⟨s2, o, st, r⟩ := k T locs hT hH hF
  exact ⟨s2, o, XS.lshr (Stand.here hT) hx rfl (hb hby hd) rfl st, r⟩
theorem W.lushr {x : Int64} {z : Int32} (K : Ctx X l Z R y code maxL ret) (pc' : Nat) (hd : decode code pc = .ok (.lushr, 1)) (k : WP X Z rc rs Q pc' L (.long ((x.toUInt64 >>> (z &&& 0x3f).toInt64.toUInt64).toInt64) :: S) os ce sl) (hp : pc + 1 = pc' := by rfl) : WP X Z rc rs Q pc L (.int z :: .long x :: S) os ce sl := by
  obtain ⟨p, l', e, R', s, m, args, below, meth, c⟩ := X
  obtain ⟨h1, h2, hx, hZ, hby, hml, hown, hnm, hret, hlk⟩ := K
  have h2' : R' = R := h2
  subst h2'
  subst hp
  intro T locs hT0 hH hF
  have hT : Stand p l' e R' s m args below meth c T locs ce sl := hT0
  obtain ⟨s2, o, st, r⟩ := k T locs hT hH hF
  exact ⟨s2, o, XS.lushr (Stand.here hT) hx rfl (hb hby hd) rfl st, r⟩
theorem W.ineg {x : Int32} (K : Ctx X l Z R y code maxL ret) (pc' : Nat) (hd : decode code pc = .ok (.ineg, 1)) (k : WP X Z rc rs Q pc' L (.int (-x) :: S) os ce sl) (hp : pc + 1 = pc' := by rfl) : WP X Z rc rs Q pc L (.int x :: S) os ce sl := by
  obtain ⟨p, l', e, R', s, m, args, below, meth, c⟩ := X
  obtain ⟨h1, h2, hx, hZ, hby, hml, hown, hnm, hret, hlk⟩ := K
  have h2' : R' = R := h2
  subst h2'
  subst hp
  intro T locs hT0 hH hF
  have hT : Stand p l' e R' s m args below meth c T locs ce sl := hT0
  obtain ⟨s2, o, st, r⟩ := k T locs hT hH hF
  exact ⟨s2, o, XS.ineg (Stand.here hT) hx rfl (hb hby hd) rfl st, r⟩
theorem W.lneg {x : Int64} (K : Ctx X l Z R y code maxL ret) (pc' : Nat) (hd : decode code pc = .ok (.lneg, 1)) (k : WP X Z rc rs Q pc' L (.long (-x) :: S) os ce sl) (hp : pc + 1 = pc' := by rfl) : WP X Z rc rs Q pc L (.long x :: S) os ce sl := by
  obtain ⟨p, l', e, R', s, m, args, below, meth, c⟩ := X
  obtain ⟨h1, h2, hx, hZ, hby, hml, hown, hnm, hret, hlk⟩ := K
  have h2' : R' = R := h2
  subst h2'
  subst hp
  intro T locs hT0 hH hF
  have hT : Stand p l' e R' s m args below meth c T locs ce sl := hT0
  obtain ⟨s2, o, st, r⟩ := k T locs hT hH hF
  exact ⟨s2, o, XS.lneg (Stand.here hT) hx rfl (hb hby hd) rfl st, r⟩
theorem W.i2l {x : Int32} (K : Ctx X l Z R y code maxL ret) (pc' : Nat) (hd : decode code pc = .ok (.i2l, 1)) (k : WP X Z rc rs Q pc' L (.long x.toInt64 :: S) os ce sl) (hp : pc + 1 = pc' := by rfl) : WP X Z rc rs Q pc L (.int x :: S) os ce sl := by
  obtain ⟨p, l', e, R', s, m, args, below, meth, c⟩ := X
  obtain ⟨h1, h2, hx, hZ, hby, hml, hown, hnm, hret, hlk⟩ := K
  have h2' : R' = R := h2
  subst h2'
  subst hp
  intro T locs hT0 hH hF
  have hT : Stand p l' e R' s m args below meth c T locs ce sl := hT0
  obtain ⟨s2, o, st, r⟩ := k T locs hT hH hF
  exact ⟨s2, o, XS.i2l (Stand.here hT) hx rfl (hb hby hd) rfl st, r⟩
theorem W.l2i {x : Int64} (K : Ctx X l Z R y code maxL ret) (pc' : Nat) (hd : decode code pc = .ok (.l2i, 1)) (k : WP X Z rc rs Q pc' L (.int x.toInt32 :: S) os ce sl) (hp : pc + 1 = pc' := by rfl) : WP X Z rc rs Q pc L (.long x :: S) os ce sl := by
  obtain ⟨p, l', e, R', s, m, args, below, meth, c⟩ := X
  obtain ⟨h1, h2, hx, hZ, hby, hml, hown, hnm, hret, hlk⟩ := K
  have h2' : R' = R := h2
  subst h2'
  subst hp
  intro T locs hT0 hH hF
  have hT : Stand p l' e R' s m args below meth c T locs ce sl := hT0
  obtain ⟨s2, o, st, r⟩ := k T locs hT hH hF
  exact ⟨s2, o, XS.l2i (Stand.here hT) hx rfl (hb hby hd) rfl st, r⟩
theorem W.i2b {x : Int32} (K : Ctx X l Z R y code maxL ret) (pc' : Nat) (hd : decode code pc = .ok (.i2b, 1)) (k : WP X Z rc rs Q pc' L (.int x.toInt8.toInt32 :: S) os ce sl) (hp : pc + 1 = pc' := by rfl) : WP X Z rc rs Q pc L (.int x :: S) os ce sl := by
  obtain ⟨p, l', e, R', s, m, args, below, meth, c⟩ := X
  obtain ⟨h1, h2, hx, hZ, hby, hml, hown, hnm, hret, hlk⟩ := K
  have h2' : R' = R := h2
  subst h2'
  subst hp
  intro T locs hT0 hH hF
  have hT : Stand p l' e R' s m args below meth c T locs ce sl := hT0
  obtain ⟨s2, o, st, r⟩ := k T locs hT hH hF
  exact ⟨s2, o, XS.i2b (Stand.here hT) hx rfl (hb hby hd) rfl st, r⟩
theorem W.i2c {x : Int32} (K : Ctx X l Z R y code maxL ret) (pc' : Nat) (hd : decode code pc = .ok (.i2c, 1)) (k : WP X Z rc rs Q pc' L (.int x.toUInt32.toUInt16.toUInt32.toInt32 :: S) os ce sl) (hp : pc + 1 = pc' := by rfl) : WP X Z rc rs Q pc L (.int x :: S) os ce sl := by
  obtain ⟨p, l', e, R', s, m, args, below, meth, c⟩ := X
  obtain ⟨h1, h2, hx, hZ, hby, hml, hown, hnm, hret, hlk⟩ := K
  have h2' : R' = R := h2
  subst h2'
  subst hp
  intro T locs hT0 hH hF
  have hT : Stand p l' e R' s m args below meth c T locs ce sl := hT0
  obtain ⟨s2, o, st, r⟩ := k T locs hT hH hF
  exact ⟨s2, o, XS.i2c (Stand.here hT) hx rfl (hb hby hd) rfl st, r⟩
theorem W.i2s {x : Int32} (K : Ctx X l Z R y code maxL ret) (pc' : Nat) (hd : decode code pc = .ok (.i2s, 1)) (k : WP X Z rc rs Q pc' L (.int x.toInt16.toInt32 :: S) os ce sl) (hp : pc + 1 = pc' := by rfl) : WP X Z rc rs Q pc L (.int x :: S) os ce sl := by
  obtain ⟨p, l', e, R', s, m, args, below, meth, c⟩ := X
  obtain ⟨h1, h2, hx, hZ, hby, hml, hown, hnm, hret, hlk⟩ := K
  have h2' : R' = R := h2
  subst h2'
  subst hp
  intro T locs hT0 hH hF
  have hT : Stand p l' e R' s m args below meth c T locs ce sl := hT0
  obtain ⟨s2, o, st, r⟩ := k T locs hT hH hF
  exact ⟨s2, o, XS.i2s (Stand.here hT) hx rfl (hb hby hd) rfl st, r⟩
theorem W.idiv {x z : Int32} (K : Ctx X l Z R y code maxL ret) (pc' : Nat) (hd : decode code pc = .ok (.idiv, 1)) (hz : z ≠ 0) (k : WP X Z rc rs Q pc' L (.int (x / z) :: S) os ce sl) (hp : pc + 1 = pc' := by rfl) : WP X Z rc rs Q pc L (.int z :: .int x :: S) os ce sl := by
  obtain ⟨p, l', e, R', s, m, args, below, meth, c⟩ := X
  obtain ⟨h1, h2, hx, hZ, hby, hml, hown, hnm, hret, hlk⟩ := K
  have h2' : R' = R := h2
  subst h2'
  subst hp
  intro T locs hT0 hH hF
  have hT : Stand p l' e R' s m args below meth c T locs ce sl := hT0
  obtain ⟨s2, o, st, r⟩ := k T locs hT hH hF
  exact ⟨s2, o, XS.idiv (Stand.here hT) hx rfl (hb hby hd) rfl hz st, r⟩
theorem W.ldiv {x z : Int64} (K : Ctx X l Z R y code maxL ret) (pc' : Nat) (hd : decode code pc = .ok (.ldiv, 1)) (hz : z ≠ 0) (k : WP X Z rc rs Q pc' L (.long (x / z) :: S) os ce sl) (hp : pc + 1 = pc' := by rfl) : WP X Z rc rs Q pc L (.long z :: .long x :: S) os ce sl := by
  obtain ⟨p, l', e, R', s, m, args, below, meth, c⟩ := X
  obtain ⟨h1, h2, hx, hZ, hby, hml, hown, hnm, hret, hlk⟩ := K
  have h2' : R' = R := h2
  subst h2'
  subst hp
  intro T locs hT0 hH hF
  have hT : Stand p l' e R' s m args below meth c T locs ce sl := hT0
  obtain ⟨s2, o, st, r⟩ := k T locs hT hH hF
  exact ⟨s2, o, XS.ldiv (Stand.here hT) hx rfl (hb hby hd) rfl hz st, r⟩
theorem W.irem {x z : Int32} (K : Ctx X l Z R y code maxL ret) (pc' : Nat) (hd : decode code pc = .ok (.irem, 1)) (hz : z ≠ 0) (k : WP X Z rc rs Q pc' L (.int (x % z) :: S) os ce sl) (hp : pc + 1 = pc' := by rfl) : WP X Z rc rs Q pc L (.int z :: .int x :: S) os ce sl := by
  obtain ⟨p, l', e, R', s, m, args, below, meth, c⟩ := X
  obtain ⟨h1, h2, hx, hZ, hby, hml, hown, hnm, hret, hlk⟩ := K
  have h2' : R' = R := h2
  subst h2'
  subst hp
  intro T locs hT0 hH hF
  have hT : Stand p l' e R' s m args below meth c T locs ce sl := hT0
  obtain ⟨s2, o, st, r⟩ := k T locs hT hH hF
  exact ⟨s2, o, iremM hT hx rfl (hb hby hd) rfl hz st, r⟩
theorem W.dup {x : Value} (K : Ctx X l Z R y code maxL ret) (pc' : Nat) (hd : decode code pc = .ok (.dup, 1)) (k : WP X Z rc rs Q pc' L (x :: x :: S) os ce sl) (hc : x.category = 1 := by rfl) (hp : pc + 1 = pc' := by rfl) : WP X Z rc rs Q pc L (x :: S) os ce sl := by
  obtain ⟨p, l', e, R', s, m, args, below, meth, c⟩ := X
  obtain ⟨h1, h2, hx, hZ, hby, hml, hown, hnm, hret, hlk⟩ := K
  have h2' : R' = R := h2
  subst h2'
  subst hp
  intro T locs hT0 hH hF
  have hT : Stand p l' e R' s m args below meth c T locs ce sl := hT0
  obtain ⟨s2, o, st, r⟩ := k T locs hT hH hF
  exact ⟨s2, o, XS.dup (Stand.here hT) hx rfl (hb hby hd) rfl hc st, r⟩
theorem W.popx {x : Value} (K : Ctx X l Z R y code maxL ret) (pc' : Nat) (hd : decode code pc = .ok (.pop, 1)) (k : WP X Z rc rs Q pc' L S os ce sl) (hc : x.category = 1 := by rfl) (hp : pc + 1 = pc' := by rfl) : WP X Z rc rs Q pc L (x :: S) os ce sl := by
  obtain ⟨p, l', e, R', s, m, args, below, meth, c⟩ := X
  obtain ⟨h1, h2, hx, hZ, hby, hml, hown, hnm, hret, hlk⟩ := K
  have h2' : R' = R := h2
  subst h2'
  subst hp
  intro T locs hT0 hH hF
  have hT : Stand p l' e R' s m args below meth c T locs ce sl := hT0
  obtain ⟨s2, o, st, r⟩ := k T locs hT hH hF
  exact ⟨s2, o, XS.pop (Stand.here hT) hx rfl (hb hby hd) rfl hc st, r⟩
theorem W.dupX1 {x z : Value} (K : Ctx X l Z R y code maxL ret) (pc' : Nat) (hd : decode code pc = .ok (.dup_x1, 1)) (k : WP X Z rc rs Q pc' L (x :: z :: x :: S) os ce sl) (hc : x.category = 1 := by rfl) (hc2 : z.category = 1 := by rfl) (hp : pc + 1 = pc' := by rfl) : WP X Z rc rs Q pc L (x :: z :: S) os ce sl := by
  obtain ⟨p, l', e, R', s, m, args, below, meth, c⟩ := X
  obtain ⟨h1, h2, hx, hZ, hby, hml, hown, hnm, hret, hlk⟩ := K
  have h2' : R' = R := h2
  subst h2'
  subst hp
  intro T locs hT0 hH hF
  have hT : Stand p l' e R' s m args below meth c T locs ce sl := hT0
  obtain ⟨s2, o, st, r⟩ := k T locs hT hH hF
  exact ⟨s2, o, XS.dupX1 (Stand.here hT) hx rfl (hb hby hd) rfl hc hc2 st, r⟩
theorem W.dup2 {x z : Value} (K : Ctx X l Z R y code maxL ret) (pc' : Nat) (hd : decode code pc = .ok (.dup2, 1)) (k : WP X Z rc rs Q pc' L (x :: z :: x :: z :: S) os ce sl) (hc : x.category = 1 := by rfl) (hc2 : z.category = 1 := by rfl) (hp : pc + 1 = pc' := by rfl) : WP X Z rc rs Q pc L (x :: z :: S) os ce sl := by
  obtain ⟨p, l', e, R', s, m, args, below, meth, c⟩ := X
  obtain ⟨h1, h2, hx, hZ, hby, hml, hown, hnm, hret, hlk⟩ := K
  have h2' : R' = R := h2
  subst h2'
  subst hp
  intro T locs hT0 hH hF
  have hT : Stand p l' e R' s m args below meth c T locs ce sl := hT0
  obtain ⟨s2, o, st, r⟩ := k T locs hT hH hF
  exact ⟨s2, o, XT.dup2 (Stand.here hT) hx rfl (hb hby hd) rfl hc hc2 st, r⟩
theorem W.dup2L {x : Int64} (K : Ctx X l Z R y code maxL ret) (pc' : Nat) (hd : decode code pc = .ok (.dup2, 1)) (k : WP X Z rc rs Q pc' L (.long x :: .long x :: S) os ce sl)  (hp : pc + 1 = pc' := by rfl) : WP X Z rc rs Q pc L (.long x :: S) os ce sl := by
  obtain ⟨p, l', e, R', s, m, args, below, meth, c⟩ := X
  obtain ⟨h1, h2, hx, hZ, hby, hml, hown, hnm, hret, hlk⟩ := K
  have h2' : R' = R := h2
  subst h2'
  subst hp
  intro T locs hT0 hH hF
  have hT : Stand p l' e R' s m args below meth c T locs ce sl := hT0
  obtain ⟨s2, o, st, r⟩ := k T locs hT hH hF
  exact ⟨s2, o, XT.dup2L (Stand.here hT) hx rfl (hb hby hd) rfl st, r⟩
theorem W.iconst {i : Int} (K : Ctx X l Z R y code maxL ret) (pc' : Nat) (hd : decode code pc = .ok (.iconst i, 1)) (v : Int32) (hv : Int32.ofInt i = v) (k : WP X Z rc rs Q pc' L (.int v :: S) os ce sl) (hp : pc + 1 = pc' := by rfl) : WP X Z rc rs Q pc L S os ce sl := by
  obtain ⟨p, l', e, R', s, m, args, below, meth, c⟩ := X
  obtain ⟨h1, h2, hx, hZ, hby, hml, hown, hnm, hret, hlk⟩ := K
  have h2' : R' = R := h2
  subst h2'
  subst hp
  intro T locs hT0 hH hF
  have hT : Stand p l' e R' s m args below meth c T locs ce sl := hT0
  obtain ⟨s2, o, st, r⟩ := k T locs hT hH hF
  exact ⟨s2, o, XS.iconst (Stand.here hT) hx rfl (hb hby hd) (hv ▸ st), r⟩
theorem W.bipush {i : Int} (K : Ctx X l Z R y code maxL ret) (pc' : Nat) (hd : decode code pc = .ok (.bipush i, 2)) (v : Int32) (hv : (Int8.ofInt i).toInt32 = v) (k : WP X Z rc rs Q pc' L (.int v :: S) os ce sl) (hp : pc + 2 = pc' := by rfl) : WP X Z rc rs Q pc L S os ce sl := by
  obtain ⟨p, l', e, R', s, m, args, below, meth, c⟩ := X
  obtain ⟨h1, h2, hx, hZ, hby, hml, hown, hnm, hret, hlk⟩ := K
  have h2' : R' = R := h2
  subst h2'
  subst hp
  intro T locs hT0 hH hF
  have hT : Stand p l' e R' s m args below meth c T locs ce sl := hT0
  obtain ⟨s2, o, st, r⟩ := k T locs hT hH hF
  exact ⟨s2, o, XS.bipush (Stand.here hT) hx rfl (hb hby hd) (hv ▸ st), r⟩
theorem W.sipush {i : Int} (K : Ctx X l Z R y code maxL ret) (pc' : Nat) (hd : decode code pc = .ok (.sipush i, 3)) (v : Int32) (hv : (Int16.ofInt i).toInt32 = v) (k : WP X Z rc rs Q pc' L (.int v :: S) os ce sl) (hp : pc + 3 = pc' := by rfl) : WP X Z rc rs Q pc L S os ce sl := by
  obtain ⟨p, l', e, R', s, m, args, below, meth, c⟩ := X
  obtain ⟨h1, h2, hx, hZ, hby, hml, hown, hnm, hret, hlk⟩ := K
  have h2' : R' = R := h2
  subst h2'
  subst hp
  intro T locs hT0 hH hF
  have hT : Stand p l' e R' s m args below meth c T locs ce sl := hT0
  obtain ⟨s2, o, st, r⟩ := k T locs hT hH hF
  exact ⟨s2, o, XS.sipush (Stand.here hT) hx rfl (hb hby hd) (hv ▸ st), r⟩
theorem W.lconst {i : Fin 2} (K : Ctx X l Z R y code maxL ret) (pc' : Nat) (hd : decode code pc = .ok (.lconst i, 1)) (v : Int64) (hv : Int64.ofNat i = v) (k : WP X Z rc rs Q pc' L (.long v :: S) os ce sl) (hp : pc + 1 = pc' := by rfl) : WP X Z rc rs Q pc L S os ce sl := by
  obtain ⟨p, l', e, R', s, m, args, below, meth, c⟩ := X
  obtain ⟨h1, h2, hx, hZ, hby, hml, hown, hnm, hret, hlk⟩ := K
  have h2' : R' = R := h2
  subst h2'
  subst hp
  intro T locs hT0 hH hF
  have hT : Stand p l' e R' s m args below meth c T locs ce sl := hT0
  obtain ⟨s2, o, st, r⟩ := k T locs hT hH hF
  exact ⟨s2, o, XS.lconst (Stand.here hT) hx rfl (hb hby hd) (hv ▸ st), r⟩
theorem W.aconst  (K : Ctx X l Z R y code maxL ret) (pc' : Nat) (hd : decode code pc = .ok (.aconst_null, 1)) (k : WP X Z rc rs Q pc' L (.null :: S) os ce sl) (hp : pc + 1 = pc' := by rfl) : WP X Z rc rs Q pc L S os ce sl := by
  obtain ⟨p, l', e, R', s, m, args, below, meth, c⟩ := X
  obtain ⟨h1, h2, hx, hZ, hby, hml, hown, hnm, hret, hlk⟩ := K
  have h2' : R' = R := h2
  subst h2'
  subst hp
  intro T locs hT0 hH hF
  have hT : Stand p l' e R' s m args below meth c T locs ce sl := hT0
  obtain ⟨s2, o, st, r⟩ := k T locs hT hH hF
  exact ⟨s2, o, XS.aconstNull (Stand.here hT) hx rfl (hb hby hd) st, r⟩
theorem W.iload {n : Nat} {v : Int32} (K : Ctx X l Z R y code maxL ret) (pc' : Nat) (hd : decode code pc = .ok (.iload n, 2)) (hl : L[n]? = some (.val (.int v))) (k : WP X Z rc rs Q pc' L (.int v :: S) os ce sl) (hp : pc + 2 = pc' := by rfl) : WP X Z rc rs Q pc L S os ce sl := by
  obtain ⟨p, l', e, R', s, m, args, below, meth, c⟩ := X
  obtain ⟨h1, h2, hx, hZ, hby, hml, hown, hnm, hret, hlk⟩ := K
  have h2' : R' = R := h2
  subst h2'
  subst hp
  intro T locs hT0 hH hF
  have hT : Stand p l' e R' s m args below meth c T locs ce sl := hT0
  obtain ⟨s2, o, st, r⟩ := k T locs hT hH hF
  exact ⟨s2, o, XS.iload (Stand.here hT) hx rfl (hb hby hd) (by simpa using hl) st, r⟩
theorem W.iloadN {n : Fin 4} {v : Int32} (K : Ctx X l Z R y code maxL ret) (pc' : Nat) (hd : decode code pc = .ok (.iload_n n, 1)) (i : Nat) (hi : n.val = i) (hl : L[i]? = some (.val (.int v))) (k : WP X Z rc rs Q pc' L (.int v :: S) os ce sl) (hp : pc + 1 = pc' := by rfl) : WP X Z rc rs Q pc L S os ce sl := by
  obtain ⟨p, l', e, R', s, m, args, below, meth, c⟩ := X
  obtain ⟨h1, h2, hx, hZ, hby, hml, hown, hnm, hret, hlk⟩ := K
  have h2' : R' = R := h2
  subst h2'
  subst hp
  intro T locs hT0 hH hF
  have hT : Stand p l' e R' s m args below meth c T locs ce sl := hT0
  obtain ⟨s2, o, st, r⟩ := k T locs hT hH hF
  exact ⟨s2, o, XS.iloadN (Stand.here hT) hx rfl (hb hby hd) (by rw [hi]; simpa using hl) st, r⟩
theorem W.lload {n : Nat} {v : Int64} (K : Ctx X l Z R y code maxL ret) (pc' : Nat) (hd : decode code pc = .ok (.lload n, 2)) (hl : L[n]? = some (.val (.long v))) (k : WP X Z rc rs Q pc' L (.long v :: S) os ce sl) (hp : pc + 2 = pc' := by rfl) : WP X Z rc rs Q pc L S os ce sl := by
  obtain ⟨p, l', e, R', s, m, args, below, meth, c⟩ := X
  obtain ⟨h1, h2, hx, hZ, hby, hml, hown, hnm, hret, hlk⟩ := K
  have h2' : R' = R := h2
  subst h2'
  subst hp
  intro T locs hT0 hH hF
  have hT : Stand p l' e R' s m args below meth c T locs ce sl := hT0
  obtain ⟨s2, o, st, r⟩ := k T locs hT hH hF
  exact ⟨s2, o, XS.lload (Stand.here hT) hx rfl (hb hby hd) (by simpa using hl) st, r⟩
theorem W.lloadN {n : Fin 4} {v : Int64} (K : Ctx X l Z R y code maxL ret) (pc' : Nat) (hd : decode code pc = .ok (.lload_n n, 1)) (i : Nat) (hi : n.val = i) (hl : L[i]? = some (.val (.long v))) (k : WP X Z rc rs Q pc' L (.long v :: S) os ce sl) (hp : pc + 1 = pc' := by rfl) : WP X Z rc rs Q pc L S os ce sl := by
  obtain ⟨p, l', e, R', s, m, args, below, meth, c⟩ := X
  obtain ⟨h1, h2, hx, hZ, hby, hml, hown, hnm, hret, hlk⟩ := K
  have h2' : R' = R := h2
  subst h2'
  subst hp
  intro T locs hT0 hH hF
  have hT : Stand p l' e R' s m args below meth c T locs ce sl := hT0
  obtain ⟨s2, o, st, r⟩ := k T locs hT hH hF
  exact ⟨s2, o, XS.lloadN (Stand.here hT) hx rfl (hb hby hd) (by rw [hi]; simpa using hl) st, r⟩
theorem W.aload {n : Nat} {v : Value} (K : Ctx X l Z R y code maxL ret) (pc' : Nat) (hd : decode code pc = .ok (.aload n, 2)) (hl : L[n]? = some (.val v)) (hv : v.isRef = true) (k : WP X Z rc rs Q pc' L (v :: S) os ce sl) (hp : pc + 2 = pc' := by rfl) : WP X Z rc rs Q pc L S os ce sl := by
  obtain ⟨p, l', e, R', s, m, args, below, meth, c⟩ := X
  obtain ⟨h1, h2, hx, hZ, hby, hml, hown, hnm, hret, hlk⟩ := K
  have h2' : R' = R := h2
  subst h2'
  subst hp
  intro T locs hT0 hH hF
  have hT : Stand p l' e R' s m args below meth c T locs ce sl := hT0
  obtain ⟨s2, o, st, r⟩ := k T locs hT hH hF
  exact ⟨s2, o, XS.aload (Stand.here hT) hx rfl (hb hby hd) (by simpa using hl) hv st, r⟩
theorem W.aloadN {n : Fin 4} {v : Value} (K : Ctx X l Z R y code maxL ret) (pc' : Nat) (hd : decode code pc = .ok (.aload_n n, 1)) (i : Nat) (hi : n.val = i) (hl : L[i]? = some (.val v)) (hv : v.isRef = true) (k : WP X Z rc rs Q pc' L (v :: S) os ce sl) (hp : pc + 1 = pc' := by rfl) : WP X Z rc rs Q pc L S os ce sl := by
  obtain ⟨p, l', e, R', s, m, args, below, meth, c⟩ := X
  obtain ⟨h1, h2, hx, hZ, hby, hml, hown, hnm, hret, hlk⟩ := K
  have h2' : R' = R := h2
  subst h2'
  subst hp
  intro T locs hT0 hH hF
  have hT : Stand p l' e R' s m args below meth c T locs ce sl := hT0
  obtain ⟨s2, o, st, r⟩ := k T locs hT hH hF
  exact ⟨s2, o, XS.aloadN (Stand.here hT) hx rfl (hb hby hd) (by rw [hi]; simpa using hl) hv st, r⟩
theorem setL0 {α : Type} {x z : α} {r : List α} : (z :: r).set 0 x = x :: r := rfl
theorem setLS {α : Type} {x z : α} {r r' : List α} {n : Nat} (h : r.set n x = r') : (z :: r).set (n + 1) x = z :: r' := by rw [List.set_cons_succ, h]
def okS : Slot → Bool
  | .unset => true
  | .val v => v.category == 1
  | .second => false
theorem okS_one {L : List Slot} {n : Nat} {v : Value} (ho : (L[n]?.map okS) = some true) (hv : v.category = 1) : storeLocals L.toArray n v = some (L.set n (.val v)).toArray := by
  cases hq : L[n]? with
  | none => simp [hq] at ho
  | some o =>
    rw [hq] at ho
    have h := XS.store1 (l := L.toArray) (i := n) (v := v) (o := o) (by simpa using hq) (by
      cases o with
      | unset => exact Or.inl rfl
      | second => simp [okS] at ho
      | val w => exact Or.inr ⟨w, rfl, by simpa [okS] using ho⟩) hv
    rw [h]; simp

theorem W.istore {n : Nat} {x : Int32} {L' : List Slot} (K : Ctx X l Z R y code maxL ret) (pc' : Nat) (hd : decode code pc = .ok (.istore n, 2)) (ho : (L[n]?.map okS) = some true) (hL : L.set n (.val (.int x)) = L') (k : WP X Z rc rs Q pc' L' S os ce sl) (hp : pc + 2 = pc' := by rfl) : WP X Z rc rs Q pc L (.int x :: S) os ce sl := by
  obtain ⟨p, l', e, R', s, m, args, below, meth, c⟩ := X
  obtain ⟨h1, h2, hx, hZ, hby, hml, hown, hnm, hret, hlk⟩ := K
  have h2' : R' = R := h2
  subst h2'
  subst hp
  intro T locs hT0 hH hF
  have hT : Stand p l' e R' s m args below meth c T locs ce sl := hT0
  obtain ⟨s2, o, st, r⟩ := k T locs hT hH hF
  exact ⟨s2, o, XS.istore (Stand.here hT) hx rfl (hb hby hd) rfl (okS_one ho rfl) (hL ▸ st), r⟩
theorem W.istoreN {n : Fin 4} {x : Int32} {L' : List Slot} (K : Ctx X l Z R y code maxL ret) (pc' : Nat) (hd : decode code pc = .ok (.istore_n n, 1)) (i : Nat) (hi : n.val = i) (ho : (L[i]?.map okS) = some true) (hL : L.set i (.val (.int x)) = L') (k : WP X Z rc rs Q pc' L' S os ce sl) (hp : pc + 1 = pc' := by rfl) : WP X Z rc rs Q pc L (.int x :: S) os ce sl := by
  obtain ⟨p, l', e, R', s, m, args, below, meth, c⟩ := X
  obtain ⟨h1, h2, hx, hZ, hby, hml, hown, hnm, hret, hlk⟩ := K
  have h2' : R' = R := h2
  subst h2'
  subst hp
  intro T locs hT0 hH hF
  have hT : Stand p l' e R' s m args below meth c T locs ce sl := hT0
  obtain ⟨s2, o, st, r⟩ := k T locs hT hH hF
  exact ⟨s2, o, XS.istoreN (Stand.here hT) hx rfl (hb hby hd) rfl (by rw [hi]; exact okS_one ho rfl) (hL ▸ st), r⟩
theorem W.astore {n : Nat} {x : Value} {L' : List Slot} (K : Ctx X l Z R y code maxL ret) (pc' : Nat) (hd : decode code pc = .ok (.astore n, 2)) (hv : x.isRef = true) (ho : (L[n]?.map okS) = some true) (hL : L.set n (.val x) = L') (k : WP X Z rc rs Q pc' L' S os ce sl) (hp : pc + 2 = pc' := by rfl) : WP X Z rc rs Q pc L (x :: S) os ce sl := by
  obtain ⟨p, l', e, R', s, m, args, below, meth, c⟩ := X
  obtain ⟨h1, h2, hx, hZ, hby, hml, hown, hnm, hret, hlk⟩ := K
  have h2' : R' = R := h2
  subst h2'
  subst hp
  intro T locs hT0 hH hF
  have hT : Stand p l' e R' s m args below meth c T locs ce sl := hT0
  obtain ⟨s2, o, st, r⟩ := k T locs hT hH hF
  exact ⟨s2, o, XS.astore (Stand.here hT) hx rfl (hb hby hd) rfl hv (okS_one ho (XT.cat1 hv)) (hL ▸ st), r⟩
theorem W.astoreN {n : Fin 4} {x : Value} {L' : List Slot} (K : Ctx X l Z R y code maxL ret) (pc' : Nat) (hd : decode code pc = .ok (.astore_n n, 1)) (i : Nat) (hi : n.val = i) (hv : x.isRef = true) (ho : (L[i]?.map okS) = some true) (hL : L.set i (.val x) = L') (k : WP X Z rc rs Q pc' L' S os ce sl) (hp : pc + 1 = pc' := by rfl) : WP X Z rc rs Q pc L (x :: S) os ce sl := by
  obtain ⟨p, l', e, R', s, m, args, below, meth, c⟩ := X
  obtain ⟨h1, h2, hx, hZ, hby, hml, hown, hnm, hret, hlk⟩ := K
  have h2' : R' = R := h2
  subst h2'
  subst hp
  intro T locs hT0 hH hF
  have hT : Stand p l' e R' s m args below meth c T locs ce sl := hT0
  obtain ⟨s2, o, st, r⟩ := k T locs hT hH hF
  exact ⟨s2, o, XS.astoreN (Stand.here hT) hx rfl (hb hby hd) rfl hv (by rw [hi]; exact okS_one ho (XT.cat1 hv)) (hL ▸ st), r⟩
theorem W.lstore {n : Nat} {x : Int64} {L1 L' : List Slot} (K : Ctx X l Z R y code maxL ret) (pc' : Nat) (hd : decode code pc = .ok (.lstore n, 2)) (hL1 : L.set n (.val (.long x)) = L1) (hL2 : L1.set (n + 1) .second = L') (k : WP X Z rc rs Q pc' L' S os ce sl) (ho : storeLocals L.toArray n (.long x) = some L'.toArray := by rfl) (hp : pc + 2 = pc' := by rfl) : WP X Z rc rs Q pc L (.long x :: S) os ce sl := by
  obtain ⟨p, l', e, R', s, m, args, below, meth, c⟩ := X
  obtain ⟨h1, h2, hx, hZ, hby, hml, hown, hnm, hret, hlk⟩ := K
  have h2' : R' = R := h2
  subst h2'
  subst hp
  intro T locs hT0 hH hF
  have hT : Stand p l' e R' s m args below meth c T locs ce sl := hT0
  obtain ⟨s2, o, st, r⟩ := k T locs hT hH hF
  exact ⟨s2, o, XS.lstore (Stand.here hT) hx rfl (hb hby hd) rfl ho st, r⟩
theorem W.lstoreN {n : Fin 4} {x : Int64} {L1 L' : List Slot} (K : Ctx X l Z R y code maxL ret) (pc' : Nat) (hd : decode code pc = .ok (.lstore_n n, 1)) (i : Nat) (hi : n.val = i) (hL1 : L.set i (.val (.long x)) = L1) (hL2 : L1.set (i + 1) .second = L') (k : WP X Z rc rs Q pc' L' S os ce sl) (ho : storeLocals L.toArray i (.long x) = some L'.toArray := by rfl) (hp : pc + 1 = pc' := by rfl) : WP X Z rc rs Q pc L (.long x :: S) os ce sl := by
  obtain ⟨p, l', e, R', s, m, args, below, meth, c⟩ := X
  obtain ⟨h1, h2, hx, hZ, hby, hml, hown, hnm, hret, hlk⟩ := K
  have h2' : R' = R := h2
  subst h2'
  subst hp
  intro T locs hT0 hH hF
  have hT : Stand p l' e R' s m args below meth c T locs ce sl := hT0
  obtain ⟨s2, o, st, r⟩ := k T locs hT hH hF
  exact ⟨s2, o, XS.lstoreN (Stand.here hT) hx rfl (hb hby hd) rfl (by rw [hi]; exact ho) st, r⟩
theorem W.iinc {n : Nat} {i : Int} {x : Int32} {L' : List Slot} (K : Ctx X l Z R y code maxL ret) (pc' : Nat) (hd : decode code pc = .ok (.iinc n i, 3)) (v : Int32) (hv : Int32.ofInt i = v) (hl : L[n]? = some (.val (.int x))) (hL : L.set n (.val (.int (x + v))) = L') (k : WP X Z rc rs Q pc' L' S os ce sl) (hp : pc + 3 = pc' := by rfl) : WP X Z rc rs Q pc L S os ce sl := by
  obtain ⟨p, l', e, R', s, m, args, below, meth, c⟩ := X
  obtain ⟨h1, h2, hx, hZ, hby, hml, hown, hnm, hret, hlk⟩ := K
  have h2' : R' = R := h2
  subst h2'
  subst hp
  intro T locs hT0 hH hF
  have hT : Stand p l' e R' s m args below meth c T locs ce sl := hT0
  obtain ⟨s2, o, st, r⟩ := k T locs hT hH hF
  exact ⟨s2, o, XS.iinc (Stand.here hT) hx rfl (hb hby hd) (by simpa using hl) (okS_one (by rw [hl]; rfl) rfl) (by subst hv; exact hL ▸ st), r⟩
theorem W.goto {o : Int} (K : Ctx X l Z R y code maxL ret) (pc' : Nat) (hd : decode code pc = .ok (.goto o, 3)) (k : WP X Z rc rs Q pc' L S os ce sl) (hp : (pc : Int) + o = (pc' : Int) := by decide) : WP X Z rc rs Q pc L S os ce sl := by
  obtain ⟨p, l', e, R', s, m, args, below, meth, c⟩ := X
  obtain ⟨h1, h2, hx, hZ, hby, hml, hown, hnm, hret, hlk⟩ := K
  have h2' : R' = R := h2
  subst h2'
  intro T locs hT0 hH hF
  have hT : Stand p l' e R' s m args below meth c T locs ce sl := hT0
  obtain ⟨s2, o', st, r⟩ := k T locs hT hH hF
  exact ⟨s2, o', XS.goto (Stand.here hT) hx rfl (pc0 := pc) rfl (hb hby hd) (by rw [hp]; exact Int.natCast_nonneg _) (by rw [hp]; rfl) st, r⟩
theorem W.icmp {cd : ClassFile.Cond} {o : Int} {x z : Int32} {F : Prop} (ht : F → if_icmp.holds cd x z = true) (hf : ¬ F → if_icmp.holds cd x z = false) (K : Ctx X l Z R y code maxL ret) (pt pf : Nat) (hd : decode code pc = .ok (.if_icmp cd o, 3)) (kt : F → WP X Z rc rs Q pt L S os ce sl) (kf : ¬ F → WP X Z rc rs Q pf L S os ce sl)
    (hp : (pc : Int) + o = (pt : Int)) (hq : pc + 3 = pf) : WP X Z rc rs Q pc L (.int z :: .int x :: S) os ce sl := by
  obtain ⟨p, l', e, R', s, m, args, below, meth, c⟩ := X
  obtain ⟨h1, h2, hx, hZ, hby, hml, hown, hnm, hret, hlk⟩ := K
  have h2' : R' = R := h2
  subst h2'
  subst hq
  intro T locs hT0 hH hF
  have hT : Stand p l' e R' s m args below meth c T locs ce sl := hT0
  by_cases h : F
  · obtain ⟨s2, o', st, r⟩ := kt h T locs hT hH hF
    exact ⟨s2, o', XS.icmpYes (Stand.here hT) hx rfl (pc0 := pc) rfl (hb hby hd) rfl (ht h) (by rw [hp]; exact Int.natCast_nonneg _) (by rw [hp]; rfl) st, r⟩
  · obtain ⟨s2, o', st, r⟩ := kf h T locs hT hH hF
    exact ⟨s2, o', XS.icmpNo (Stand.here hT) hx rfl (hb hby hd) rfl (hf h) st, r⟩
theorem W.ifc {cd : ClassFile.Cond} {o : Int} {x : Int32} {F : Prop} (ht : F → ifCond.holds cd x = true) (hf : ¬ F → ifCond.holds cd x = false) (K : Ctx X l Z R y code maxL ret) (pt pf : Nat) (hd : decode code pc = .ok (.ifCond cd o, 3)) (kt : F → WP X Z rc rs Q pt L S os ce sl) (kf : ¬ F → WP X Z rc rs Q pf L S os ce sl)
    (hp : (pc : Int) + o = (pt : Int)) (hq : pc + 3 = pf) : WP X Z rc rs Q pc L (.int x :: S) os ce sl := by
  obtain ⟨p, l', e, R', s, m, args, below, meth, c⟩ := X
  obtain ⟨h1, h2, hx, hZ, hby, hml, hown, hnm, hret, hlk⟩ := K
  have h2' : R' = R := h2
  subst h2'
  subst hq
  intro T locs hT0 hH hF
  have hT : Stand p l' e R' s m args below meth c T locs ce sl := hT0
  by_cases h : F
  · obtain ⟨s2, o', st, r⟩ := kt h T locs hT hH hF
    exact ⟨s2, o', XS.ifYes (Stand.here hT) hx rfl (pc0 := pc) rfl (hb hby hd) rfl (ht h) (by rw [hp]; exact Int.natCast_nonneg _) (by rw [hp]; rfl) st, r⟩
  · obtain ⟨s2, o', st, r⟩ := kf h T locs hT hH hF
    exact ⟨s2, o', XS.ifNo (Stand.here hT) hx rfl (hb hby hd) rfl (hf h) st, r⟩
theorem W.lcmpc {cd : ClassFile.Cond} {o : Int} {x z : Int64} {F : Prop} (ht : F → ifCond.holds cd (lcmpW x z) = true) (hf : ¬ F → ifCond.holds cd (lcmpW x z) = false) (K : Ctx X l Z R y code maxL ret) (pc1 pt pf : Nat) (hd0 : decode code pc = .ok (.lcmp, 1)) (hd : decode code pc1 = .ok (.ifCond cd o, 3)) (kt : F → WP X Z rc rs Q pt L S os ce sl) (kf : ¬ F → WP X Z rc rs Q pf L S os ce sl)
    (h1' : pc + 1 = pc1) (hp : (pc1 : Int) + o = (pt : Int)) (hq : pc1 + 3 = pf) : WP X Z rc rs Q pc L (.long z :: .long x :: S) os ce sl := by
  have k1 : WP X Z rc rs Q pc1 L (.int (lcmpW x z) :: S) os ce sl := W.ifc ht hf K pt pf hd kt kf hp hq
  obtain ⟨p, l', e, R', s, m, args, below, meth, c⟩ := X
  obtain ⟨h1, h2, hx, hZ, hby, hml, hown, hnm, hret, hlk⟩ := K
  have h2' : R' = R := h2
  subst h2'
  subst h1'
  intro T locs hT0 hH hF
  have hT : Stand p l' e R' s m args below meth c T locs ce sl := hT0
  obtain ⟨s2, o', st, r⟩ := k1 T locs hT hH hF
  exact ⟨s2, o', XS.lcmp (Stand.here hT) hx rfl (hb hby hd0) rfl st, r⟩
theorem W.icmp_eq {o : Int} {x z : Int32} (K : Ctx X l Z R y code maxL ret) (pt pf : Nat) (hd : decode code pc = .ok (.if_icmp .eq o, 3)) (kt : x = z → WP X Z rc rs Q pt L S os ce sl) (kf : ¬ (x = z) → WP X Z rc rs Q pf L S os ce sl) (hp : (pc : Int) + o = (pt : Int) := by decide) (hq : pc + 3 = pf := by rfl) : WP X Z rc rs Q pc L (.int z :: .int x :: S) os ce sl :=
  W.icmp (F := x = z) (fun h => XT.ii_eq_t h) (fun h => XT.ii_eq_f h) K pt pf hd kt (fun h => kf h) hp hq
theorem W.if_eq {o : Int} {x : Int32} (K : Ctx X l Z R y code maxL ret) (pt pf : Nat) (hd : decode code pc = .ok (.ifCond .eq o, 3)) (kt : x = 0 → WP X Z rc rs Q pt L S os ce sl) (kf : ¬ (x = 0) → WP X Z rc rs Q pf L S os ce sl) (hp : (pc : Int) + o = (pt : Int) := by decide) (hq : pc + 3 = pf := by rfl) : WP X Z rc rs Q pc L (.int x :: S) os ce sl :=
  W.ifc (F := x = 0) (fun h => XT.i0_eq_t h) (fun h => XT.i0_eq_f h) K pt pf hd kt (fun h => kf h) hp hq
theorem W.lcmp_eq {o : Int} {x z : Int64} (K : Ctx X l Z R y code maxL ret) (pc1 pt pf : Nat) (hd0 : decode code pc = .ok (.lcmp, 1)) (hd : decode code pc1 = .ok (.ifCond .eq o, 3)) (kt : x = z → WP X Z rc rs Q pt L S os ce sl) (kf : ¬ (x = z) → WP X Z rc rs Q pf L S os ce sl) (h1' : pc + 1 = pc1 := by rfl) (hp : (pc1 : Int) + o = (pt : Int) := by decide) (hq : pc1 + 3 = pf := by rfl) : WP X Z rc rs Q pc L (.long z :: .long x :: S) os ce sl :=
  W.lcmpc (F := x = z) (fun h => XT.ll_eq_t h) (fun h => XT.ll_eq_f h) K pc1 pt pf hd0 hd kt (fun h => kf h) h1' hp hq
theorem W.icmp_ne {o : Int} {x z : Int32} (K : Ctx X l Z R y code maxL ret) (pt pf : Nat) (hd : decode code pc = .ok (.if_icmp .ne o, 3)) (kt : ¬ (x = z) → WP X Z rc rs Q pt L S os ce sl) (kf : x = z → WP X Z rc rs Q pf L S os ce sl) (hp : (pc : Int) + o = (pt : Int) := by decide) (hq : pc + 3 = pf := by rfl) : WP X Z rc rs Q pc L (.int z :: .int x :: S) os ce sl :=
  W.icmp (F := ¬ (x = z)) (fun h => XT.ii_ne_t h) (fun h => XT.ii_ne_f (Classical.not_not.mp h)) K pt pf hd kt (fun h => kf (Classical.not_not.mp h)) hp hq
theorem W.if_ne {o : Int} {x : Int32} (K : Ctx X l Z R y code maxL ret) (pt pf : Nat) (hd : decode code pc = .ok (.ifCond .ne o, 3)) (kt : ¬ (x = 0) → WP X Z rc rs Q pt L S os ce sl) (kf : x = 0 → WP X Z rc rs Q pf L S os ce sl) (hp : (pc : Int) + o = (pt : Int) := by decide) (hq : pc + 3 = pf := by rfl) : WP X Z rc rs Q pc L (.int x :: S) os ce sl :=
  W.ifc (F := ¬ (x = 0)) (fun h => XT.i0_ne_t h) (fun h => XT.i0_ne_f (Classical.not_not.mp h)) K pt pf hd kt (fun h => kf (Classical.not_not.mp h)) hp hq
theorem W.lcmp_ne {o : Int} {x z : Int64} (K : Ctx X l Z R y code maxL ret) (pc1 pt pf : Nat) (hd0 : decode code pc = .ok (.lcmp, 1)) (hd : decode code pc1 = .ok (.ifCond .ne o, 3)) (kt : ¬ (x = z) → WP X Z rc rs Q pt L S os ce sl) (kf : x = z → WP X Z rc rs Q pf L S os ce sl) (h1' : pc + 1 = pc1 := by rfl) (hp : (pc1 : Int) + o = (pt : Int) := by decide) (hq : pc1 + 3 = pf := by rfl) : WP X Z rc rs Q pc L (.long z :: .long x :: S) os ce sl :=
  W.lcmpc (F := ¬ (x = z)) (fun h => XT.ll_ne_t h) (fun h => XT.ll_ne_f (Classical.not_not.mp h)) K pc1 pt pf hd0 hd kt (fun h => kf (Classical.not_not.mp h)) h1' hp hq
theorem W.icmp_lt {o : Int} {x z : Int32} (K : Ctx X l Z R y code maxL ret) (pt pf : Nat) (hd : decode code pc = .ok (.if_icmp .lt o, 3)) (kt : x.toInt < z.toInt → WP X Z rc rs Q pt L S os ce sl) (kf : ¬ (x.toInt < z.toInt) → WP X Z rc rs Q pf L S os ce sl) (hp : (pc : Int) + o = (pt : Int) := by decide) (hq : pc + 3 = pf := by rfl) : WP X Z rc rs Q pc L (.int z :: .int x :: S) os ce sl :=
  W.icmp (F := x.toInt < z.toInt) (fun h => XT.ii_lt_t (Int32.lt_iff_toInt_lt.mpr h)) (fun h => XT.ii_lt_f (fun q => h (Int32.lt_iff_toInt_lt.mp q))) K pt pf hd kt (fun h => kf h) hp hq
theorem W.if_lt {o : Int} {x : Int32} (K : Ctx X l Z R y code maxL ret) (pt pf : Nat) (hd : decode code pc = .ok (.ifCond .lt o, 3)) (kt : x.toInt < 0 → WP X Z rc rs Q pt L S os ce sl) (kf : ¬ (x.toInt < 0) → WP X Z rc rs Q pf L S os ce sl) (hp : (pc : Int) + o = (pt : Int) := by decide) (hq : pc + 3 = pf := by rfl) : WP X Z rc rs Q pc L (.int x :: S) os ce sl :=
  W.ifc (F := x.toInt < 0) (fun h => XT.i0_lt_t (Int32.lt_iff_toInt_lt.mpr (by simpa using h))) (fun h => XT.i0_lt_f (fun q => h (by have q2 := Int32.lt_iff_toInt_lt.mp q; simpa using q2))) K pt pf hd kt (fun h => kf h) hp hq
theorem W.lcmp_lt {o : Int} {x z : Int64} (K : Ctx X l Z R y code maxL ret) (pc1 pt pf : Nat) (hd0 : decode code pc = .ok (.lcmp, 1)) (hd : decode code pc1 = .ok (.ifCond .lt o, 3)) (kt : x.toInt < z.toInt → WP X Z rc rs Q pt L S os ce sl) (kf : ¬ (x.toInt < z.toInt) → WP X Z rc rs Q pf L S os ce sl) (h1' : pc + 1 = pc1 := by rfl) (hp : (pc1 : Int) + o = (pt : Int) := by decide) (hq : pc1 + 3 = pf := by rfl) : WP X Z rc rs Q pc L (.long z :: .long x :: S) os ce sl :=
  W.lcmpc (F := x.toInt < z.toInt) (fun h => XT.ll_lt_t (Int64.lt_iff_toInt_lt.mpr h)) (fun h => XT.ll_lt_f (fun q => h (Int64.lt_iff_toInt_lt.mp q))) K pc1 pt pf hd0 hd kt (fun h => kf h) h1' hp hq
theorem W.icmp_ge {o : Int} {x z : Int32} (K : Ctx X l Z R y code maxL ret) (pt pf : Nat) (hd : decode code pc = .ok (.if_icmp .ge o, 3)) (kt : ¬ (x.toInt < z.toInt) → WP X Z rc rs Q pt L S os ce sl) (kf : x.toInt < z.toInt → WP X Z rc rs Q pf L S os ce sl) (hp : (pc : Int) + o = (pt : Int) := by decide) (hq : pc + 3 = pf := by rfl) : WP X Z rc rs Q pc L (.int z :: .int x :: S) os ce sl :=
  W.icmp (F := ¬ (x.toInt < z.toInt)) (fun h => XT.ii_ge_t (fun q => h (Int32.lt_iff_toInt_lt.mp q))) (fun h => XT.ii_ge_f (Int32.lt_iff_toInt_lt.mpr (Classical.not_not.mp h))) K pt pf hd kt (fun h => kf (Classical.not_not.mp h)) hp hq
theorem W.if_ge {o : Int} {x : Int32} (K : Ctx X l Z R y code maxL ret) (pt pf : Nat) (hd : decode code pc = .ok (.ifCond .ge o, 3)) (kt : ¬ (x.toInt < 0) → WP X Z rc rs Q pt L S os ce sl) (kf : x.toInt < 0 → WP X Z rc rs Q pf L S os ce sl) (hp : (pc : Int) + o = (pt : Int) := by decide) (hq : pc + 3 = pf := by rfl) : WP X Z rc rs Q pc L (.int x :: S) os ce sl :=
  W.ifc (F := ¬ (x.toInt < 0)) (fun h => XT.i0_ge_t (fun q => h (by have q2 := Int32.lt_iff_toInt_lt.mp q; simpa using q2))) (fun h => XT.i0_ge_f (Int32.lt_iff_toInt_lt.mpr (by simpa using (Classical.not_not.mp h)))) K pt pf hd kt (fun h => kf (Classical.not_not.mp h)) hp hq
theorem W.lcmp_ge {o : Int} {x z : Int64} (K : Ctx X l Z R y code maxL ret) (pc1 pt pf : Nat) (hd0 : decode code pc = .ok (.lcmp, 1)) (hd : decode code pc1 = .ok (.ifCond .ge o, 3)) (kt : ¬ (x.toInt < z.toInt) → WP X Z rc rs Q pt L S os ce sl) (kf : x.toInt < z.toInt → WP X Z rc rs Q pf L S os ce sl) (h1' : pc + 1 = pc1 := by rfl) (hp : (pc1 : Int) + o = (pt : Int) := by decide) (hq : pc1 + 3 = pf := by rfl) : WP X Z rc rs Q pc L (.long z :: .long x :: S) os ce sl :=
  W.lcmpc (F := ¬ (x.toInt < z.toInt)) (fun h => XT.ll_ge_t (fun q => h (Int64.lt_iff_toInt_lt.mp q))) (fun h => XT.ll_ge_f (Int64.lt_iff_toInt_lt.mpr (Classical.not_not.mp h))) K pc1 pt pf hd0 hd kt (fun h => kf (Classical.not_not.mp h)) h1' hp hq
theorem W.icmp_gt {o : Int} {x z : Int32} (K : Ctx X l Z R y code maxL ret) (pt pf : Nat) (hd : decode code pc = .ok (.if_icmp .gt o, 3)) (kt : z.toInt < x.toInt → WP X Z rc rs Q pt L S os ce sl) (kf : ¬ (z.toInt < x.toInt) → WP X Z rc rs Q pf L S os ce sl) (hp : (pc : Int) + o = (pt : Int) := by decide) (hq : pc + 3 = pf := by rfl) : WP X Z rc rs Q pc L (.int z :: .int x :: S) os ce sl :=
  W.icmp (F := z.toInt < x.toInt) (fun h => XT.ii_gt_t (Int32.lt_iff_toInt_lt.mpr h)) (fun h => XT.ii_gt_f (fun q => h (Int32.lt_iff_toInt_lt.mp q))) K pt pf hd kt (fun h => kf h) hp hq
theorem W.if_gt {o : Int} {x : Int32} (K : Ctx X l Z R y code maxL ret) (pt pf : Nat) (hd : decode code pc = .ok (.ifCond .gt o, 3)) (kt : 0 < x.toInt → WP X Z rc rs Q pt L S os ce sl) (kf : ¬ (0 < x.toInt) → WP X Z rc rs Q pf L S os ce sl) (hp : (pc : Int) + o = (pt : Int) := by decide) (hq : pc + 3 = pf := by rfl) : WP X Z rc rs Q pc L (.int x :: S) os ce sl :=
  W.ifc (F := 0 < x.toInt) (fun h => XT.i0_gt_t (Int32.lt_iff_toInt_lt.mpr (by simpa using h))) (fun h => XT.i0_gt_f (fun q => h (by have q2 := Int32.lt_iff_toInt_lt.mp q; simpa using q2))) K pt pf hd kt (fun h => kf h) hp hq
theorem W.lcmp_gt {o : Int} {x z : Int64} (K : Ctx X l Z R y code maxL ret) (pc1 pt pf : Nat) (hd0 : decode code pc = .ok (.lcmp, 1)) (hd : decode code pc1 = .ok (.ifCond .gt o, 3)) (kt : z.toInt < x.toInt → WP X Z rc rs Q pt L S os ce sl) (kf : ¬ (z.toInt < x.toInt) → WP X Z rc rs Q pf L S os ce sl) (h1' : pc + 1 = pc1 := by rfl) (hp : (pc1 : Int) + o = (pt : Int) := by decide) (hq : pc1 + 3 = pf := by rfl) : WP X Z rc rs Q pc L (.long z :: .long x :: S) os ce sl :=
  W.lcmpc (F := z.toInt < x.toInt) (fun h => XT.ll_gt_t (Int64.lt_iff_toInt_lt.mpr h)) (fun h => XT.ll_gt_f (fun q => h (Int64.lt_iff_toInt_lt.mp q))) K pc1 pt pf hd0 hd kt (fun h => kf h) h1' hp hq
theorem W.icmp_le {o : Int} {x z : Int32} (K : Ctx X l Z R y code maxL ret) (pt pf : Nat) (hd : decode code pc = .ok (.if_icmp .le o, 3)) (kt : ¬ (z.toInt < x.toInt) → WP X Z rc rs Q pt L S os ce sl) (kf : z.toInt < x.toInt → WP X Z rc rs Q pf L S os ce sl) (hp : (pc : Int) + o = (pt : Int) := by decide) (hq : pc + 3 = pf := by rfl) : WP X Z rc rs Q pc L (.int z :: .int x :: S) os ce sl :=
  W.icmp (F := ¬ (z.toInt < x.toInt)) (fun h => XT.ii_le_t (fun q => h (Int32.lt_iff_toInt_lt.mp q))) (fun h => XT.ii_le_f (Int32.lt_iff_toInt_lt.mpr (Classical.not_not.mp h))) K pt pf hd kt (fun h => kf (Classical.not_not.mp h)) hp hq
theorem W.if_le {o : Int} {x : Int32} (K : Ctx X l Z R y code maxL ret) (pt pf : Nat) (hd : decode code pc = .ok (.ifCond .le o, 3)) (kt : ¬ (0 < x.toInt) → WP X Z rc rs Q pt L S os ce sl) (kf : 0 < x.toInt → WP X Z rc rs Q pf L S os ce sl) (hp : (pc : Int) + o = (pt : Int) := by decide) (hq : pc + 3 = pf := by rfl) : WP X Z rc rs Q pc L (.int x :: S) os ce sl :=
  W.ifc (F := ¬ (0 < x.toInt)) (fun h => XT.i0_le_t (fun q => h (by have q2 := Int32.lt_iff_toInt_lt.mp q; simpa using q2))) (fun h => XT.i0_le_f (Int32.lt_iff_toInt_lt.mpr (by simpa using (Classical.not_not.mp h)))) K pt pf hd kt (fun h => kf (Classical.not_not.mp h)) hp hq
theorem W.lcmp_le {o : Int} {x z : Int64} (K : Ctx X l Z R y code maxL ret) (pc1 pt pf : Nat) (hd0 : decode code pc = .ok (.lcmp, 1)) (hd : decode code pc1 = .ok (.ifCond .le o, 3)) (kt : ¬ (z.toInt < x.toInt) → WP X Z rc rs Q pt L S os ce sl) (kf : z.toInt < x.toInt → WP X Z rc rs Q pf L S os ce sl) (h1' : pc + 1 = pc1 := by rfl) (hp : (pc1 : Int) + o = (pt : Int) := by decide) (hq : pc1 + 3 = pf := by rfl) : WP X Z rc rs Q pc L (.long z :: .long x :: S) os ce sl :=
  W.lcmpc (F := ¬ (z.toInt < x.toInt)) (fun h => XT.ll_le_t (fun q => h (Int64.lt_iff_toInt_lt.mp q))) (fun h => XT.ll_le_f (Int64.lt_iff_toInt_lt.mpr (Classical.not_not.mp h))) K pc1 pt pf hd0 hd kt (fun h => kf (Classical.not_not.mp h)) h1' hp hq
theorem W.ifnullY {o : Int} (K : Ctx X l Z R y code maxL ret) (pt : Nat) (hd : decode code pc = .ok (.ifnull o, 3)) (k : WP X Z rc rs Q pt L S os ce sl) (hp : (pc : Int) + o = (pt : Int) := by decide) : WP X Z rc rs Q pc L (.null :: S) os ce sl := by
  obtain ⟨p, l', e, R', s, m, args, below, meth, c⟩ := X
  obtain ⟨h1, h2, hx, hZ, hby, hml, hown, hnm, hret, hlk⟩ := K
  have h2' : R' = R := h2
  subst h2'
  intro T locs hT0 hH hF
  have hT : Stand p l' e R' s m args below meth c T locs ce sl := hT0
  obtain ⟨s2, o', st, r⟩ := k T locs hT hH hF
  exact ⟨s2, o', XS.ifnullYes (Stand.here hT) hx rfl (pc0 := pc) rfl (hb hby hd) rfl (by rw [hp]; exact Int.natCast_nonneg _) (by rw [hp]; rfl) st, r⟩
theorem W.ifnonnullY {o : Int} {a : Addr} (K : Ctx X l Z R y code maxL ret) (pt : Nat) (hd : decode code pc = .ok (.ifnonnull o, 3)) (k : WP X Z rc rs Q pt L S os ce sl) (hp : (pc : Int) + o = (pt : Int) := by decide) : WP X Z rc rs Q pc L (.ref a :: S) os ce sl := by
  obtain ⟨p, l', e, R', s, m, args, below, meth, c⟩ := X
  obtain ⟨h1, h2, hx, hZ, hby, hml, hown, hnm, hret, hlk⟩ := K
  have h2' : R' = R := h2
  subst h2'
  intro T locs hT0 hH hF
  have hT : Stand p l' e R' s m args below meth c T locs ce sl := hT0
  obtain ⟨s2, o', st, r⟩ := k T locs hT hH hF
  exact ⟨s2, o', XT.nonnullYes (Stand.here hT) hx rfl (pc0 := pc) rfl (hb hby hd) rfl rfl (by simp) (by rw [hp]; exact Int.natCast_nonneg _) (by rw [hp]; rfl) st, r⟩
theorem W.ifnullN {o : Int} {a : Addr} (K : Ctx X l Z R y code maxL ret) (pc' : Nat) (hd : decode code pc = .ok (.ifnull o, 3)) (k : WP X Z rc rs Q pc' L S os ce sl) (hp : pc + 3 = pc' := by rfl) : WP X Z rc rs Q pc L (.ref a :: S) os ce sl := by
  obtain ⟨p, l', e, R', s, m, args, below, meth, c⟩ := X
  obtain ⟨h1, h2, hx, hZ, hby, hml, hown, hnm, hret, hlk⟩ := K
  have h2' : R' = R := h2
  subst h2'
  subst hp
  intro T locs hT0 hH hF
  have hT : Stand p l' e R' s m args below meth c T locs ce sl := hT0
  obtain ⟨s2, o, st, r⟩ := k T locs hT hH hF
  exact ⟨s2, o, XS.ifnullNo (Stand.here hT) hx rfl (hb hby hd) rfl st, r⟩
theorem W.ifnonnullN {o : Int} (K : Ctx X l Z R y code maxL ret) (pc' : Nat) (hd : decode code pc = .ok (.ifnonnull o, 3)) (k : WP X Z rc rs Q pc' L S os ce sl) (hp : pc + 3 = pc' := by rfl) : WP X Z rc rs Q pc L (.null :: S) os ce sl := by
  obtain ⟨p, l', e, R', s, m, args, below, meth, c⟩ := X
  obtain ⟨h1, h2, hx, hZ, hby, hml, hown, hnm, hret, hlk⟩ := K
  have h2' : R' = R := h2
  subst h2'
  subst hp
  intro T locs hT0 hH hF
  have hT : Stand p l' e R' s m args below meth c T locs ce sl := hT0
  obtain ⟨s2, o, st, r⟩ := k T locs hT hH hF
  exact ⟨s2, o, XT.nonnullNo (Stand.here hT) hx rfl (hb hby hd) rfl rfl st, r⟩
theorem W.acmp_eq {o : Int} {x z : Value} (K : Ctx X l Z R y code maxL ret) (pt pf : Nat) (hd : decode code pc = .ok (.if_acmp .eq o, 3)) (kt : x = z → WP X Z rc rs Q pt L S os ce sl) (kf : ¬ x = z → WP X Z rc rs Q pf L S os ce sl) (hr1 : x.isRef = true := by rfl) (hr2 : z.isRef = true := by rfl) (hp : (pc : Int) + o = (pt : Int) := by decide) (hq : pc + 3 = pf := by rfl) : WP X Z rc rs Q pc L (z :: x :: S) os ce sl := by
  obtain ⟨p, l', e, R', s, m, args, below, meth, c⟩ := X
  obtain ⟨h1, h2, hx, hZ, hby, hml, hown, hnm, hret, hlk⟩ := K
  have h2' : R' = R := h2
  subst h2'
  subst hq
  intro T locs hT0 hH hF
  have hT : Stand p l' e R' s m args below meth c T locs ce sl := hT0
  by_cases h : x = z
  · obtain ⟨s2, o', st, r⟩ := kt h T locs hT hH hF
    exact ⟨s2, o', XT.acmpYes (Stand.here hT) hx rfl (pc0 := pc) rfl (hb hby hd) rfl hr1 hr2 (XT.aa_eq_t h) (by rw [hp]; exact Int.natCast_nonneg _) (by rw [hp]; rfl) st, r⟩
  · obtain ⟨s2, o', st, r⟩ := kf h T locs hT hH hF
    exact ⟨s2, o', XT.acmpNo (Stand.here hT) hx rfl (hb hby hd) rfl hr1 hr2 (XT.aa_eq_f h) st, r⟩
theorem W.acmp_ne {o : Int} {x z : Value} (K : Ctx X l Z R y code maxL ret) (pt pf : Nat) (hd : decode code pc = .ok (.if_acmp .ne o, 3)) (kt : ¬ x = z → WP X Z rc rs Q pt L S os ce sl) (kf : x = z → WP X Z rc rs Q pf L S os ce sl) (hr1 : x.isRef = true := by rfl) (hr2 : z.isRef = true := by rfl) (hp : (pc : Int) + o = (pt : Int) := by decide) (hq : pc + 3 = pf := by rfl) : WP X Z rc rs Q pc L (z :: x :: S) os ce sl := by
  obtain ⟨p, l', e, R', s, m, args, below, meth, c⟩ := X
  obtain ⟨h1, h2, hx, hZ, hby, hml, hown, hnm, hret, hlk⟩ := K
  have h2' : R' = R := h2
  subst h2'
  subst hq
  intro T locs hT0 hH hF
  have hT : Stand p l' e R' s m args below meth c T locs ce sl := hT0
  by_cases h : x = z
  · obtain ⟨s2, o', st, r⟩ := kf h T locs hT hH hF
    exact ⟨s2, o', XT.acmpNo (Stand.here hT) hx rfl (hb hby hd) rfl hr1 hr2 (XT.aa_ne_f h) st, r⟩
  · obtain ⟨s2, o', st, r⟩ := kt h T locs hT hH hF
    exact ⟨s2, o', XT.acmpYes (Stand.here hT) hx rfl (pc0 := pc) rfl (hb hby hd) rfl hr1 hr2 (XT.aa_ne_t h) (by rw [hp]; exact Int.natCast_nonneg _) (by rw [hp]; rfl) st, r⟩
theorem W.bool {A B : Prop} [Decidable A] {o : Int} {i1 i0 : Int} {pt pf pg : Nat} {S0 : List Value} (pj : Nat) (v1 v0 : Int32) (K : Ctx X l Z R y code maxL ret) (br : (A → WP X Z rc rs Q pt L S os ce sl) → (B → WP X Z rc rs Q pf L S os ce sl) → WP X Z rc rs Q pc L S0 os ce sl)
    (d1 : decode code pf = .ok (.iconst i1, 1)) (d2 : decode code pg = .ok (.goto o, 3)) (d3 : decode code pt = .ok (.iconst i0, 1)) (k : WP X Z rc rs Q pj L (.int (if A then v0 else v1) :: S) os ce sl)
    (hAB : B → ¬ A := by first | exact id | exact fun h h' => h' h) (e1 : Int32.ofInt i1 = v1 := by rfl) (e0 : Int32.ofInt i0 = v0 := by rfl) (q1 : pf + 1 = pg := by rfl) (q2 : (pg : Int) + o = (pj : Int) := by decide) (q3 : pt + 1 = pj := by rfl) : WP X Z rc rs Q pc L S0 os ce sl := by
  refine br (fun h => ?_) (fun h => ?_)
  · refine W.iconst K pj d3 v0 e0 ?_ q3
    rw [if_pos h] at k; exact k
  · refine W.iconst K pg d1 v1 e1 ?_ q1
    refine W.goto K pj d2 ?_ q2
    rw [if_neg (hAB h)] at k; exact k
theorem W.sel {A B : Prop} [Decidable A] {pt pf : Nat} {S0 : List Value} {vt vf : Value} (pj : Nat) (br : (A → WP X Z rc rs Q pt L S os ce sl) → (B → WP X Z rc rs Q pf L S os ce sl) → WP X Z rc rs Q pc L S0 os ce sl)
    (kt : WP X Z rc rs Q pj L (vt :: S) os ce sl → WP X Z rc rs Q pt L S os ce sl) (kf : WP X Z rc rs Q pj L (vf :: S) os ce sl → WP X Z rc rs Q pf L S os ce sl) (k : WP X Z rc rs Q pj L ((if A then vt else vf) :: S) os ce sl) (hAB : B → ¬ A := by first | exact id | exact fun h h' => h' h) : WP X Z rc rs Q pc L S0 os ce sl :=
  br (fun h => kt (by rw [if_pos h] at k; exact k)) (fun h => kf (by rw [if_neg (hAB h)] at k; exact k))
theorem W.selI {A B : Prop} [Decidable A] {pt pf : Nat} {S0 : List Value} {vt vf : Int32} (pj : Nat) (br : (A → WP X Z rc rs Q pt L S os ce sl) → (B → WP X Z rc rs Q pf L S os ce sl) → WP X Z rc rs Q pc L S0 os ce sl)
    (kt : WP X Z rc rs Q pj L (.int vt :: S) os ce sl → WP X Z rc rs Q pt L S os ce sl) (kf : WP X Z rc rs Q pj L (.int vf :: S) os ce sl → WP X Z rc rs Q pf L S os ce sl) (k : WP X Z rc rs Q pj L (.int (if A then vt else vf) :: S) os ce sl) (hAB : B → ¬ A := by first | exact id | exact fun h h' => h' h) : WP X Z rc rs Q pc L S0 os ce sl :=
  br (fun h => kt (by rw [if_pos h] at k; exact k)) (fun h => kf (by rw [if_neg (hAB h)] at k; exact k))
theorem W.selL {A B : Prop} [Decidable A] {pt pf : Nat} {S0 : List Value} {vt vf : Int64} (pj : Nat) (br : (A → WP X Z rc rs Q pt L S os ce sl) → (B → WP X Z rc rs Q pf L S os ce sl) → WP X Z rc rs Q pc L S0 os ce sl)
    (kt : WP X Z rc rs Q pj L (.long vt :: S) os ce sl → WP X Z rc rs Q pt L S os ce sl) (kf : WP X Z rc rs Q pj L (.long vf :: S) os ce sl → WP X Z rc rs Q pf L S os ce sl) (k : WP X Z rc rs Q pj L (.long (if A then vt else vf) :: S) os ce sl) (hAB : B → ¬ A := by first | exact id | exact fun h h' => h' h) : WP X Z rc rs Q pc L S0 os ce sl :=
  br (fun h => kt (by rw [if_pos h] at k; exact k)) (fun h => kf (by rw [if_neg (hAB h)] at k; exact k))
theorem W.joinI {F : Prop} [Decidable F] {S0 : List Value} (pj : Nat) (tree : (F → WP X Z rc rs Q pj L (.int 1 :: S) os ce sl) → (¬ F → WP X Z rc rs Q pj L (.int 0 :: S) os ce sl) → WP X Z rc rs Q pc L S0 os ce sl) (k : WP X Z rc rs Q pj L (.int (if F then 1 else 0) :: S) os ce sl) : WP X Z rc rs Q pc L S0 os ce sl :=
  tree (fun h => by rw [if_pos h] at k; exact k) (fun h => by rw [if_neg h] at k; exact k)
theorem W.cutI {G : Int32 → Prop} {S0 : List Value} (pj n : Nat) (tree : (∀ v, G v → WP X Z rc rs Q pj (L.set n (.val (.int v))) S os ce sl) → WP X Z rc rs Q pc L S0 os ce sl) (k : ∀ v, G v → WP X Z rc rs Q pj (L.set n (.val (.int v))) S os ce sl) : WP X Z rc rs Q pc L S0 os ce sl := tree k
theorem W.cutV {G : Value → Prop} {S0 : List Value} (pj n : Nat) (tree : (∀ v, G v → WP X Z rc rs Q pj (L.set n (.val v)) S os ce sl) → WP X Z rc rs Q pc L S0 os ce sl) (k : ∀ v, G v → WP X Z rc rs Q pj (L.set n (.val v)) S os ce sl) : WP X Z rc rs Q pc L S0 os ce sl := tree k
theorem W.cutO {G : OS → Prop} {S0 : List Value} (pj : Nat) (tree : (∀ os', G os' → WP X Z rc rs Q pj L S os' ce sl) → WP X Z rc rs Q pc L S0 os ce sl) (k : ∀ os', G os' → WP X Z rc rs Q pj L S os' ce sl) : WP X Z rc rs Q pc L S0 os ce sl := tree k
theorem W.cutIO {G : Int32 → OS → Prop} {S0 : List Value} (pj n : Nat) (tree : (∀ v os', G v os' → WP X Z rc rs Q pj (L.set n (.val (.int v))) S os' ce sl) → WP X Z rc rs Q pc L S0 os ce sl) (k : ∀ v os', G v os' → WP X Z rc rs Q pj (L.set n (.val (.int v))) S os' ce sl) : WP X Z rc rs Q pc L S0 os ce sl := tree k
theorem W.cutS {G : Value → Prop} {S0 : List Value} (pj : Nat) (tree : (∀ v, G v → WP X Z rc rs Q pj L (v :: S) os ce sl) → WP X Z rc rs Q pc L S0 os ce sl) (k : ∀ v, G v → WP X Z rc rs Q pj L (v :: S) os ce sl) : WP X Z rc rs Q pc L S0 os ce sl := tree k
theorem W.ldcI {idx : Nat} {v : Int32} (K : Ctx X l Z R y code maxL ret) (pc' : Nat) (hd : decode code pc = .ok (.ldc idx, 2)) (w : (Jvm.Cond.constant y.cls idx v).before a0 Z = true) (k : WP X Z rc rs Q pc' L (.int v :: S) os ce sl) (hp : pc + 2 = pc' := by rfl) : WP X Z rc rs Q pc L S os ce sl := by
  obtain ⟨p, l', e, R', s, m, args, below, meth, c⟩ := X
  obtain ⟨h1, h2, hx, hZ, hby, hml, hown, hnm, hret, hlk⟩ := K
  have h2' : R' = R := h2
  subst h2'
  subst hp
  intro T locs hT0 hH hF
  have hT : Stand p l' e R' s m args below meth c T locs ce sl := hT0
  obtain ⟨s2, o, st, r⟩ := k T locs hT hH hF
  exact ⟨s2, o, Stand.ldcInt hT hx hown (mvT hZ w) (g := mkF m pc L.toArray S) rfl (hb hby hd) _ st, r⟩
theorem W.ldc2 {idx : Nat} {v : Int64} (K : Ctx X l Z R y code maxL ret) (pc' : Nat) (hd : decode code pc = .ok (.ldc2_w idx, 3)) (w : (Jvm.Cond.constantLong y.cls idx v).before a0 Z = true) (k : WP X Z rc rs Q pc' L (.long v :: S) os ce sl) (hp : pc + 3 = pc' := by rfl) : WP X Z rc rs Q pc L S os ce sl := by
  obtain ⟨p, l', e, R', s, m, args, below, meth, c⟩ := X
  obtain ⟨h1, h2, hx, hZ, hby, hml, hown, hnm, hret, hlk⟩ := K
  have h2' : R' = R := h2
  subst h2'
  subst hp
  intro T locs hT0 hH hF
  have hT : Stand p l' e R' s m args below meth c T locs ce sl := hT0
  obtain ⟨s2, o, st, r⟩ := k T locs hT hH hF
  exact ⟨s2, o, Stand.ldc2Long hT hx hown (mvT hZ w) (g := mkF m pc L.toArray S) rfl (hb hby hd) _ st, r⟩
theorem idx_ok {vs : List Value} {c : Cell} {j : Int32} {k : Nat} {v : Value} (hs : c.slots = vs.toArray) (hj : j.toInt = (k : Int)) (hv : vs[k]? = some v) : ¬ (j < 0 ∨ c.slots.size ≤ j.toNatClampNeg) ∧ j.toNatClampNeg = k ∧ c.slots[j.toNatClampNeg]? = some v := by
  have e : j.toNatClampNeg = k := by show j.toInt.toNat = k; rw [hj]; rfl
  have hk := (List.getElem?_eq_some_iff.mp hv).1
  refine ⟨?_, e, by rw [e, hs]; simpa using hv⟩
  rw [Int32.lt_iff_toInt_lt, e, hs]
  simp only [List.size_toArray]
  intro q
  rcases q with q | q
  · rw [hj] at q
    exact absurd q (Int.not_lt.mpr (Int.natCast_nonneg k))
  · omega
theorem W.iaload {a : Addr} {vs : List Value} {j : Int32} {v : Value} (i : Nat) (K : Ctx X l Z R y code maxL ret) (pc' : Nat) (hd : decode code pc = .ok (.iaload, 1)) (hm : (a, ARR Z .int vs) ∈ os) (hj : j.toInt = (i : Int)) (hv : vs[i]? = some v) (k : WP X Z rc rs Q pc' L (v :: S) os ce sl) (hp : pc + 1 = pc' := by rfl) : WP X Z rc rs Q pc L (.int j :: .ref a :: S) os ce sl := by
  obtain ⟨p, l', e, R', s, m, args, below, meth, c⟩ := X
  obtain ⟨h1, h2, hx, hZ, hby, hml, hown, hnm, hret, hlk⟩ := K
  have h2' : R' = R := h2
  subst h2'
  subst hp
  intro T locs hT0 hH hF
  have hT : Stand p l' e R' s m args below meth c T locs ce sl := hT0
  obtain ⟨s2, o, st, r⟩ := k T locs hT hH hF
  obtain ⟨-, cl, hcl, q1, q2, q3, q4, q5⟩ := hH.get hm
  obtain ⟨e1, e2, e3⟩ := idx_ok q3 hj hv
  exact ⟨s2, o, Stand.iaload hT hx hcl (State.isArrayOf_alike hZ.alike q1) q2 e1 e3 (g := mkF m pc L.toArray (.int j :: .ref a :: S)) rfl rfl (hb hby hd) _ st, r⟩
theorem W.laload {a : Addr} {vs : List Value} {j : Int32} {v : Value} (i : Nat) (K : Ctx X l Z R y code maxL ret) (pc' : Nat) (hd : decode code pc = .ok (.laload, 1)) (hm : (a, ARR Z .long vs) ∈ os) (hj : j.toInt = (i : Int)) (hv : vs[i]? = some v) (k : WP X Z rc rs Q pc' L (v :: S) os ce sl) (hp : pc + 1 = pc' := by rfl) : WP X Z rc rs Q pc L (.int j :: .ref a :: S) os ce sl := by
  obtain ⟨p, l', e, R', s, m, args, below, meth, c⟩ := X
  obtain ⟨h1, h2, hx, hZ, hby, hml, hown, hnm, hret, hlk⟩ := K
  have h2' : R' = R := h2
  subst h2'
  subst hp
  intro T locs hT0 hH hF
  have hT : Stand p l' e R' s m args below meth c T locs ce sl := hT0
  obtain ⟨s2, o, st, r⟩ := k T locs hT hH hF
  obtain ⟨-, cl, hcl, q1, q2, q3, q4, q5⟩ := hH.get hm
  obtain ⟨e1, e2, e3⟩ := idx_ok q3 hj hv
  exact ⟨s2, o, Stand.laload hT hx hcl (State.isArrayOf_alike hZ.alike q1) q2 e1 e3 (g := mkF m pc L.toArray (.int j :: .ref a :: S)) rfl rfl (hb hby hd) _ st, r⟩
theorem W.caload {a : Addr} {vs : List Value} {j : Int32} {v : Value} (i : Nat) (K : Ctx X l Z R y code maxL ret) (pc' : Nat) (hd : decode code pc = .ok (.caload, 1)) (hm : (a, ARR Z .char vs) ∈ os) (hj : j.toInt = (i : Int)) (hv : vs[i]? = some v) (k : WP X Z rc rs Q pc' L (v :: S) os ce sl) (hp : pc + 1 = pc' := by rfl) : WP X Z rc rs Q pc L (.int j :: .ref a :: S) os ce sl := by
  obtain ⟨p, l', e, R', s, m, args, below, meth, c⟩ := X
  obtain ⟨h1, h2, hx, hZ, hby, hml, hown, hnm, hret, hlk⟩ := K
  have h2' : R' = R := h2
  subst h2'
  subst hp
  intro T locs hT0 hH hF
  have hT : Stand p l' e R' s m args below meth c T locs ce sl := hT0
  obtain ⟨s2, o, st, r⟩ := k T locs hT hH hF
  obtain ⟨-, cl, hcl, q1, q2, q3, q4, q5⟩ := hH.get hm
  obtain ⟨e1, e2, e3⟩ := idx_ok q3 hj hv
  exact ⟨s2, o, Stand.caload hT hx hcl (State.isArrayOf_alike hZ.alike q1) q2 e1 e3 (g := mkF m pc L.toArray (.int j :: .ref a :: S)) rfl rfl (hb hby hd) _ st, r⟩
theorem W.baload {a : Addr} {vs : List Value} {j : Int32} {v : Value} (i : Nat) (K : Ctx X l Z R y code maxL ret) (pc' : Nat) (hd : decode code pc = .ok (.baload, 1)) (hm : (a, ARR Z .byte vs) ∈ os) (hj : j.toInt = (i : Int)) (hv : vs[i]? = some v) (k : WP X Z rc rs Q pc' L (v :: S) os ce sl) (hp : pc + 1 = pc' := by rfl) : WP X Z rc rs Q pc L (.int j :: .ref a :: S) os ce sl := by
  obtain ⟨p, l', e, R', s, m, args, below, meth, c⟩ := X
  obtain ⟨h1, h2, hx, hZ, hby, hml, hown, hnm, hret, hlk⟩ := K
  have h2' : R' = R := h2
  subst h2'
  subst hp
  intro T locs hT0 hH hF
  have hT : Stand p l' e R' s m args below meth c T locs ce sl := hT0
  obtain ⟨s2, o, st, r⟩ := k T locs hT hH hF
  obtain ⟨-, cl, hcl, q1, q2, q3, q4, q5⟩ := hH.get hm
  obtain ⟨e1, e2, e3⟩ := idx_ok q3 hj hv
  exact ⟨s2, o, Stand.baloadBytes hT hx hcl (State.isArrayOf_alike hZ.alike q1) q2 e1 e3 (g := mkF m pc L.toArray (.int j :: .ref a :: S)) rfl rfl (hb hby hd) _ st, r⟩
theorem W.aaload {a : Addr} {vs : List Value} {j : Int32} {v : Value} {ty : FieldType} (i : Nat) (K : Ctx X l Z R y code maxL ret) (pc' : Nat) (hd : decode code pc = .ok (.aaload, 1)) (hm : (a, ARR Z ty vs) ∈ os) (hj : j.toInt = (i : Int)) (hv : vs[i]? = some v) (hty : ty.isReference = true) (k : WP X Z rc rs Q pc' L (v :: S) os ce sl) (hp : pc + 1 = pc' := by rfl) : WP X Z rc rs Q pc L (.int j :: .ref a :: S) os ce sl := by
  obtain ⟨p, l', e, R', s, m, args, below, meth, c⟩ := X
  obtain ⟨h1, h2, hx, hZ, hby, hml, hown, hnm, hret, hlk⟩ := K
  have h2' : R' = R := h2
  subst h2'
  subst hp
  intro T locs hT0 hH hF
  have hT : Stand p l' e R' s m args below meth c T locs ce sl := hT0
  obtain ⟨s2, o, st, r⟩ := k T locs hT hH hF
  obtain ⟨-, cl, hcl, q1, q2, q3, q4, q5⟩ := hH.get hm
  obtain ⟨e1, e2, e3⟩ := idx_ok q3 hj hv
  exact ⟨s2, o, Stand.aaload hT hx hcl (State.isArrayOf_alike hZ.alike q1) hty q2 e1 e3 (g := mkF m pc L.toArray (.int j :: .ref a :: S)) rfl rfl (hb hby hd) _ st, r⟩
theorem W.arraylength {a : Addr} {vs : List Value} {ty : FieldType} (z : Int32) (K : Ctx X l Z R y code maxL ret) (pc' : Nat) (hd : decode code pc = .ok (.arraylength, 1)) (hm : (a, ARR Z ty vs) ∈ os) (hz : vs.length.toInt32 = z) (k : WP X Z rc rs Q pc' L (.int z :: S) os ce sl) (hp : pc + 1 = pc' := by rfl) : WP X Z rc rs Q pc L (.ref a :: S) os ce sl := by
  obtain ⟨p, l', e, R', s, m, args, below, meth, c⟩ := X
  obtain ⟨h1, h2, hx, hZ, hby, hml, hown, hnm, hret, hlk⟩ := K
  have h2' : R' = R := h2
  subst h2'
  subst hp
  intro T locs hT0 hH hF
  have hT : Stand p l' e R' s m args below meth c T locs ce sl := hT0
  obtain ⟨s2, o, st, r⟩ := k T locs hT hH hF
  obtain ⟨-, cl, hcl, q1, q2, q3, q4, q5⟩ := hH.get hm
  have e : cl.slots.size.toInt32 = z := by rw [q3]; simpa using hz
  rw [← e] at st
  exact ⟨s2, o, Stand.arraylength hT hx hcl (State.isArrayOf_alike hZ.alike q1) (g := mkF m pc L.toArray (.ref a :: S)) rfl rfl (hb hby hd) _ st, r⟩
theorem W.iastore {a : Addr} {vs : List Value} {j : Int32} {x : Int32} {w : Value} (i : Nat) (K : Ctx X l Z R y code maxL ret) (pc' : Nat) (hd : decode code pc = .ok (.iastore, 1)) (hm : Upd os a (ARR Z .int vs) (ARR Z .int (vs.set i (.int x))) os') (hj : j.toInt = (i : Int)) (hv : vs[i]? = some w) (k : WP X Z rc rs Q pc' L S os' ce sl) (hp : pc + 1 = pc' := by rfl) : WP X Z rc rs Q pc L (.int x :: .int j :: .ref a :: S) os ce sl := by
  obtain ⟨p, l', e, R', s, m, args, below, meth, c⟩ := X
  obtain ⟨h1, h2, hx, hZ, hby, hml, hown, hnm, hret, hlk⟩ := K
  have h2' : R' = R := h2
  subst h2'
  subst hp
  intro T locs hT0 hH hF
  have hT : Stand p l' e R' s m args below meth c T locs ce sl := hT0
  obtain ⟨ii, hm, rfl⟩ := hm
  obtain ⟨ha, cl, hcl, q1, q2, q3, q4, q5⟩ := hH.2.2 ii _ hm
  obtain ⟨e1, e2, e3⟩ := idx_ok q3 hj hv
  obtain ⟨T', h', X', e', W', st'⟩ := RoadKit.stI hT hx hZ rfl ⟨hcl, q1, q2⟩ (x := x) e1 (g := mkF m pc L.toArray (.int x :: .int j :: .ref a :: S)) rfl rfl (hb hby hd)
  rw [e2] at W'
  obtain ⟨s2, o, st, r⟩ := k T' _ X' (by rw [e']; exact hH.upd hm W' (fun c c' g1 g2 g3 g4 => by rw [g4]; exact ARR.put g2 (rfl))) (Fr.snoc X' hF ha)
  exact ⟨s2, o, st' _ st, r⟩
theorem W.lastore {a : Addr} {vs : List Value} {j : Int32} {x : Int64} {w : Value} (i : Nat) (K : Ctx X l Z R y code maxL ret) (pc' : Nat) (hd : decode code pc = .ok (.lastore, 1)) (hm : Upd os a (ARR Z .long vs) (ARR Z .long (vs.set i (.long x))) os') (hj : j.toInt = (i : Int)) (hv : vs[i]? = some w) (k : WP X Z rc rs Q pc' L S os' ce sl) (hp : pc + 1 = pc' := by rfl) : WP X Z rc rs Q pc L (.long x :: .int j :: .ref a :: S) os ce sl := by
  obtain ⟨p, l', e, R', s, m, args, below, meth, c⟩ := X
  obtain ⟨h1, h2, hx, hZ, hby, hml, hown, hnm, hret, hlk⟩ := K
  have h2' : R' = R := h2
  subst h2'
  subst hp
  intro T locs hT0 hH hF
  have hT : Stand p l' e R' s m args below meth c T locs ce sl := hT0
  obtain ⟨ii, hm, rfl⟩ := hm
  obtain ⟨ha, cl, hcl, q1, q2, q3, q4, q5⟩ := hH.2.2 ii _ hm
  obtain ⟨e1, e2, e3⟩ := idx_ok q3 hj hv
  obtain ⟨T', h', X', e', W', st'⟩ := RoadKit.stJ hT hx hZ rfl ⟨hcl, q1, q2⟩ (x := x) e1 (g := mkF m pc L.toArray (.long x :: .int j :: .ref a :: S)) rfl rfl (hb hby hd)
  rw [e2] at W'
  obtain ⟨s2, o, st, r⟩ := k T' _ X' (by rw [e']; exact hH.upd hm W' (fun c c' g1 g2 g3 g4 => by rw [g4]; exact ARR.put g2 (rfl))) (Fr.snoc X' hF ha)
  exact ⟨s2, o, st' _ st, r⟩
theorem W.bastore {a : Addr} {vs : List Value} {j : Int32} {x : Int32} {w : Value} (i : Nat) (K : Ctx X l Z R y code maxL ret) (pc' : Nat) (hd : decode code pc = .ok (.bastore, 1)) (hm : Upd os a (ARR Z .byte vs) (ARR Z .byte (vs.set i (.int x.toInt8.toInt32))) os') (hj : j.toInt = (i : Int)) (hv : vs[i]? = some w) (k : WP X Z rc rs Q pc' L S os' ce sl) (hp : pc + 1 = pc' := by rfl) : WP X Z rc rs Q pc L (.int x :: .int j :: .ref a :: S) os ce sl := by
  obtain ⟨p, l', e, R', s, m, args, below, meth, c⟩ := X
  obtain ⟨h1, h2, hx, hZ, hby, hml, hown, hnm, hret, hlk⟩ := K
  have h2' : R' = R := h2
  subst h2'
  subst hp
  intro T locs hT0 hH hF
  have hT : Stand p l' e R' s m args below meth c T locs ce sl := hT0
  obtain ⟨ii, hm, rfl⟩ := hm
  obtain ⟨ha, cl, hcl, q1, q2, q3, q4, q5⟩ := hH.2.2 ii _ hm
  obtain ⟨e1, e2, e3⟩ := idx_ok q3 hj hv
  obtain ⟨T', h', X', e', W', st'⟩ := RoadKit.stB hT hx hZ rfl ⟨hcl, q1, q2⟩ (x := x) e1 (g := mkF m pc L.toArray (.int x :: .int j :: .ref a :: S)) rfl rfl (hb hby hd)
  rw [e2] at W'
  obtain ⟨s2, o, st, r⟩ := k T' _ X' (by rw [e']; exact hH.upd hm W' (fun c c' g1 g2 g3 g4 => by rw [g4]; exact ARR.put g2 (fits_nar_byte x))) (Fr.snoc X' hF ha)
  exact ⟨s2, o, st' _ st, r⟩
theorem W.castore {a : Addr} {vs : List Value} {j : Int32} {x : Int32} {w : Value} (i : Nat) (K : Ctx X l Z R y code maxL ret) (pc' : Nat) (hd : decode code pc = .ok (.castore, 1)) (hm : Upd os a (ARR Z .char vs) (ARR Z .char (vs.set i (.int x.toUInt32.toUInt16.toUInt32.toInt32))) os') (hj : j.toInt = (i : Int)) (hv : vs[i]? = some w) (k : WP X Z rc rs Q pc' L S os' ce sl) (hp : pc + 1 = pc' := by rfl) : WP X Z rc rs Q pc L (.int x :: .int j :: .ref a :: S) os ce sl := by
  obtain ⟨p, l', e, R', s, m, args, below, meth, c⟩ := X
  obtain ⟨h1, h2, hx, hZ, hby, hml, hown, hnm, hret, hlk⟩ := K
  have h2' : R' = R := h2
  subst h2'
  subst hp
  intro T locs hT0 hH hF
  have hT : Stand p l' e R' s m args below meth c T locs ce sl := hT0
  obtain ⟨ii, hm, rfl⟩ := hm
  obtain ⟨ha, cl, hcl, q1, q2, q3, q4, q5⟩ := hH.2.2 ii _ hm
  obtain ⟨e1, e2, e3⟩ := idx_ok q3 hj hv
  obtain ⟨T', h', X', e', W', st'⟩ := RoadKit.stC hT hx hZ rfl ⟨hcl, q1, q2⟩ (x := x) e1 (g := mkF m pc L.toArray (.int x :: .int j :: .ref a :: S)) rfl rfl (hb hby hd)
  rw [e2] at W'
  obtain ⟨s2, o, st, r⟩ := k T' _ X' (by rw [e']; exact hH.upd hm W' (fun c c' g1 g2 g3 g4 => by rw [g4]; exact ARR.put g2 (fits_nar_char x))) (Fr.snoc X' hF ha)
  exact ⟨s2, o, st' _ st, r⟩
theorem W.getF {a : Addr} {O n d C : String} {v : Value} {fs : List FV} {idx : Nat} (K : Ctx X l Z R y code maxL ret) (pc' : Nat) (hd : decode code pc = .ok (.getfield idx, 3)) (w : (Jvm.Cond.fieldLink y.cls idx O n d).before a0 Z = true) (hm : (a, OBJ Z C fs) ∈ os) (hf : (O, n, d, v) ∈ fs) (k : WP X Z rc rs Q pc' L (v :: S) os ce sl) (hp : pc + 3 = pc' := by rfl) : WP X Z rc rs Q pc L (.ref a :: S) os ce sl := by
  obtain ⟨p, l', e, R', s, m, args, below, meth, c⟩ := X
  obtain ⟨h1, h2, hx, hZ, hby, hml, hown, hnm, hret, hlk⟩ := K
  have h2' : R' = R := h2
  subst h2'
  subst hp
  intro T locs hT0 hH hF
  have hT : Stand p l' e R' s m args below meth c T locs ce sl := hT0
  obtain ⟨-, cl, hcl, hO⟩ := hH.get hm
  obtain ⟨T', X', e', st'⟩ := RoadKit.getF hT hx hZ hown (host := "") (Or.inl w) Via.refl rfl (hO.fld hcl hf) (g := mkF m pc L.toArray (.ref a :: S)) rfl rfl (hb hby hd)
  obtain ⟨s2, o, st, r⟩ := k T' locs X' (by rw [e']; exact hH) hF
  exact ⟨s2, o, st' _ st, r⟩
theorem W.getFN {a : Addr} {O n d C host : String} {v : Value} {fs : List FV} {idx : Nat} (K : Ctx X l Z R y code maxL ret) (pc' : Nat) (hd : decode code pc = .ok (.getfield idx, 3)) (w : (Jvm.Cond.fieldLinkNest y.cls idx O n d host).before a0 Z = true) (hm : (a, OBJ Z C fs) ∈ os) (hf : (O, n, d, v) ∈ fs) (k : WP X Z rc rs Q pc' L (v :: S) os ce sl) (hp : pc + 3 = pc' := by rfl) : WP X Z rc rs Q pc L (.ref a :: S) os ce sl := by
  obtain ⟨p, l', e, R', s, m, args, below, meth, c⟩ := X
  obtain ⟨h1, h2, hx, hZ, hby, hml, hown, hnm, hret, hlk⟩ := K
  have h2' : R' = R := h2
  subst h2'
  subst hp
  intro T locs hT0 hH hF
  have hT : Stand p l' e R' s m args below meth c T locs ce sl := hT0
  obtain ⟨-, cl, hcl, hO⟩ := hH.get hm
  obtain ⟨T', X', e', st'⟩ := RoadKit.getF hT hx hZ hown (host := host) (Or.inr w) Via.refl rfl (hO.fld hcl hf) (g := mkF m pc L.toArray (.ref a :: S)) rfl rfl (hb hby hd)
  obtain ⟨s2, o, st, r⟩ := k T' locs X' (by rw [e']; exact hH) hF
  exact ⟨s2, o, st' _ st, r⟩
theorem W.getFo {a : Addr} {O n d : String} {v : Value} {idx : Nat} (K : Ctx X l Z R y code maxL ret) (pc' : Nat) (hd : decode code pc = .ok (.getfield idx, 3)) (w : (Jvm.Cond.fieldLink y.cls idx O n d).before a0 Z = true) (F : Fld Z Z.heap a O n d v) (k : WP X Z rc rs Q pc' L (v :: S) os ce sl) (hp : pc + 3 = pc' := by rfl) : WP X Z rc rs Q pc L (.ref a :: S) os ce sl := by
  obtain ⟨p, l', e, R', s, m, args, below, meth, c⟩ := X
  obtain ⟨h1, h2, hx, hZ, hby, hml, hown, hnm, hret, hlk⟩ := K
  have h2' : R' = R := h2
  subst h2'
  subst hp
  intro T locs hT0 hH hF
  have hT : Stand p l' e R' s m args below meth c T locs ce sl := hT0
  obtain ⟨T', X', e', st'⟩ := RoadKit.getF hT hx hZ hown (host := "") (Or.inl w) Via.refl rfl (F.ext hH.1) (g := mkF m pc L.toArray (.ref a :: S)) rfl rfl (hb hby hd)
  obtain ⟨s2, o, st, r⟩ := k T' locs X' (by rw [e']; exact hH) hF
  exact ⟨s2, o, st' _ st, r⟩
theorem W.getFR {a : Addr} {O n d C : String} {v : Value} {fs : List FV} {idx : Nat} (K : Ctx X l Z R y code maxL ret) (pc' : Nat) (hd : decode code pc = .ok (.getfield idx, 3)) (w : (Jvm.Cond.fieldRef y.cls idx O n d).before a0 Z = true) (hm : (a, OBJ Z C fs) ∈ os) (hf : (O, n, d, v) ∈ fs) (k : WP X Z rc rs Q pc' L (v :: S) os ce sl) (hp : pc + 3 = pc' := by rfl) : WP X Z rc rs Q pc L (.ref a :: S) os ce sl := by
  obtain ⟨p, l', e, R', s, m, args, below, meth, c⟩ := X
  obtain ⟨h1, h2, hx, hZ, hby, hml, hown, hnm, hret, hlk⟩ := K
  have h2' : R' = R := h2
  subst h2'
  subst hp
  intro T locs hT0 hH hF
  have hT : Stand p l' e R' s m args below meth c T locs ce sl := hT0
  obtain ⟨-, cl, hcl, hO⟩ := hH.get hm
  obtain ⟨s2, o, st, r⟩ := k T locs hT hH hF
  obtain ⟨cell, cf, kf, i, f, f1, f2, f3, f4, f5, f6, f7⟩ := hO.fld hcl hf
  cases hcl.symm.trans f1
  have hZT : Z.Warmed39 T.vm := wtrans hZ (Stand.warmed hT)
  have w1 := Cond.fieldRef_warmed39 hZT w
  have hcur : (Z.setVm T.vm).vm.findClass y.cls = some m.cls := by
    have q := (Stand.warmed hT).alike.findClass y.cls
    show T.vm.findClass y.cls = some m.cls
    rw [q]; exact hown
  obtain ⟨c1, k1, i1, fd1, g1, g2⟩ := Cond.fieldRef_spec hcur w1
  obtain ⟨k2, g3, -⟩ := State.fieldFound?_setVm (s := Z) hZT.alike f2
  cases g1.symm.trans g3
  refine ⟨s2, o, ?_, r⟩
  have hX := Stand.here hT
  have hdg := hb hby hd
  jvm_step hX [hX.top, hx, hdg, getfield.wp_ready (e := e) (s := T) (f := mkF m pc L.toArray (.ref a :: S)) hX.top g2 f3 rfl f1 f4 f7]
  exact st
theorem W.putFg {a : Addr} {O n d C host : String} {v old : Value} {fs fs' : List FV} {idx kk : Nat} {ty : FieldType} (K : Ctx X l Z R y code maxL ret) (pc' : Nat) (hd : decode code pc = .ok (.putfield idx, 3)) (w : (Jvm.Cond.fieldLink y.cls idx O n d).before a0 Z = true ∨ (Jvm.Cond.fieldLinkNest y.cls idx O n d host).before a0 Z = true)
    (hL : (Jvm.Cond.lays C O n d).before a0 Z = true ∨ ((Jvm.Cond.laysFinal C O n d).before a0 Z = true ∧ y.cls = O ∧ y.name = "<init>")) (wi : (Jvm.Cond.instantiable C kk).before a0 Z = true) (hty : parseFieldDescriptor d = some ty) (hn : narrow ty v = v) (hfit : fits ty v = true)
    (hm : Upd os a (OBJ Z C fs) (OBJ Z C fs') os') (hf : UpdF fs O n d old v fs') (k : WP X Z rc rs Q pc' L S os' ce sl) (hp : pc + 3 = pc' := by rfl) : WP X Z rc rs Q pc L (v :: .ref a :: S) os ce sl := by
  obtain ⟨p, l', e, R', s, m, args, below, meth, c⟩ := X
  obtain ⟨h1, h2, hx, hZ, hby, hml, hown, hnm, hret, hlk⟩ := K
  have h2' : R' = R := h2
  subst h2'
  subst hp
  intro T locs hT0 hH hF
  have hT : Stand p l' e R' s m args below meth c T locs ce sl := hT0
  obtain ⟨ii, hm, rfl⟩ := hm
  obtain ⟨ha, cl, hcl, hO⟩ := hH.2.2 ii _ hm
  have hmem : (O, n, d, old) ∈ fs := by obtain ⟨jj, hj, -⟩ := hf; exact List.mem_of_getElem? hj
  obtain ⟨T', h', X', e', W', st'⟩ := RoadKit.putF hT hx hZ hown w Via.refl rfl (hO.fld hcl hmem) (hO.exa hcl) (hL.imp id (fun q => ⟨q.1, q.2.1, by rw [hnm]; exact q.2.2⟩)) wi hty hn hfit (g := mkF m pc L.toArray (v :: .ref a :: S)) rfl rfl (hb hby hd)
  obtain ⟨s2, o, st, r⟩ := k T' _ X' (by rw [e']; exact hH.upd hm W' (fun c c' g1 g2 g3 g4 => by rw [g4]; exact OBJ.put g2 hf)) (Fr.snoc X' hF ha)
  exact ⟨s2, o, st' _ st, r⟩
theorem W.putF {a : Addr} {O n d C : String} {v old : Value} {fs fs' : List FV} {idx kk : Nat} {ty : FieldType} (K : Ctx X l Z R y code maxL ret) (pc' : Nat) (hd : decode code pc = .ok (.putfield idx, 3)) (w : (Jvm.Cond.fieldLink y.cls idx O n d).before a0 Z = true)
    (hL : (Jvm.Cond.lays C O n d).before a0 Z = true) (wi : (Jvm.Cond.instantiable C kk).before a0 Z = true) (hty : parseFieldDescriptor d = some ty) (hm : Upd os a (OBJ Z C fs) (OBJ Z C fs') os') (hf : UpdF fs O n d old v fs') (k : WP X Z rc rs Q pc' L S os' ce sl) (hn : narrow ty v = v := by rfl) (hfit : fits ty v = true := by rfl)
    (hp : pc + 3 = pc' := by rfl) : WP X Z rc rs Q pc L (v :: .ref a :: S) os ce sl := W.putFg (host := "") K pc' hd (Or.inl w) (Or.inl hL) wi hty hn hfit hm hf k hp
theorem W.putFf {a : Addr} {O n d C : String} {v old : Value} {fs fs' : List FV} {idx kk : Nat} {ty : FieldType} (K : Ctx X l Z R y code maxL ret) (pc' : Nat) (hd : decode code pc = .ok (.putfield idx, 3)) (w : (Jvm.Cond.fieldLink y.cls idx O n d).before a0 Z = true)
    (hL : (Jvm.Cond.laysFinal C O n d).before a0 Z = true) (wi : (Jvm.Cond.instantiable C kk).before a0 Z = true) (hty : parseFieldDescriptor d = some ty) (hm : Upd os a (OBJ Z C fs) (OBJ Z C fs') os') (hf : UpdF fs O n d old v fs') (k : WP X Z rc rs Q pc' L S os' ce sl) (hn : narrow ty v = v := by rfl) (hfit : fits ty v = true := by rfl)
    (hy1 : y.cls = O := by rfl) (hy2 : y.name = "<init>" := by rfl) (hp : pc + 3 = pc' := by rfl) : WP X Z rc rs Q pc L (v :: .ref a :: S) os ce sl := W.putFg (host := "") K pc' hd (Or.inl w) (Or.inr ⟨hL, hy1, hy2⟩) wi hty hn hfit hm hf k hp
theorem W.getS {O n d : String} {v : Value} {idx : Nat} (K : Ctx X l Z R y code maxL ret) (pc' : Nat) (hd : decode code pc = .ok (.getstatic idx, 3)) (w : (Jvm.Cond.fieldLink y.cls idx O n d).before a0 Z = true) (F : Sta Z Z.heap O n d v) (k : WP X Z rc rs Q pc' L (v :: S) os ce sl) (hp : pc + 3 = pc' := by rfl) : WP X Z rc rs Q pc L S os ce sl := by
  obtain ⟨p, l', e, R', s, m, args, below, meth, c⟩ := X
  obtain ⟨h1, h2, hx, hZ, hby, hml, hown, hnm, hret, hlk⟩ := K
  have h2' : R' = R := h2
  subst h2'
  subst hp
  intro T locs hT0 hH hF
  have hT : Stand p l' e R' s m args below meth c T locs ce sl := hT0
  obtain ⟨T', X', e', st'⟩ := RoadKit.getS hT hx hZ (host := "") hown w Via.refl rfl (F.ext hH.1) (g := mkF m pc L.toArray S) rfl (hb hby hd)
  obtain ⟨s2, o, st, r⟩ := k T' locs X' (by rw [e']; exact hH) hF
  exact ⟨s2, o, st' _ st, r⟩
theorem W.new {C : String} {idx n : Nat} (fs : List FV) (K : Ctx X l Z R y code maxL ret) (pc' : Nat) (hd : decode code pc = .ok (.new idx, 3)) (w : (Jvm.Cond.classLink y.cls idx C).before a0 Z = true) (wi : (Jvm.Cond.instantiable C n).before a0 Z = true) (wz : (Jvm.Cond.initialized C).before a0 Z = true)
    (q : Laids Z a0 C fs) (k : ∀ a, WP X Z rc rs Q pc' L (.ref a :: S) ((a, OBJ Z C fs) :: os) (ce + 1) (sl + n)) (hc : ce + 1 ≤ R.cells := by decide) (hl : sl + n ≤ R.slots := by decide) (nd : (fs.map (fun f => f.2.1)).Nodup := by decide) (hp : pc + 3 = pc' := by rfl) : WP X Z rc rs Q pc L S os ce sl := by
  obtain ⟨p, l', e, R', s, m, args, below, meth, c⟩ := X
  obtain ⟨h1, h2, hx, hZ, hby, hml, hown, hnm, hret, hlk⟩ := K
  have h2' : R' = R := h2
  subst h2'
  subst hp
  intro T locs hT0 hH hF
  have hT : Stand p l' e R' s m args below meth c T locs ce sl := hT0
  obtain ⟨T', h', X', e', E', A', D', -, st'⟩ := RoadKit.newO hT hx hZ hown w wi wz rfl (g := mkF m pc L.toArray S) rfl (hb hby hd) (hc) (hl)
  obtain ⟨c0, hc0, hO⟩ := OBJ.new A' D' q nd
  obtain ⟨s2, o, st, r⟩ := k T.heap.size T' locs X' (by rw [e']; exact hH.new E' hc0 hO) hF
  exact ⟨s2, o, st' _ st, r⟩
theorem fits_dflt {ty : FieldType} (h : ty = .int ∨ ty = .long ∨ ty = .byte ∨ ty = .char ∨ ty = .boolean ∨ ty = .short) : fits ty (defaultValue ty) = true := by
  rcases h with rfl | rfl | rfl | rfl | rfl | rfl <;> rfl
theorem W.newarray {aty : ArrayType} {ty : FieldType} {z : Int32} (i cap : Nat) (K : Ctx X l Z R y code maxL ret) (pc' : Nat) (hd : decode code pc = .ok (.newarray aty, 2)) (w : (Jvm.Cond.arrayClass ty).before a0 Z = true) (hz : z.toInt = (i : Int)) (hi : i ≤ cap)
    (k : ∀ a, WP X Z rc rs Q pc' L (.ref a :: S) ((a, ARR Z ty (List.replicate i (defaultValue ty))) :: os) (ce + 1) (sl + cap)) (ht : newarray.typeOf aty = ty := by rfl) (htt : ty = .int ∨ ty = .long ∨ ty = .byte ∨ ty = .char ∨ ty = .boolean ∨ ty = .short := by simp) (hb8 : cap * 8 ≤ 536870912 := by decide) (hc : ce + 1 ≤ R.cells := by decide) (hl : sl + cap ≤ R.slots := by decide) (hp : pc + 2 = pc' := by rfl) :
    WP X Z rc rs Q pc L (.int z :: S) os ce sl := by
  obtain ⟨p, l', e, R', s, m, args, below, meth, c⟩ := X
  obtain ⟨h1, h2, hx, hZ, hby, hml, hown, hnm, hret, hlk⟩ := K
  have h2' : R' = R := h2
  subst h2'
  subst hp
  intro T locs hT0 hH hF
  have hT : Stand p l' e R' s m args below meth c T locs ce sl := hT0
  subst ht
  have ez : z.toNatClampNeg = i := by show z.toInt.toNat = i; rw [hz]; rfl
  obtain ⟨T', h', cA, X', e', E', A', st'⟩ := RoadKit.newP hT hx hZ w rfl (g := mkF m pc L.toArray (.int z :: S)) rfl (hb hby hd) rfl (by rw [Int32.lt_iff_toInt_lt, hz]; exact Int.not_lt.mpr (Int.natCast_nonneg i)) (cap := cap) (by rw [ez]; exact hi) hb8 (hc) (hl)
  have hA : ARR Z (newarray.typeOf aty) (List.replicate i (defaultValue (newarray.typeOf aty))) (newA cA (newarray.typeOf aty) z) := by
    refine ⟨A'.2.1, A'.2.2, by simp [newA, ez], fun v hv => ?_, by simp; omega⟩
    rw [(List.mem_replicate.mp hv).2]; exact fits_dflt htt
  obtain ⟨s2, o, st, r⟩ := k T.heap.size T' locs X' (by rw [e']; exact hH.new E' A'.1 hA) hF
  exact ⟨s2, o, st' _ st, r⟩
theorem W.initO {a : Addr} {idx : Nat} (K : Ctx X l Z R y code maxL ret) (pc' : Nat) (hd : decode code pc = .ok (.invokespecial idx, 3)) (w1 : (Jvm.Cond.methodLink y.cls idx Lib.objectInit).before a0 Z = true) (w2 : (Jvm.Cond.instanceMethod Lib.objectInit).before a0 Z = true) (w3 : (Jvm.Cond.code Lib.objectInit ⟨#[0xb1]⟩ 1 none).before a0 Z = true)
    (k : WP X Z rc rs Q pc' L S os ce sl) (hsz : L.length = maxL := by rfl) (hf : 1 ≤ R.frames := by decide) (hl : (S.map fun v => v.category).sum + 12 ≤ R.locals := by exact Nat.le_of_ble_eq_true rfl) (hp : pc + 3 = pc' := by rfl) : WP X Z rc rs Q pc L (.ref a :: S) os ce sl := by
  obtain ⟨p, l', e, R', s, m, args, below, meth, c⟩ := X
  obtain ⟨h1, h2, hx, hZ, hby, hml, hown, hnm, hret, hlk⟩ := K
  have h2' : R' = R := h2
  subst h2'
  subst hp
  intro T locs hT0 hH hF
  have hT : Stand p l' e R' s m args below meth c T locs ce sl := hT0
  obtain ⟨T', X', e', st'⟩ := RoadKit.initO hT hx hZ hown w1 w2 w3 rfl (g := mkF m pc L.toArray (.ref a :: S)) rfl (by rw [hml]; simpa using hsz) rfl (hb hby hd) (hf) (W := (S.map fun v => v.category).sum) (by show 2 * 0 + _ ≤ _; omega) (hl)
  obtain ⟨s2, o, st, r⟩ := k T' locs X' (by rw [e']; exact hH) hF
  exact ⟨s2, o, st' _ st, r⟩

theorem W.retG {w : Value} {t : FieldType} {i : Instr} (K : Ctx X l Z R y code maxL (some t)) (hn : narrow t w = w)
    (hi : (i = .ireturn ∧ (t = .int ∨ t = .boolean ∨ t = .byte ∨ t = .char ∨ t = .short) ∧ ∃ z, w = .int z) ∨ (i = .lreturn ∧ t = .long ∧ ∃ z, w = .long z) ∨ (i = .dreturn ∧ t = .double ∧ ∃ z, w = .double z) ∨ (i = .freturn ∧ t = .float ∧ ∃ z, w = .float z) ∨ (i = .areturn ∧ t.isReference = true ∧ w.isRef = true))
    (hd : decode code pc = .ok (i, 1)) (q : Q (some w) os) (hc : ce ≤ rc) (hs : sl ≤ rs) : WP X Z rc rs Q pc L (w :: S) os ce sl := by
  obtain ⟨p, l', e, R', s, m, args, below, meth, c⟩ := X
  obtain ⟨h1, h2, hx, hZ, hby, hml, hown, hnm, hret, hlk⟩ := K
  have h2' : R' = R := h2
  subst h2'
  intro T locs hT0 hH hF
  have hT : Stand p l' e R' s m args below meth c T locs ce sl := hT0
  have hret' : meth.sig.returnType = some t := hret
  obtain ⟨fs, hr, hrun, hended, hW, hsame⟩ := Stand.leave hT (v := some w) (fun h => by rw [hret'] at h; cases h) hlk
  exact ⟨_, _, retOut hT hx hret hn hi (hb hby hd) hr, hrun, hended, _, _, rfl, ⟨os, q, hH, hF⟩, ⟨_, rfl⟩, hW, hsame.mono hc hs⟩
theorem W.ireturn {z : Int32} (K : Ctx X l Z R y code maxL (some .int)) (hd : decode code pc = .ok (.ireturn, 1)) (q : Q (some (.int z)) os) (hc : ce ≤ rc := by decide) (hs : sl ≤ rs := by decide) : WP X Z rc rs Q pc L (.int z :: S) os ce sl := W.retG K rfl (Or.inl ⟨rfl, Or.inl rfl, z, rfl⟩) hd q hc hs
theorem W.lreturn {z : Int64} (K : Ctx X l Z R y code maxL (some .long)) (hd : decode code pc = .ok (.lreturn, 1)) (q : Q (some (.long z)) os) (hc : ce ≤ rc := by decide) (hs : sl ≤ rs := by decide) : WP X Z rc rs Q pc L (.long z :: S) os ce sl := W.retG K rfl (Or.inr (Or.inl ⟨rfl, rfl, z, rfl⟩)) hd q hc hs
theorem W.areturn {w : Value} {t : FieldType} (K : Ctx X l Z R y code maxL (some t)) (hd : decode code pc = .ok (.areturn, 1)) (q : Q (some w) os) (hw : w.isRef = true := by rfl) (ht : t.isReference = true := by rfl) (hc : ce ≤ rc := by decide) (hs : sl ≤ rs := by decide) : WP X Z rc rs Q pc L (w :: S) os ce sl :=
  W.retG K (by cases t <;> first | rfl | (cases w <;> first | rfl | cases ht | cases hw)) (Or.inr (Or.inr (Or.inr (Or.inr ⟨rfl, ht, hw⟩)))) hd q hc hs
theorem W.zreturn {z : Int32} (K : Ctx X l Z R y code maxL (some .boolean)) (hd : decode code pc = .ok (.ireturn, 1)) (hz : z = 0 ∨ z = 1) (q : Q (some (.int z)) os) (hc : ce ≤ rc := by decide) (hs : sl ≤ rs := by decide) : WP X Z rc rs Q pc L (.int z :: S) os ce sl :=
  W.retG K (by rcases hz with rfl | rfl <;> rfl) (Or.inl ⟨rfl, Or.inr (Or.inl rfl), z, rfl⟩) hd q hc hs
theorem W.creturn {z : Int32} (K : Ctx X l Z R y code maxL (some .char)) (hd : decode code pc = .ok (.ireturn, 1)) (hz : narrow .char (.int z) = .int z) (q : Q (some (.int z)) os) (hc : ce ≤ rc := by decide) (hs : sl ≤ rs := by decide) : WP X Z rc rs Q pc L (.int z :: S) os ce sl :=
  W.retG K hz (Or.inl ⟨rfl, Or.inr (Or.inr (Or.inr (Or.inl rfl))), z, rfl⟩) hd q hc hs
theorem W.breturn {z : Int32} (K : Ctx X l Z R y code maxL (some .byte)) (hd : decode code pc = .ok (.ireturn, 1)) (hz : narrow .byte (.int z) = .int z) (q : Q (some (.int z)) os) (hc : ce ≤ rc := by decide) (hs : sl ≤ rs := by decide) : WP X Z rc rs Q pc L (.int z :: S) os ce sl :=
  W.retG K hz (Or.inl ⟨rfl, Or.inr (Or.inr (Or.inl rfl)), z, rfl⟩) hd q hc hs
theorem W.return (K : Ctx X l Z R y code maxL none) (hd : decode code pc = .ok (.return_, 1)) (q : Q none os) (hc : ce ≤ rc := by decide) (hs : sl ≤ rs := by decide) : WP X Z rc rs Q pc L [] os ce sl := by
  obtain ⟨p, l', e, R', s, m, args, below, meth, c⟩ := X
  obtain ⟨h1, h2, hx, hZ, hby, hml, hown, hnm, hret, hlk⟩ := K
  have h2' : R' = R := h2
  subst h2'
  intro T locs hT0 hH hF
  have hT : Stand p l' e R' s m args below meth c T locs ce sl := hT0
  obtain ⟨fs, hr, hrun, hended, hW, hsame⟩ := Stand.leave hT (v := none) (fun _ => rfl) hlk
  exact ⟨_, _, Stand.returnOut hT hx hret (hb hby hd) hr, hrun, hended, _, _, rfl, ⟨os, q, hH, hF⟩, ⟨_, rfl⟩, hW, hsame.mono hc hs⟩

theorem W.callS {idx mx : Nat} {z : MethodName} {bytes : ByteArray} {rt : Option FieldType} {rm : Room} {argsL : List Value} {S0 : List Value} {ps : List FieldType} {rr : Option FieldType} {Q' : Option Value → OS → Prop} (K : Ctx X l Z R y code maxL ret) (pc' : Nat) (hd : decode code pc = .ok (.invokestatic idx, 3)) (w1 : (Jvm.Cond.methodLink y.cls idx z).before a0 Z = true) (w2 : (Jvm.Cond.static z).before a0 Z = true) (w3 : (Jvm.Cond.initialized z.cls).before a0 Z = true) (w4 : (Jvm.Cond.code z bytes mx rt).before a0 Z = true)
    (hsig : parseMethodDescriptor z.desc = some ⟨ps, rr⟩) (hM : OMeets l Z z bytes mx rt rm argsL os Q') (k : ∀ v os', Q' v os' → WP X Z rc rs Q pc' L (v.toList ++ S) os' (ce + rm.cells) (sl + rm.slots)) (hst : S0 = argsL.reverse ++ S := by rfl) (hlen : argsL.length = ps.length := by rfl) (hsz : L.length = maxL := by rfl) (hf : rm.frames + 1 ≤ R.frames := by decide) (hl : (S.map fun v => v.category).sum + (mx + 11) + rm.locals ≤ R.locals := by exact Nat.le_of_ble_eq_true rfl)
    (hc : ce + rm.cells ≤ R.cells := by decide) (hs : sl + rm.slots ≤ R.slots := by decide) (hy : z.cls ≠ "java/lang/invoke/MethodHandle" ∧ z.cls ≠ "java/lang/invoke/VarHandle" := by decide) (hp : pc + 3 = pc' := by rfl) : WP X Z rc rs Q pc L S0 os ce sl := by
  obtain ⟨p, l', e, R', s, m, args, below, meth, c⟩ := X
  obtain ⟨rfl, h2, hx, hZ, hby, hml, hown, hnm, hret, hlk⟩ := K
  have h2' : R' = R := h2
  subst h2'
  subst hp
  intro T locs hT0 hH hF
  have hT : Stand p l' e R' s m args below meth c T locs ce sl := hT0
  obtain ⟨v, vm1, ⟨T', L', k', n'⟩, -, X', ⟨Lc, ⟨os1, hQ1, hH1, hF1⟩, e1, e2, e3⟩, st'⟩ := Jvm.LawKit.callS hT hx (y := z) hown (mvT hZ w1) (mvT hZ w2) (mvT hZ w3) (mvT hZ w4) hy (backOf (W := (S.map fun v => v.category).sum) (Q := fun v h L => ∃ os', Q' v os' ∧ Hp Z h os' ∧ Fr Z.heap.size L) (hM _ hH []) hZ w4 w3 (hf) (hl)) (g := mkF m pc L.toArray S0) rfl (by rw [hml]; simpa using hsz) (argsL := argsL) (rest := S) (lenOf hsig hlen) hst (by show 2 * 0 + _ ≤ _; omega) (hb hby hd) (fun _ _ => ⟨rfl, rfl, hc, hs⟩)
  dsimp only [Pt.U, Pt.locs, Pt.cells, Pt.slots] at X' e1 e2 e3 st' hH1
  subst e1 e2 e3
  obtain ⟨s2, o, st, r⟩ := k v os1 hQ1 T' _ X' hH1 (Fr.app hF hF1)
  exact ⟨s2, o, st' _ st, r⟩
theorem W.callSv {idx mx : Nat} {z : MethodName} {bytes : ByteArray} {rt : Option FieldType} {rm : Room} {argsL : List Value} {S0 : List Value} {ps : List FieldType} {rr : Option FieldType} {q : Value → OS → Prop} (K : Ctx X l Z R y code maxL ret) (pc' : Nat) (hd : decode code pc = .ok (.invokestatic idx, 3)) (w1 : (Jvm.Cond.methodLink y.cls idx z).before a0 Z = true) (w2 : (Jvm.Cond.static z).before a0 Z = true) (w3 : (Jvm.Cond.initialized z.cls).before a0 Z = true) (w4 : (Jvm.Cond.code z bytes mx rt).before a0 Z = true)
    (hsig : parseMethodDescriptor z.desc = some ⟨ps, rr⟩) (hM : OMeets l Z z bytes mx rt rm argsL os (RetV q)) (k : ∀ v os', q v os' → WP X Z rc rs Q pc' L (v :: S) os' (ce + rm.cells) (sl + rm.slots)) (hst : S0 = argsL.reverse ++ S := by rfl) (hlen : argsL.length = ps.length := by rfl) (hsz : L.length = maxL := by rfl) (hf : rm.frames + 1 ≤ R.frames := by decide) (hl : (S.map fun v => v.category).sum + (mx + 11) + rm.locals ≤ R.locals := by exact Nat.le_of_ble_eq_true rfl)
    (hc : ce + rm.cells ≤ R.cells := by decide) (hs : sl + rm.slots ≤ R.slots := by decide) (hy : z.cls ≠ "java/lang/invoke/MethodHandle" ∧ z.cls ≠ "java/lang/invoke/VarHandle" := by decide) (hp : pc + 3 = pc' := by rfl) : WP X Z rc rs Q pc L S0 os ce sl :=
  W.callS K pc' hd w1 w2 w3 w4 hsig hM (fun v os' hq => by obtain ⟨x, rfl, hq⟩ := hq; exact k x os' hq) hst hlen hsz hf hl hc hs hy hp
theorem W.callSn {idx mx : Nat} {z : MethodName} {bytes : ByteArray} {rt : Option FieldType} {rm : Room} {argsL : List Value} {S0 : List Value} {ps : List FieldType} {rr : Option FieldType} {q : OS → Prop} (K : Ctx X l Z R y code maxL ret) (pc' : Nat) (hd : decode code pc = .ok (.invokestatic idx, 3)) (w1 : (Jvm.Cond.methodLink y.cls idx z).before a0 Z = true) (w2 : (Jvm.Cond.static z).before a0 Z = true) (w3 : (Jvm.Cond.initialized z.cls).before a0 Z = true) (w4 : (Jvm.Cond.code z bytes mx rt).before a0 Z = true)
    (hsig : parseMethodDescriptor z.desc = some ⟨ps, rr⟩) (hM : OMeets l Z z bytes mx rt rm argsL os (RetN q)) (k : ∀ os', q os' → WP X Z rc rs Q pc' L S os' (ce + rm.cells) (sl + rm.slots)) (hst : S0 = argsL.reverse ++ S := by rfl) (hlen : argsL.length = ps.length := by rfl) (hsz : L.length = maxL := by rfl) (hf : rm.frames + 1 ≤ R.frames := by decide) (hl : (S.map fun v => v.category).sum + (mx + 11) + rm.locals ≤ R.locals := by exact Nat.le_of_ble_eq_true rfl)
    (hc : ce + rm.cells ≤ R.cells := by decide) (hs : sl + rm.slots ≤ R.slots := by decide) (hy : z.cls ≠ "java/lang/invoke/MethodHandle" ∧ z.cls ≠ "java/lang/invoke/VarHandle" := by decide) (hp : pc + 3 = pc' := by rfl) : WP X Z rc rs Q pc L S0 os ce sl :=
  W.callS K pc' hd w1 w2 w3 w4 hsig hM (fun v os' hq => by obtain ⟨rfl, hq⟩ := hq; exact k os' hq) hst hlen hsz hf hl hc hs hy hp
theorem W.callI {idx mx : Nat} {z : MethodName} {bytes : ByteArray}  {rm : Room} {argsL : List Value} {S0 : List Value} {ps : List FieldType} {rr : Option FieldType} {b : Addr} {Q' : Option Value → OS → Prop} (K : Ctx X l Z R y code maxL ret) (pc' : Nat) (hd : decode code pc = .ok (.invokespecial idx, 3)) (w1 : (Jvm.Cond.methodLink y.cls idx z).before a0 Z = true) (w2 : (Jvm.Cond.instanceMethod z).before a0 Z = true) (w3 : (Jvm.Cond.initialized z.cls).before a0 Z = true) (w4 : (Jvm.Cond.code z bytes mx none).before a0 Z = true)
    (hsig : parseMethodDescriptor z.desc = some ⟨ps, rr⟩) (hM : OMeets l Z z bytes mx none rm (.ref b :: argsL) os Q') (k : ∀ v os', Q' v os' → WP X Z rc rs Q pc' L (v.toList ++ S) os' (ce + rm.cells) (sl + rm.slots)) (hz1 : z.name = "<init>" := by rfl) (hst : S0 = argsL.reverse ++ .ref b :: S := by rfl) (hlen : argsL.length = ps.length := by rfl) (hsz : L.length = maxL := by rfl) (hf : rm.frames + 1 ≤ R.frames := by decide) (hl : (S.map fun v => v.category).sum + (mx + 11) + rm.locals ≤ R.locals := by exact Nat.le_of_ble_eq_true rfl)
    (hc : ce + rm.cells ≤ R.cells := by decide) (hs : sl + rm.slots ≤ R.slots := by decide) (hy : z.cls ≠ "java/lang/invoke/MethodHandle" ∧ z.cls ≠ "java/lang/invoke/VarHandle" := by decide) (hp : pc + 3 = pc' := by rfl) : WP X Z rc rs Q pc L S0 os ce sl := by
  obtain ⟨p, l', e, R', s, m, args, below, meth, c⟩ := X
  obtain ⟨rfl, h2, hx, hZ, hby, hml, hown, hnm, hret, hlk⟩ := K
  have h2' : R' = R := h2
  subst h2'
  subst hp
  intro T locs hT0 hH hF
  have hT : Stand p l' e R' s m args below meth c T locs ce sl := hT0
  obtain ⟨v, vm1, ⟨T', L', k', n'⟩, -, X', ⟨Lc, ⟨os1, hQ1, hH1, hF1⟩, e1, e2, e3⟩, st'⟩ := Stand.specialBack hT hx (y := z) hz1 hown (mvT hZ w1) (mvT hZ w2) (mvT hZ w4) hy (backOf (W := (S.map fun v => v.category).sum) (Q := fun v h L => ∃ os', Q' v os' ∧ Hp Z h os' ∧ Fr Z.heap.size L) (hM _ hH []) hZ w4 w3 (hf) (hl)) (g := mkF m pc L.toArray S0) rfl (by rw [hml]; simpa using hsz) (Steps.refl _) (a := b) (argsL := argsL) (rest := S) (lenOf hsig hlen) hst (by show 2 * 0 + _ ≤ _; omega) (hb hby hd) (fun _ _ => ⟨rfl, rfl, hc, hs⟩)
  dsimp only [Pt.U, Pt.locs, Pt.cells, Pt.slots] at X' e1 e2 e3 st' hH1
  subst e1 e2 e3
  obtain ⟨s2, o, st, r⟩ := k v os1 hQ1 T' _ X' hH1 (Fr.app hF hF1)
  exact ⟨s2, o, st'.trans st, r⟩
theorem W.callIn {idx mx : Nat} {z : MethodName} {bytes : ByteArray}  {rm : Room} {argsL : List Value} {S0 : List Value} {ps : List FieldType} {rr : Option FieldType} {b : Addr} {q : OS → Prop} (K : Ctx X l Z R y code maxL ret) (pc' : Nat) (hd : decode code pc = .ok (.invokespecial idx, 3)) (w1 : (Jvm.Cond.methodLink y.cls idx z).before a0 Z = true) (w2 : (Jvm.Cond.instanceMethod z).before a0 Z = true) (w3 : (Jvm.Cond.initialized z.cls).before a0 Z = true) (w4 : (Jvm.Cond.code z bytes mx none).before a0 Z = true)
    (hsig : parseMethodDescriptor z.desc = some ⟨ps, rr⟩) (hM : OMeets l Z z bytes mx none rm (.ref b :: argsL) os (RetN q)) (k : ∀ os', q os' → WP X Z rc rs Q pc' L S os' (ce + rm.cells) (sl + rm.slots)) (hz1 : z.name = "<init>" := by rfl) (hst : S0 = argsL.reverse ++ .ref b :: S := by rfl) (hlen : argsL.length = ps.length := by rfl) (hsz : L.length = maxL := by rfl) (hf : rm.frames + 1 ≤ R.frames := by decide) (hl : (S.map fun v => v.category).sum + (mx + 11) + rm.locals ≤ R.locals := by exact Nat.le_of_ble_eq_true rfl)
    (hc : ce + rm.cells ≤ R.cells := by decide) (hs : sl + rm.slots ≤ R.slots := by decide) (hy : z.cls ≠ "java/lang/invoke/MethodHandle" ∧ z.cls ≠ "java/lang/invoke/VarHandle" := by decide) (hp : pc + 3 = pc' := by rfl) : WP X Z rc rs Q pc L S0 os ce sl :=
  W.callI K pc' hd w1 w2 w3 w4 hsig hM (fun v os' hq => by obtain ⟨rfl, hq⟩ := hq; exact k os' hq) hz1 hst hlen hsz hf hl hc hs hy hp
theorem W.callV {idx mx : Nat} {z : MethodName} {bytes : ByteArray} {rt : Option FieldType} {C : String} {rm : Room} {argsL : List Value} {S0 : List Value} {ps : List FieldType} {rr : Option FieldType} {b : Addr} {Q' : Option Value → OS → Prop} (K : Ctx X l Z R y code maxL ret) (pc' : Nat) (hd : decode code pc = .ok (.invokevirtual idx, 3)) (w1 : (Jvm.Cond.methodLink y.cls idx z).before a0 Z = true) (w2 : (Jvm.Cond.declares z).before a0 Z = true) (w5 : (Jvm.Cond.selects C z z).before a0 Z = true) (w6 : (Jvm.Cond.instanceMethod z).before a0 Z = true) (w3 : (Jvm.Cond.initialized z.cls).before a0 Z = true) (w4 : (Jvm.Cond.code z bytes mx rt).before a0 Z = true)
    (hsig : parseMethodDescriptor z.desc = some ⟨ps, rr⟩) (hrc : ∀ h, Hp Z h os → Exa Z h b C) (hM : OMeets l Z z bytes mx rt rm (.ref b :: argsL) os Q') (k : ∀ v os', Q' v os' → WP X Z rc rs Q pc' L (v.toList ++ S) os' (ce + rm.cells) (sl + rm.slots)) (hst : S0 = argsL.reverse ++ .ref b :: S := by rfl) (hlen : argsL.length = ps.length := by rfl) (hsz : L.length = maxL := by rfl) (hf : rm.frames + 1 ≤ R.frames := by decide) (hl : (S.map fun v => v.category).sum + (mx + 11) + rm.locals ≤ R.locals := by exact Nat.le_of_ble_eq_true rfl)
    (hc : ce + rm.cells ≤ R.cells := by decide) (hs : sl + rm.slots ≤ R.slots := by decide) (hy : z.cls ≠ "java/lang/invoke/MethodHandle" ∧ z.cls ≠ "java/lang/invoke/VarHandle" := by decide) (hp : pc + 3 = pc' := by rfl) : WP X Z rc rs Q pc L S0 os ce sl := by
  obtain ⟨p, l', e, R', s, m, args, below, meth, c⟩ := X
  obtain ⟨rfl, h2, hx, hZ, hby, hml, hown, hnm, hret, hlk⟩ := K
  have h2' : R' = R := h2
  subst h2'
  subst hp
  intro T locs hT0 hH hF
  have hT : Stand p l' e R' s m args below meth c T locs ce sl := hT0
  obtain ⟨cq7, kq7, q7a, q7b, q7c⟩ := isOf (T := T) hZ rfl (hrc T.heap hH)
  obtain ⟨v, vm1, ⟨T', L', k', n'⟩, -, X', ⟨Lc, ⟨os1, hQ1, hH1, hF1⟩, e1, e2, e3⟩, st'⟩ := Stand.virtualBack hT hx (y := z) (z := z) hown (mvT hZ w1) (mvT hZ w2) (notFace_of_selects (args := #[]) (mvT hZ w5)) (mvT hZ w5) (mvT hZ w6) hy (backOf (W := (S.map fun v => v.category).sum) (Q := fun v h L => ∃ os', Q' v os' ∧ Hp Z h os' ∧ Fr Z.heap.size L) (hM _ hH []) hZ w4 w3 (hf) (hl)) q7a q7c (g := mkF m pc L.toArray S0) rfl (by rw [hml]; simpa using hsz) (Steps.refl _) (argsL := argsL) (rest := S) (lenOf hsig hlen) hst (by show 2 * 0 + _ ≤ _; omega) (hb hby hd) (fun _ _ => ⟨rfl, rfl, hc, hs⟩)
  dsimp only [Pt.U, Pt.locs, Pt.cells, Pt.slots] at X' e1 e2 e3 st' hH1
  subst e1 e2 e3
  obtain ⟨s2, o, st, r⟩ := k v os1 hQ1 T' _ X' hH1 (Fr.app hF hF1)
  exact ⟨s2, o, st'.trans st, r⟩
theorem W.callVv {idx mx : Nat} {z : MethodName} {bytes : ByteArray} {rt : Option FieldType} {C : String} {rm : Room} {argsL : List Value} {S0 : List Value} {ps : List FieldType} {rr : Option FieldType} {b : Addr} {q : Value → OS → Prop} (K : Ctx X l Z R y code maxL ret) (pc' : Nat) (hd : decode code pc = .ok (.invokevirtual idx, 3)) (w1 : (Jvm.Cond.methodLink y.cls idx z).before a0 Z = true) (w2 : (Jvm.Cond.declares z).before a0 Z = true) (w5 : (Jvm.Cond.selects C z z).before a0 Z = true) (w6 : (Jvm.Cond.instanceMethod z).before a0 Z = true) (w3 : (Jvm.Cond.initialized z.cls).before a0 Z = true) (w4 : (Jvm.Cond.code z bytes mx rt).before a0 Z = true)
    (hsig : parseMethodDescriptor z.desc = some ⟨ps, rr⟩) (hrc : ∀ h, Hp Z h os → Exa Z h b C) (hM : OMeets l Z z bytes mx rt rm (.ref b :: argsL) os (RetV q)) (k : ∀ v os', q v os' → WP X Z rc rs Q pc' L (v :: S) os' (ce + rm.cells) (sl + rm.slots)) (hst : S0 = argsL.reverse ++ .ref b :: S := by rfl) (hlen : argsL.length = ps.length := by rfl) (hsz : L.length = maxL := by rfl) (hf : rm.frames + 1 ≤ R.frames := by decide) (hl : (S.map fun v => v.category).sum + (mx + 11) + rm.locals ≤ R.locals := by exact Nat.le_of_ble_eq_true rfl)
    (hc : ce + rm.cells ≤ R.cells := by decide) (hs : sl + rm.slots ≤ R.slots := by decide) (hy : z.cls ≠ "java/lang/invoke/MethodHandle" ∧ z.cls ≠ "java/lang/invoke/VarHandle" := by decide) (hp : pc + 3 = pc' := by rfl) : WP X Z rc rs Q pc L S0 os ce sl :=
  W.callV K pc' hd w1 w2 w5 w6 w3 w4 hsig hrc hM (fun v os' hq => by obtain ⟨x, rfl, hq⟩ := hq; exact k x os' hq) hst hlen hsz hf hl hc hs hy hp
theorem W.callVn {idx mx : Nat} {z : MethodName} {bytes : ByteArray} {rt : Option FieldType} {C : String} {rm : Room} {argsL : List Value} {S0 : List Value} {ps : List FieldType} {rr : Option FieldType} {b : Addr} {q : OS → Prop} (K : Ctx X l Z R y code maxL ret) (pc' : Nat) (hd : decode code pc = .ok (.invokevirtual idx, 3)) (w1 : (Jvm.Cond.methodLink y.cls idx z).before a0 Z = true) (w2 : (Jvm.Cond.declares z).before a0 Z = true) (w5 : (Jvm.Cond.selects C z z).before a0 Z = true) (w6 : (Jvm.Cond.instanceMethod z).before a0 Z = true) (w3 : (Jvm.Cond.initialized z.cls).before a0 Z = true) (w4 : (Jvm.Cond.code z bytes mx rt).before a0 Z = true)
    (hsig : parseMethodDescriptor z.desc = some ⟨ps, rr⟩) (hrc : ∀ h, Hp Z h os → Exa Z h b C) (hM : OMeets l Z z bytes mx rt rm (.ref b :: argsL) os (RetN q)) (k : ∀ os', q os' → WP X Z rc rs Q pc' L S os' (ce + rm.cells) (sl + rm.slots)) (hst : S0 = argsL.reverse ++ .ref b :: S := by rfl) (hlen : argsL.length = ps.length := by rfl) (hsz : L.length = maxL := by rfl) (hf : rm.frames + 1 ≤ R.frames := by decide) (hl : (S.map fun v => v.category).sum + (mx + 11) + rm.locals ≤ R.locals := by exact Nat.le_of_ble_eq_true rfl)
    (hc : ce + rm.cells ≤ R.cells := by decide) (hs : sl + rm.slots ≤ R.slots := by decide) (hy : z.cls ≠ "java/lang/invoke/MethodHandle" ∧ z.cls ≠ "java/lang/invoke/VarHandle" := by decide) (hp : pc + 3 = pc' := by rfl) : WP X Z rc rs Q pc L S0 os ce sl :=
  W.callV K pc' hd w1 w2 w5 w6 w3 w4 hsig hrc hM (fun v os' hq => by obtain ⟨rfl, hq⟩ := hq; exact k os' hq) hst hlen hsz hf hl hc hs hy hp
theorem W.callSv0 {idx mx : Nat} {z : MethodName} {bytes : ByteArray} {rt : Option FieldType} {rm : Room} {ps : List FieldType} {rr : Option FieldType} {q : Value → OS → Prop} (K : Ctx X l Z R y code maxL ret) (pc' : Nat) (hd : decode code pc = .ok (.invokestatic idx, 3)) (w1 : (Jvm.Cond.methodLink y.cls idx z).before a0 Z = true) (w2 : (Jvm.Cond.static z).before a0 Z = true) (w3 : (Jvm.Cond.initialized z.cls).before a0 Z = true) (w4 : (Jvm.Cond.code z bytes mx rt).before a0 Z = true)
    (hsig : parseMethodDescriptor z.desc = some ⟨ps, rr⟩) (hM : OMeets l Z z bytes mx rt rm [] os (RetV q)) (k : ∀ v os', q v os' → WP X Z rc rs Q pc' L (v :: S) os' (ce + rm.cells) (sl + rm.slots)) (hlen : ([] : List Value).length = ps.length := by rfl) (hsz : L.length = maxL := by rfl) (hf : rm.frames + 1 ≤ R.frames := by decide) (hl : (S.map fun v => v.category).sum + (mx + 11) + rm.locals ≤ R.locals := by exact Nat.le_of_ble_eq_true rfl)
    (hc : ce + rm.cells ≤ R.cells := by decide) (hs : sl + rm.slots ≤ R.slots := by decide) (hy : z.cls ≠ "java/lang/invoke/MethodHandle" ∧ z.cls ≠ "java/lang/invoke/VarHandle" := by decide) (hp : pc + 3 = pc' := by rfl) : WP X Z rc rs Q pc L (S) os ce sl :=
  W.callSv (argsL := []) (S := S) K pc' hd w1 w2 w3 w4 hsig hM k rfl hlen hsz hf hl hc hs hy hp
theorem W.callSv1 {idx mx : Nat} {z : MethodName} {bytes : ByteArray} {rt : Option FieldType} {rm : Room} {ps : List FieldType} {rr : Option FieldType} {x1 : Value} {q : Value → OS → Prop} (K : Ctx X l Z R y code maxL ret) (pc' : Nat) (hd : decode code pc = .ok (.invokestatic idx, 3)) (w1 : (Jvm.Cond.methodLink y.cls idx z).before a0 Z = true) (w2 : (Jvm.Cond.static z).before a0 Z = true) (w3 : (Jvm.Cond.initialized z.cls).before a0 Z = true) (w4 : (Jvm.Cond.code z bytes mx rt).before a0 Z = true)
    (hsig : parseMethodDescriptor z.desc = some ⟨ps, rr⟩) (hM : OMeets l Z z bytes mx rt rm [x1] os (RetV q)) (k : ∀ v os', q v os' → WP X Z rc rs Q pc' L (v :: S) os' (ce + rm.cells) (sl + rm.slots)) (hlen : ([x1] : List Value).length = ps.length := by rfl) (hsz : L.length = maxL := by rfl) (hf : rm.frames + 1 ≤ R.frames := by decide) (hl : (S.map fun v => v.category).sum + (mx + 11) + rm.locals ≤ R.locals := by exact Nat.le_of_ble_eq_true rfl)
    (hc : ce + rm.cells ≤ R.cells := by decide) (hs : sl + rm.slots ≤ R.slots := by decide) (hy : z.cls ≠ "java/lang/invoke/MethodHandle" ∧ z.cls ≠ "java/lang/invoke/VarHandle" := by decide) (hp : pc + 3 = pc' := by rfl) : WP X Z rc rs Q pc L (x1 :: S) os ce sl :=
  W.callSv (argsL := [x1]) (S := S) K pc' hd w1 w2 w3 w4 hsig hM k rfl hlen hsz hf hl hc hs hy hp
theorem W.callSv2 {idx mx : Nat} {z : MethodName} {bytes : ByteArray} {rt : Option FieldType} {rm : Room} {ps : List FieldType} {rr : Option FieldType} {x1 x2 : Value} {q : Value → OS → Prop} (K : Ctx X l Z R y code maxL ret) (pc' : Nat) (hd : decode code pc = .ok (.invokestatic idx, 3)) (w1 : (Jvm.Cond.methodLink y.cls idx z).before a0 Z = true) (w2 : (Jvm.Cond.static z).before a0 Z = true) (w3 : (Jvm.Cond.initialized z.cls).before a0 Z = true) (w4 : (Jvm.Cond.code z bytes mx rt).before a0 Z = true)
    (hsig : parseMethodDescriptor z.desc = some ⟨ps, rr⟩) (hM : OMeets l Z z bytes mx rt rm [x1, x2] os (RetV q)) (k : ∀ v os', q v os' → WP X Z rc rs Q pc' L (v :: S) os' (ce + rm.cells) (sl + rm.slots)) (hlen : ([x1, x2] : List Value).length = ps.length := by rfl) (hsz : L.length = maxL := by rfl) (hf : rm.frames + 1 ≤ R.frames := by decide) (hl : (S.map fun v => v.category).sum + (mx + 11) + rm.locals ≤ R.locals := by exact Nat.le_of_ble_eq_true rfl)
    (hc : ce + rm.cells ≤ R.cells := by decide) (hs : sl + rm.slots ≤ R.slots := by decide) (hy : z.cls ≠ "java/lang/invoke/MethodHandle" ∧ z.cls ≠ "java/lang/invoke/VarHandle" := by decide) (hp : pc + 3 = pc' := by rfl) : WP X Z rc rs Q pc L (x2 :: x1 :: S) os ce sl :=
  W.callSv (argsL := [x1, x2]) (S := S) K pc' hd w1 w2 w3 w4 hsig hM k rfl hlen hsz hf hl hc hs hy hp
theorem W.callSv3 {idx mx : Nat} {z : MethodName} {bytes : ByteArray} {rt : Option FieldType} {rm : Room} {ps : List FieldType} {rr : Option FieldType} {x1 x2 x3 : Value} {q : Value → OS → Prop} (K : Ctx X l Z R y code maxL ret) (pc' : Nat) (hd : decode code pc = .ok (.invokestatic idx, 3)) (w1 : (Jvm.Cond.methodLink y.cls idx z).before a0 Z = true) (w2 : (Jvm.Cond.static z).before a0 Z = true) (w3 : (Jvm.Cond.initialized z.cls).before a0 Z = true) (w4 : (Jvm.Cond.code z bytes mx rt).before a0 Z = true)
    (hsig : parseMethodDescriptor z.desc = some ⟨ps, rr⟩) (hM : OMeets l Z z bytes mx rt rm [x1, x2, x3] os (RetV q)) (k : ∀ v os', q v os' → WP X Z rc rs Q pc' L (v :: S) os' (ce + rm.cells) (sl + rm.slots)) (hlen : ([x1, x2, x3] : List Value).length = ps.length := by rfl) (hsz : L.length = maxL := by rfl) (hf : rm.frames + 1 ≤ R.frames := by decide) (hl : (S.map fun v => v.category).sum + (mx + 11) + rm.locals ≤ R.locals := by exact Nat.le_of_ble_eq_true rfl)
    (hc : ce + rm.cells ≤ R.cells := by decide) (hs : sl + rm.slots ≤ R.slots := by decide) (hy : z.cls ≠ "java/lang/invoke/MethodHandle" ∧ z.cls ≠ "java/lang/invoke/VarHandle" := by decide) (hp : pc + 3 = pc' := by rfl) : WP X Z rc rs Q pc L (x3 :: x2 :: x1 :: S) os ce sl :=
  W.callSv (argsL := [x1, x2, x3]) (S := S) K pc' hd w1 w2 w3 w4 hsig hM k rfl hlen hsz hf hl hc hs hy hp
theorem W.callSv4 {idx mx : Nat} {z : MethodName} {bytes : ByteArray} {rt : Option FieldType} {rm : Room} {ps : List FieldType} {rr : Option FieldType} {x1 x2 x3 x4 : Value} {q : Value → OS → Prop} (K : Ctx X l Z R y code maxL ret) (pc' : Nat) (hd : decode code pc = .ok (.invokestatic idx, 3)) (w1 : (Jvm.Cond.methodLink y.cls idx z).before a0 Z = true) (w2 : (Jvm.Cond.static z).before a0 Z = true) (w3 : (Jvm.Cond.initialized z.cls).before a0 Z = true) (w4 : (Jvm.Cond.code z bytes mx rt).before a0 Z = true)
    (hsig : parseMethodDescriptor z.desc = some ⟨ps, rr⟩) (hM : OMeets l Z z bytes mx rt rm [x1, x2, x3, x4] os (RetV q)) (k : ∀ v os', q v os' → WP X Z rc rs Q pc' L (v :: S) os' (ce + rm.cells) (sl + rm.slots)) (hlen : ([x1, x2, x3, x4] : List Value).length = ps.length := by rfl) (hsz : L.length = maxL := by rfl) (hf : rm.frames + 1 ≤ R.frames := by decide) (hl : (S.map fun v => v.category).sum + (mx + 11) + rm.locals ≤ R.locals := by exact Nat.le_of_ble_eq_true rfl)
    (hc : ce + rm.cells ≤ R.cells := by decide) (hs : sl + rm.slots ≤ R.slots := by decide) (hy : z.cls ≠ "java/lang/invoke/MethodHandle" ∧ z.cls ≠ "java/lang/invoke/VarHandle" := by decide) (hp : pc + 3 = pc' := by rfl) : WP X Z rc rs Q pc L (x4 :: x3 :: x2 :: x1 :: S) os ce sl :=
  W.callSv (argsL := [x1, x2, x3, x4]) (S := S) K pc' hd w1 w2 w3 w4 hsig hM k rfl hlen hsz hf hl hc hs hy hp
theorem W.callSv5 {idx mx : Nat} {z : MethodName} {bytes : ByteArray} {rt : Option FieldType} {rm : Room} {ps : List FieldType} {rr : Option FieldType} {x1 x2 x3 x4 x5 : Value} {q : Value → OS → Prop} (K : Ctx X l Z R y code maxL ret) (pc' : Nat) (hd : decode code pc = .ok (.invokestatic idx, 3)) (w1 : (Jvm.Cond.methodLink y.cls idx z).before a0 Z = true) (w2 : (Jvm.Cond.static z).before a0 Z = true) (w3 : (Jvm.Cond.initialized z.cls).before a0 Z = true) (w4 : (Jvm.Cond.code z bytes mx rt).before a0 Z = true)
    (hsig : parseMethodDescriptor z.desc = some ⟨ps, rr⟩) (hM : OMeets l Z z bytes mx rt rm [x1, x2, x3, x4, x5] os (RetV q)) (k : ∀ v os', q v os' → WP X Z rc rs Q pc' L (v :: S) os' (ce + rm.cells) (sl + rm.slots)) (hlen : ([x1, x2, x3, x4, x5] : List Value).length = ps.length := by rfl) (hsz : L.length = maxL := by rfl) (hf : rm.frames + 1 ≤ R.frames := by decide) (hl : (S.map fun v => v.category).sum + (mx + 11) + rm.locals ≤ R.locals := by exact Nat.le_of_ble_eq_true rfl)
    (hc : ce + rm.cells ≤ R.cells := by decide) (hs : sl + rm.slots ≤ R.slots := by decide) (hy : z.cls ≠ "java/lang/invoke/MethodHandle" ∧ z.cls ≠ "java/lang/invoke/VarHandle" := by decide) (hp : pc + 3 = pc' := by rfl) : WP X Z rc rs Q pc L (x5 :: x4 :: x3 :: x2 :: x1 :: S) os ce sl :=
  W.callSv (argsL := [x1, x2, x3, x4, x5]) (S := S) K pc' hd w1 w2 w3 w4 hsig hM k rfl hlen hsz hf hl hc hs hy hp
theorem W.callSv6 {idx mx : Nat} {z : MethodName} {bytes : ByteArray} {rt : Option FieldType} {rm : Room} {ps : List FieldType} {rr : Option FieldType} {x1 x2 x3 x4 x5 x6 : Value} {q : Value → OS → Prop} (K : Ctx X l Z R y code maxL ret) (pc' : Nat) (hd : decode code pc = .ok (.invokestatic idx, 3)) (w1 : (Jvm.Cond.methodLink y.cls idx z).before a0 Z = true) (w2 : (Jvm.Cond.static z).before a0 Z = true) (w3 : (Jvm.Cond.initialized z.cls).before a0 Z = true) (w4 : (Jvm.Cond.code z bytes mx rt).before a0 Z = true)
    (hsig : parseMethodDescriptor z.desc = some ⟨ps, rr⟩) (hM : OMeets l Z z bytes mx rt rm [x1, x2, x3, x4, x5, x6] os (RetV q)) (k : ∀ v os', q v os' → WP X Z rc rs Q pc' L (v :: S) os' (ce + rm.cells) (sl + rm.slots)) (hlen : ([x1, x2, x3, x4, x5, x6] : List Value).length = ps.length := by rfl) (hsz : L.length = maxL := by rfl) (hf : rm.frames + 1 ≤ R.frames := by decide) (hl : (S.map fun v => v.category).sum + (mx + 11) + rm.locals ≤ R.locals := by exact Nat.le_of_ble_eq_true rfl)
    (hc : ce + rm.cells ≤ R.cells := by decide) (hs : sl + rm.slots ≤ R.slots := by decide) (hy : z.cls ≠ "java/lang/invoke/MethodHandle" ∧ z.cls ≠ "java/lang/invoke/VarHandle" := by decide) (hp : pc + 3 = pc' := by rfl) : WP X Z rc rs Q pc L (x6 :: x5 :: x4 :: x3 :: x2 :: x1 :: S) os ce sl :=
  W.callSv (argsL := [x1, x2, x3, x4, x5, x6]) (S := S) K pc' hd w1 w2 w3 w4 hsig hM k rfl hlen hsz hf hl hc hs hy hp
theorem W.callSv7 {idx mx : Nat} {z : MethodName} {bytes : ByteArray} {rt : Option FieldType} {rm : Room} {ps : List FieldType} {rr : Option FieldType} {x1 x2 x3 x4 x5 x6 x7 : Value} {q : Value → OS → Prop} (K : Ctx X l Z R y code maxL ret) (pc' : Nat) (hd : decode code pc = .ok (.invokestatic idx, 3)) (w1 : (Jvm.Cond.methodLink y.cls idx z).before a0 Z = true) (w2 : (Jvm.Cond.static z).before a0 Z = true) (w3 : (Jvm.Cond.initialized z.cls).before a0 Z = true) (w4 : (Jvm.Cond.code z bytes mx rt).before a0 Z = true)
    (hsig : parseMethodDescriptor z.desc = some ⟨ps, rr⟩) (hM : OMeets l Z z bytes mx rt rm [x1, x2, x3, x4, x5, x6, x7] os (RetV q)) (k : ∀ v os', q v os' → WP X Z rc rs Q pc' L (v :: S) os' (ce + rm.cells) (sl + rm.slots)) (hlen : ([x1, x2, x3, x4, x5, x6, x7] : List Value).length = ps.length := by rfl) (hsz : L.length = maxL := by rfl) (hf : rm.frames + 1 ≤ R.frames := by decide) (hl : (S.map fun v => v.category).sum + (mx + 11) + rm.locals ≤ R.locals := by exact Nat.le_of_ble_eq_true rfl)
    (hc : ce + rm.cells ≤ R.cells := by decide) (hs : sl + rm.slots ≤ R.slots := by decide) (hy : z.cls ≠ "java/lang/invoke/MethodHandle" ∧ z.cls ≠ "java/lang/invoke/VarHandle" := by decide) (hp : pc + 3 = pc' := by rfl) : WP X Z rc rs Q pc L (x7 :: x6 :: x5 :: x4 :: x3 :: x2 :: x1 :: S) os ce sl :=
  W.callSv (argsL := [x1, x2, x3, x4, x5, x6, x7]) (S := S) K pc' hd w1 w2 w3 w4 hsig hM k rfl hlen hsz hf hl hc hs hy hp
theorem W.callSn0 {idx mx : Nat} {z : MethodName} {bytes : ByteArray} {rt : Option FieldType} {rm : Room} {ps : List FieldType} {rr : Option FieldType} {q : OS → Prop} (K : Ctx X l Z R y code maxL ret) (pc' : Nat) (hd : decode code pc = .ok (.invokestatic idx, 3)) (w1 : (Jvm.Cond.methodLink y.cls idx z).before a0 Z = true) (w2 : (Jvm.Cond.static z).before a0 Z = true) (w3 : (Jvm.Cond.initialized z.cls).before a0 Z = true) (w4 : (Jvm.Cond.code z bytes mx rt).before a0 Z = true)
    (hsig : parseMethodDescriptor z.desc = some ⟨ps, rr⟩) (hM : OMeets l Z z bytes mx rt rm [] os (RetN q)) (k : ∀ os', q os' → WP X Z rc rs Q pc' L S os' (ce + rm.cells) (sl + rm.slots)) (hlen : ([] : List Value).length = ps.length := by rfl) (hsz : L.length = maxL := by rfl) (hf : rm.frames + 1 ≤ R.frames := by decide) (hl : (S.map fun v => v.category).sum + (mx + 11) + rm.locals ≤ R.locals := by exact Nat.le_of_ble_eq_true rfl)
    (hc : ce + rm.cells ≤ R.cells := by decide) (hs : sl + rm.slots ≤ R.slots := by decide) (hy : z.cls ≠ "java/lang/invoke/MethodHandle" ∧ z.cls ≠ "java/lang/invoke/VarHandle" := by decide) (hp : pc + 3 = pc' := by rfl) : WP X Z rc rs Q pc L (S) os ce sl :=
  W.callSn (argsL := []) (S := S) K pc' hd w1 w2 w3 w4 hsig hM k rfl hlen hsz hf hl hc hs hy hp
theorem W.callSn1 {idx mx : Nat} {z : MethodName} {bytes : ByteArray} {rt : Option FieldType} {rm : Room} {ps : List FieldType} {rr : Option FieldType} {x1 : Value} {q : OS → Prop} (K : Ctx X l Z R y code maxL ret) (pc' : Nat) (hd : decode code pc = .ok (.invokestatic idx, 3)) (w1 : (Jvm.Cond.methodLink y.cls idx z).before a0 Z = true) (w2 : (Jvm.Cond.static z).before a0 Z = true) (w3 : (Jvm.Cond.initialized z.cls).before a0 Z = true) (w4 : (Jvm.Cond.code z bytes mx rt).before a0 Z = true)
    (hsig : parseMethodDescriptor z.desc = some ⟨ps, rr⟩) (hM : OMeets l Z z bytes mx rt rm [x1] os (RetN q)) (k : ∀ os', q os' → WP X Z rc rs Q pc' L S os' (ce + rm.cells) (sl + rm.slots)) (hlen : ([x1] : List Value).length = ps.length := by rfl) (hsz : L.length = maxL := by rfl) (hf : rm.frames + 1 ≤ R.frames := by decide) (hl : (S.map fun v => v.category).sum + (mx + 11) + rm.locals ≤ R.locals := by exact Nat.le_of_ble_eq_true rfl)
    (hc : ce + rm.cells ≤ R.cells := by decide) (hs : sl + rm.slots ≤ R.slots := by decide) (hy : z.cls ≠ "java/lang/invoke/MethodHandle" ∧ z.cls ≠ "java/lang/invoke/VarHandle" := by decide) (hp : pc + 3 = pc' := by rfl) : WP X Z rc rs Q pc L (x1 :: S) os ce sl :=
  W.callSn (argsL := [x1]) (S := S) K pc' hd w1 w2 w3 w4 hsig hM k rfl hlen hsz hf hl hc hs hy hp
theorem W.callSn2 {idx mx : Nat} {z : MethodName} {bytes : ByteArray} {rt : Option FieldType} {rm : Room} {ps : List FieldType} {rr : Option FieldType} {x1 x2 : Value} {q : OS → Prop} (K : Ctx X l Z R y code maxL ret) (pc' : Nat) (hd : decode code pc = .ok (.invokestatic idx, 3)) (w1 : (Jvm.Cond.methodLink y.cls idx z).before a0 Z = true) (w2 : (Jvm.Cond.static z).before a0 Z = true) (w3 : (Jvm.Cond.initialized z.cls).before a0 Z = true) (w4 : (Jvm.Cond.code z bytes mx rt).before a0 Z = true)
    (hsig : parseMethodDescriptor z.desc = some ⟨ps, rr⟩) (hM : OMeets l Z z bytes mx rt rm [x1, x2] os (RetN q)) (k : ∀ os', q os' → WP X Z rc rs Q pc' L S os' (ce + rm.cells) (sl + rm.slots)) (hlen : ([x1, x2] : List Value).length = ps.length := by rfl) (hsz : L.length = maxL := by rfl) (hf : rm.frames + 1 ≤ R.frames := by decide) (hl : (S.map fun v => v.category).sum + (mx + 11) + rm.locals ≤ R.locals := by exact Nat.le_of_ble_eq_true rfl)
    (hc : ce + rm.cells ≤ R.cells := by decide) (hs : sl + rm.slots ≤ R.slots := by decide) (hy : z.cls ≠ "java/lang/invoke/MethodHandle" ∧ z.cls ≠ "java/lang/invoke/VarHandle" := by decide) (hp : pc + 3 = pc' := by rfl) : WP X Z rc rs Q pc L (x2 :: x1 :: S) os ce sl :=
  W.callSn (argsL := [x1, x2]) (S := S) K pc' hd w1 w2 w3 w4 hsig hM k rfl hlen hsz hf hl hc hs hy hp
theorem W.callSn3 {idx mx : Nat} {z : MethodName} {bytes : ByteArray} {rt : Option FieldType} {rm : Room} {ps : List FieldType} {rr : Option FieldType} {x1 x2 x3 : Value} {q : OS → Prop} (K : Ctx X l Z R y code maxL ret) (pc' : Nat) (hd : decode code pc = .ok (.invokestatic idx, 3)) (w1 : (Jvm.Cond.methodLink y.cls idx z).before a0 Z = true) (w2 : (Jvm.Cond.static z).before a0 Z = true) (w3 : (Jvm.Cond.initialized z.cls).before a0 Z = true) (w4 : (Jvm.Cond.code z bytes mx rt).before a0 Z = true)
    (hsig : parseMethodDescriptor z.desc = some ⟨ps, rr⟩) (hM : OMeets l Z z bytes mx rt rm [x1, x2, x3] os (RetN q)) (k : ∀ os', q os' → WP X Z rc rs Q pc' L S os' (ce + rm.cells) (sl + rm.slots)) (hlen : ([x1, x2, x3] : List Value).length = ps.length := by rfl) (hsz : L.length = maxL := by rfl) (hf : rm.frames + 1 ≤ R.frames := by decide) (hl : (S.map fun v => v.category).sum + (mx + 11) + rm.locals ≤ R.locals := by exact Nat.le_of_ble_eq_true rfl)
    (hc : ce + rm.cells ≤ R.cells := by decide) (hs : sl + rm.slots ≤ R.slots := by decide) (hy : z.cls ≠ "java/lang/invoke/MethodHandle" ∧ z.cls ≠ "java/lang/invoke/VarHandle" := by decide) (hp : pc + 3 = pc' := by rfl) : WP X Z rc rs Q pc L (x3 :: x2 :: x1 :: S) os ce sl :=
  W.callSn (argsL := [x1, x2, x3]) (S := S) K pc' hd w1 w2 w3 w4 hsig hM k rfl hlen hsz hf hl hc hs hy hp
theorem W.callSn4 {idx mx : Nat} {z : MethodName} {bytes : ByteArray} {rt : Option FieldType} {rm : Room} {ps : List FieldType} {rr : Option FieldType} {x1 x2 x3 x4 : Value} {q : OS → Prop} (K : Ctx X l Z R y code maxL ret) (pc' : Nat) (hd : decode code pc = .ok (.invokestatic idx, 3)) (w1 : (Jvm.Cond.methodLink y.cls idx z).before a0 Z = true) (w2 : (Jvm.Cond.static z).before a0 Z = true) (w3 : (Jvm.Cond.initialized z.cls).before a0 Z = true) (w4 : (Jvm.Cond.code z bytes mx rt).before a0 Z = true)
    (hsig : parseMethodDescriptor z.desc = some ⟨ps, rr⟩) (hM : OMeets l Z z bytes mx rt rm [x1, x2, x3, x4] os (RetN q)) (k : ∀ os', q os' → WP X Z rc rs Q pc' L S os' (ce + rm.cells) (sl + rm.slots)) (hlen : ([x1, x2, x3, x4] : List Value).length = ps.length := by rfl) (hsz : L.length = maxL := by rfl) (hf : rm.frames + 1 ≤ R.frames := by decide) (hl : (S.map fun v => v.category).sum + (mx + 11) + rm.locals ≤ R.locals := by exact Nat.le_of_ble_eq_true rfl)
    (hc : ce + rm.cells ≤ R.cells := by decide) (hs : sl + rm.slots ≤ R.slots := by decide) (hy : z.cls ≠ "java/lang/invoke/MethodHandle" ∧ z.cls ≠ "java/lang/invoke/VarHandle" := by decide) (hp : pc + 3 = pc' := by rfl) : WP X Z rc rs Q pc L (x4 :: x3 :: x2 :: x1 :: S) os ce sl :=
  W.callSn (argsL := [x1, x2, x3, x4]) (S := S) K pc' hd w1 w2 w3 w4 hsig hM k rfl hlen hsz hf hl hc hs hy hp
theorem W.callSn5 {idx mx : Nat} {z : MethodName} {bytes : ByteArray} {rt : Option FieldType} {rm : Room} {ps : List FieldType} {rr : Option FieldType} {x1 x2 x3 x4 x5 : Value} {q : OS → Prop} (K : Ctx X l Z R y code maxL ret) (pc' : Nat) (hd : decode code pc = .ok (.invokestatic idx, 3)) (w1 : (Jvm.Cond.methodLink y.cls idx z).before a0 Z = true) (w2 : (Jvm.Cond.static z).before a0 Z = true) (w3 : (Jvm.Cond.initialized z.cls).before a0 Z = true) (w4 : (Jvm.Cond.code z bytes mx rt).before a0 Z = true)
    (hsig : parseMethodDescriptor z.desc = some ⟨ps, rr⟩) (hM : OMeets l Z z bytes mx rt rm [x1, x2, x3, x4, x5] os (RetN q)) (k : ∀ os', q os' → WP X Z rc rs Q pc' L S os' (ce + rm.cells) (sl + rm.slots)) (hlen : ([x1, x2, x3, x4, x5] : List Value).length = ps.length := by rfl) (hsz : L.length = maxL := by rfl) (hf : rm.frames + 1 ≤ R.frames := by decide) (hl : (S.map fun v => v.category).sum + (mx + 11) + rm.locals ≤ R.locals := by exact Nat.le_of_ble_eq_true rfl)
    (hc : ce + rm.cells ≤ R.cells := by decide) (hs : sl + rm.slots ≤ R.slots := by decide) (hy : z.cls ≠ "java/lang/invoke/MethodHandle" ∧ z.cls ≠ "java/lang/invoke/VarHandle" := by decide) (hp : pc + 3 = pc' := by rfl) : WP X Z rc rs Q pc L (x5 :: x4 :: x3 :: x2 :: x1 :: S) os ce sl :=
  W.callSn (argsL := [x1, x2, x3, x4, x5]) (S := S) K pc' hd w1 w2 w3 w4 hsig hM k rfl hlen hsz hf hl hc hs hy hp
theorem W.callSn6 {idx mx : Nat} {z : MethodName} {bytes : ByteArray} {rt : Option FieldType} {rm : Room} {ps : List FieldType} {rr : Option FieldType} {x1 x2 x3 x4 x5 x6 : Value} {q : OS → Prop} (K : Ctx X l Z R y code maxL ret) (pc' : Nat) (hd : decode code pc = .ok (.invokestatic idx, 3)) (w1 : (Jvm.Cond.methodLink y.cls idx z).before a0 Z = true) (w2 : (Jvm.Cond.static z).before a0 Z = true) (w3 : (Jvm.Cond.initialized z.cls).before a0 Z = true) (w4 : (Jvm.Cond.code z bytes mx rt).before a0 Z = true)
    (hsig : parseMethodDescriptor z.desc = some ⟨ps, rr⟩) (hM : OMeets l Z z bytes mx rt rm [x1, x2, x3, x4, x5, x6] os (RetN q)) (k : ∀ os', q os' → WP X Z rc rs Q pc' L S os' (ce + rm.cells) (sl + rm.slots)) (hlen : ([x1, x2, x3, x4, x5, x6] : List Value).length = ps.length := by rfl) (hsz : L.length = maxL := by rfl) (hf : rm.frames + 1 ≤ R.frames := by decide) (hl : (S.map fun v => v.category).sum + (mx + 11) + rm.locals ≤ R.locals := by exact Nat.le_of_ble_eq_true rfl)
    (hc : ce + rm.cells ≤ R.cells := by decide) (hs : sl + rm.slots ≤ R.slots := by decide) (hy : z.cls ≠ "java/lang/invoke/MethodHandle" ∧ z.cls ≠ "java/lang/invoke/VarHandle" := by decide) (hp : pc + 3 = pc' := by rfl) : WP X Z rc rs Q pc L (x6 :: x5 :: x4 :: x3 :: x2 :: x1 :: S) os ce sl :=
  W.callSn (argsL := [x1, x2, x3, x4, x5, x6]) (S := S) K pc' hd w1 w2 w3 w4 hsig hM k rfl hlen hsz hf hl hc hs hy hp
theorem W.callSn7 {idx mx : Nat} {z : MethodName} {bytes : ByteArray} {rt : Option FieldType} {rm : Room} {ps : List FieldType} {rr : Option FieldType} {x1 x2 x3 x4 x5 x6 x7 : Value} {q : OS → Prop} (K : Ctx X l Z R y code maxL ret) (pc' : Nat) (hd : decode code pc = .ok (.invokestatic idx, 3)) (w1 : (Jvm.Cond.methodLink y.cls idx z).before a0 Z = true) (w2 : (Jvm.Cond.static z).before a0 Z = true) (w3 : (Jvm.Cond.initialized z.cls).before a0 Z = true) (w4 : (Jvm.Cond.code z bytes mx rt).before a0 Z = true)
    (hsig : parseMethodDescriptor z.desc = some ⟨ps, rr⟩) (hM : OMeets l Z z bytes mx rt rm [x1, x2, x3, x4, x5, x6, x7] os (RetN q)) (k : ∀ os', q os' → WP X Z rc rs Q pc' L S os' (ce + rm.cells) (sl + rm.slots)) (hlen : ([x1, x2, x3, x4, x5, x6, x7] : List Value).length = ps.length := by rfl) (hsz : L.length = maxL := by rfl) (hf : rm.frames + 1 ≤ R.frames := by decide) (hl : (S.map fun v => v.category).sum + (mx + 11) + rm.locals ≤ R.locals := by exact Nat.le_of_ble_eq_true rfl)
    (hc : ce + rm.cells ≤ R.cells := by decide) (hs : sl + rm.slots ≤ R.slots := by decide) (hy : z.cls ≠ "java/lang/invoke/MethodHandle" ∧ z.cls ≠ "java/lang/invoke/VarHandle" := by decide) (hp : pc + 3 = pc' := by rfl) : WP X Z rc rs Q pc L (x7 :: x6 :: x5 :: x4 :: x3 :: x2 :: x1 :: S) os ce sl :=
  W.callSn (argsL := [x1, x2, x3, x4, x5, x6, x7]) (S := S) K pc' hd w1 w2 w3 w4 hsig hM k rfl hlen hsz hf hl hc hs hy hp
theorem W.callIn0 {idx mx : Nat} {z : MethodName} {bytes : ByteArray} {rm : Room} {ps : List FieldType} {rr : Option FieldType} {b : Addr} {q : OS → Prop} (K : Ctx X l Z R y code maxL ret) (pc' : Nat) (hd : decode code pc = .ok (.invokespecial idx, 3)) (w1 : (Jvm.Cond.methodLink y.cls idx z).before a0 Z = true) (w2 : (Jvm.Cond.instanceMethod z).before a0 Z = true) (w3 : (Jvm.Cond.initialized z.cls).before a0 Z = true) (w4 : (Jvm.Cond.code z bytes mx none).before a0 Z = true)
    (hsig : parseMethodDescriptor z.desc = some ⟨ps, rr⟩) (hM : OMeets l Z z bytes mx none rm [.ref b] os (RetN q)) (k : ∀ os', q os' → WP X Z rc rs Q pc' L S os' (ce + rm.cells) (sl + rm.slots)) (hz1 : z.name = "<init>" := by rfl) (hlen : ([] : List Value).length = ps.length := by rfl) (hsz : L.length = maxL := by rfl) (hf : rm.frames + 1 ≤ R.frames := by decide) (hl : (S.map fun v => v.category).sum + (mx + 11) + rm.locals ≤ R.locals := by exact Nat.le_of_ble_eq_true rfl)
    (hc : ce + rm.cells ≤ R.cells := by decide) (hs : sl + rm.slots ≤ R.slots := by decide) (hy : z.cls ≠ "java/lang/invoke/MethodHandle" ∧ z.cls ≠ "java/lang/invoke/VarHandle" := by decide) (hp : pc + 3 = pc' := by rfl) : WP X Z rc rs Q pc L (.ref b :: S) os ce sl :=
  W.callIn (argsL := []) (S := S) K pc' hd w1 w2 w3 w4 hsig hM k hz1 rfl hlen hsz hf hl hc hs hy hp
theorem W.callIn1 {idx mx : Nat} {z : MethodName} {bytes : ByteArray} {rm : Room} {ps : List FieldType} {rr : Option FieldType} {b : Addr} {x1 : Value} {q : OS → Prop} (K : Ctx X l Z R y code maxL ret) (pc' : Nat) (hd : decode code pc = .ok (.invokespecial idx, 3)) (w1 : (Jvm.Cond.methodLink y.cls idx z).before a0 Z = true) (w2 : (Jvm.Cond.instanceMethod z).before a0 Z = true) (w3 : (Jvm.Cond.initialized z.cls).before a0 Z = true) (w4 : (Jvm.Cond.code z bytes mx none).before a0 Z = true)
    (hsig : parseMethodDescriptor z.desc = some ⟨ps, rr⟩) (hM : OMeets l Z z bytes mx none rm [.ref b, x1] os (RetN q)) (k : ∀ os', q os' → WP X Z rc rs Q pc' L S os' (ce + rm.cells) (sl + rm.slots)) (hz1 : z.name = "<init>" := by rfl) (hlen : ([x1] : List Value).length = ps.length := by rfl) (hsz : L.length = maxL := by rfl) (hf : rm.frames + 1 ≤ R.frames := by decide) (hl : (S.map fun v => v.category).sum + (mx + 11) + rm.locals ≤ R.locals := by exact Nat.le_of_ble_eq_true rfl)
    (hc : ce + rm.cells ≤ R.cells := by decide) (hs : sl + rm.slots ≤ R.slots := by decide) (hy : z.cls ≠ "java/lang/invoke/MethodHandle" ∧ z.cls ≠ "java/lang/invoke/VarHandle" := by decide) (hp : pc + 3 = pc' := by rfl) : WP X Z rc rs Q pc L (x1 :: .ref b :: S) os ce sl :=
  W.callIn (argsL := [x1]) (S := S) K pc' hd w1 w2 w3 w4 hsig hM k hz1 rfl hlen hsz hf hl hc hs hy hp
theorem W.callIn2 {idx mx : Nat} {z : MethodName} {bytes : ByteArray} {rm : Room} {ps : List FieldType} {rr : Option FieldType} {b : Addr} {x1 x2 : Value} {q : OS → Prop} (K : Ctx X l Z R y code maxL ret) (pc' : Nat) (hd : decode code pc = .ok (.invokespecial idx, 3)) (w1 : (Jvm.Cond.methodLink y.cls idx z).before a0 Z = true) (w2 : (Jvm.Cond.instanceMethod z).before a0 Z = true) (w3 : (Jvm.Cond.initialized z.cls).before a0 Z = true) (w4 : (Jvm.Cond.code z bytes mx none).before a0 Z = true)
    (hsig : parseMethodDescriptor z.desc = some ⟨ps, rr⟩) (hM : OMeets l Z z bytes mx none rm [.ref b, x1, x2] os (RetN q)) (k : ∀ os', q os' → WP X Z rc rs Q pc' L S os' (ce + rm.cells) (sl + rm.slots)) (hz1 : z.name = "<init>" := by rfl) (hlen : ([x1, x2] : List Value).length = ps.length := by rfl) (hsz : L.length = maxL := by rfl) (hf : rm.frames + 1 ≤ R.frames := by decide) (hl : (S.map fun v => v.category).sum + (mx + 11) + rm.locals ≤ R.locals := by exact Nat.le_of_ble_eq_true rfl)
    (hc : ce + rm.cells ≤ R.cells := by decide) (hs : sl + rm.slots ≤ R.slots := by decide) (hy : z.cls ≠ "java/lang/invoke/MethodHandle" ∧ z.cls ≠ "java/lang/invoke/VarHandle" := by decide) (hp : pc + 3 = pc' := by rfl) : WP X Z rc rs Q pc L (x2 :: x1 :: .ref b :: S) os ce sl :=
  W.callIn (argsL := [x1, x2]) (S := S) K pc' hd w1 w2 w3 w4 hsig hM k hz1 rfl hlen hsz hf hl hc hs hy hp
theorem W.callIn3 {idx mx : Nat} {z : MethodName} {bytes : ByteArray} {rm : Room} {ps : List FieldType} {rr : Option FieldType} {b : Addr} {x1 x2 x3 : Value} {q : OS → Prop} (K : Ctx X l Z R y code maxL ret) (pc' : Nat) (hd : decode code pc = .ok (.invokespecial idx, 3)) (w1 : (Jvm.Cond.methodLink y.cls idx z).before a0 Z = true) (w2 : (Jvm.Cond.instanceMethod z).before a0 Z = true) (w3 : (Jvm.Cond.initialized z.cls).before a0 Z = true) (w4 : (Jvm.Cond.code z bytes mx none).before a0 Z = true)
    (hsig : parseMethodDescriptor z.desc = some ⟨ps, rr⟩) (hM : OMeets l Z z bytes mx none rm [.ref b, x1, x2, x3] os (RetN q)) (k : ∀ os', q os' → WP X Z rc rs Q pc' L S os' (ce + rm.cells) (sl + rm.slots)) (hz1 : z.name = "<init>" := by rfl) (hlen : ([x1, x2, x3] : List Value).length = ps.length := by rfl) (hsz : L.length = maxL := by rfl) (hf : rm.frames + 1 ≤ R.frames := by decide) (hl : (S.map fun v => v.category).sum + (mx + 11) + rm.locals ≤ R.locals := by exact Nat.le_of_ble_eq_true rfl)
    (hc : ce + rm.cells ≤ R.cells := by decide) (hs : sl + rm.slots ≤ R.slots := by decide) (hy : z.cls ≠ "java/lang/invoke/MethodHandle" ∧ z.cls ≠ "java/lang/invoke/VarHandle" := by decide) (hp : pc + 3 = pc' := by rfl) : WP X Z rc rs Q pc L (x3 :: x2 :: x1 :: .ref b :: S) os ce sl :=
  W.callIn (argsL := [x1, x2, x3]) (S := S) K pc' hd w1 w2 w3 w4 hsig hM k hz1 rfl hlen hsz hf hl hc hs hy hp
theorem W.callIn4 {idx mx : Nat} {z : MethodName} {bytes : ByteArray} {rm : Room} {ps : List FieldType} {rr : Option FieldType} {b : Addr} {x1 x2 x3 x4 : Value} {q : OS → Prop} (K : Ctx X l Z R y code maxL ret) (pc' : Nat) (hd : decode code pc = .ok (.invokespecial idx, 3)) (w1 : (Jvm.Cond.methodLink y.cls idx z).before a0 Z = true) (w2 : (Jvm.Cond.instanceMethod z).before a0 Z = true) (w3 : (Jvm.Cond.initialized z.cls).before a0 Z = true) (w4 : (Jvm.Cond.code z bytes mx none).before a0 Z = true)
    (hsig : parseMethodDescriptor z.desc = some ⟨ps, rr⟩) (hM : OMeets l Z z bytes mx none rm [.ref b, x1, x2, x3, x4] os (RetN q)) (k : ∀ os', q os' → WP X Z rc rs Q pc' L S os' (ce + rm.cells) (sl + rm.slots)) (hz1 : z.name = "<init>" := by rfl) (hlen : ([x1, x2, x3, x4] : List Value).length = ps.length := by rfl) (hsz : L.length = maxL := by rfl) (hf : rm.frames + 1 ≤ R.frames := by decide) (hl : (S.map fun v => v.category).sum + (mx + 11) + rm.locals ≤ R.locals := by exact Nat.le_of_ble_eq_true rfl)
    (hc : ce + rm.cells ≤ R.cells := by decide) (hs : sl + rm.slots ≤ R.slots := by decide) (hy : z.cls ≠ "java/lang/invoke/MethodHandle" ∧ z.cls ≠ "java/lang/invoke/VarHandle" := by decide) (hp : pc + 3 = pc' := by rfl) : WP X Z rc rs Q pc L (x4 :: x3 :: x2 :: x1 :: .ref b :: S) os ce sl :=
  W.callIn (argsL := [x1, x2, x3, x4]) (S := S) K pc' hd w1 w2 w3 w4 hsig hM k hz1 rfl hlen hsz hf hl hc hs hy hp
theorem W.callIn5 {idx mx : Nat} {z : MethodName} {bytes : ByteArray} {rm : Room} {ps : List FieldType} {rr : Option FieldType} {b : Addr} {x1 x2 x3 x4 x5 : Value} {q : OS → Prop} (K : Ctx X l Z R y code maxL ret) (pc' : Nat) (hd : decode code pc = .ok (.invokespecial idx, 3)) (w1 : (Jvm.Cond.methodLink y.cls idx z).before a0 Z = true) (w2 : (Jvm.Cond.instanceMethod z).before a0 Z = true) (w3 : (Jvm.Cond.initialized z.cls).before a0 Z = true) (w4 : (Jvm.Cond.code z bytes mx none).before a0 Z = true)
    (hsig : parseMethodDescriptor z.desc = some ⟨ps, rr⟩) (hM : OMeets l Z z bytes mx none rm [.ref b, x1, x2, x3, x4, x5] os (RetN q)) (k : ∀ os', q os' → WP X Z rc rs Q pc' L S os' (ce + rm.cells) (sl + rm.slots)) (hz1 : z.name = "<init>" := by rfl) (hlen : ([x1, x2, x3, x4, x5] : List Value).length = ps.length := by rfl) (hsz : L.length = maxL := by rfl) (hf : rm.frames + 1 ≤ R.frames := by decide) (hl : (S.map fun v => v.category).sum + (mx + 11) + rm.locals ≤ R.locals := by exact Nat.le_of_ble_eq_true rfl)
    (hc : ce + rm.cells ≤ R.cells := by decide) (hs : sl + rm.slots ≤ R.slots := by decide) (hy : z.cls ≠ "java/lang/invoke/MethodHandle" ∧ z.cls ≠ "java/lang/invoke/VarHandle" := by decide) (hp : pc + 3 = pc' := by rfl) : WP X Z rc rs Q pc L (x5 :: x4 :: x3 :: x2 :: x1 :: .ref b :: S) os ce sl :=
  W.callIn (argsL := [x1, x2, x3, x4, x5]) (S := S) K pc' hd w1 w2 w3 w4 hsig hM k hz1 rfl hlen hsz hf hl hc hs hy hp
theorem W.callIn6 {idx mx : Nat} {z : MethodName} {bytes : ByteArray} {rm : Room} {ps : List FieldType} {rr : Option FieldType} {b : Addr} {x1 x2 x3 x4 x5 x6 : Value} {q : OS → Prop} (K : Ctx X l Z R y code maxL ret) (pc' : Nat) (hd : decode code pc = .ok (.invokespecial idx, 3)) (w1 : (Jvm.Cond.methodLink y.cls idx z).before a0 Z = true) (w2 : (Jvm.Cond.instanceMethod z).before a0 Z = true) (w3 : (Jvm.Cond.initialized z.cls).before a0 Z = true) (w4 : (Jvm.Cond.code z bytes mx none).before a0 Z = true)
    (hsig : parseMethodDescriptor z.desc = some ⟨ps, rr⟩) (hM : OMeets l Z z bytes mx none rm [.ref b, x1, x2, x3, x4, x5, x6] os (RetN q)) (k : ∀ os', q os' → WP X Z rc rs Q pc' L S os' (ce + rm.cells) (sl + rm.slots)) (hz1 : z.name = "<init>" := by rfl) (hlen : ([x1, x2, x3, x4, x5, x6] : List Value).length = ps.length := by rfl) (hsz : L.length = maxL := by rfl) (hf : rm.frames + 1 ≤ R.frames := by decide) (hl : (S.map fun v => v.category).sum + (mx + 11) + rm.locals ≤ R.locals := by exact Nat.le_of_ble_eq_true rfl)
    (hc : ce + rm.cells ≤ R.cells := by decide) (hs : sl + rm.slots ≤ R.slots := by decide) (hy : z.cls ≠ "java/lang/invoke/MethodHandle" ∧ z.cls ≠ "java/lang/invoke/VarHandle" := by decide) (hp : pc + 3 = pc' := by rfl) : WP X Z rc rs Q pc L (x6 :: x5 :: x4 :: x3 :: x2 :: x1 :: .ref b :: S) os ce sl :=
  W.callIn (argsL := [x1, x2, x3, x4, x5, x6]) (S := S) K pc' hd w1 w2 w3 w4 hsig hM k hz1 rfl hlen hsz hf hl hc hs hy hp
theorem W.callIn7 {idx mx : Nat} {z : MethodName} {bytes : ByteArray} {rm : Room} {ps : List FieldType} {rr : Option FieldType} {b : Addr} {x1 x2 x3 x4 x5 x6 x7 : Value} {q : OS → Prop} (K : Ctx X l Z R y code maxL ret) (pc' : Nat) (hd : decode code pc = .ok (.invokespecial idx, 3)) (w1 : (Jvm.Cond.methodLink y.cls idx z).before a0 Z = true) (w2 : (Jvm.Cond.instanceMethod z).before a0 Z = true) (w3 : (Jvm.Cond.initialized z.cls).before a0 Z = true) (w4 : (Jvm.Cond.code z bytes mx none).before a0 Z = true)
    (hsig : parseMethodDescriptor z.desc = some ⟨ps, rr⟩) (hM : OMeets l Z z bytes mx none rm [.ref b, x1, x2, x3, x4, x5, x6, x7] os (RetN q)) (k : ∀ os', q os' → WP X Z rc rs Q pc' L S os' (ce + rm.cells) (sl + rm.slots)) (hz1 : z.name = "<init>" := by rfl) (hlen : ([x1, x2, x3, x4, x5, x6, x7] : List Value).length = ps.length := by rfl) (hsz : L.length = maxL := by rfl) (hf : rm.frames + 1 ≤ R.frames := by decide) (hl : (S.map fun v => v.category).sum + (mx + 11) + rm.locals ≤ R.locals := by exact Nat.le_of_ble_eq_true rfl)
    (hc : ce + rm.cells ≤ R.cells := by decide) (hs : sl + rm.slots ≤ R.slots := by decide) (hy : z.cls ≠ "java/lang/invoke/MethodHandle" ∧ z.cls ≠ "java/lang/invoke/VarHandle" := by decide) (hp : pc + 3 = pc' := by rfl) : WP X Z rc rs Q pc L (x7 :: x6 :: x5 :: x4 :: x3 :: x2 :: x1 :: .ref b :: S) os ce sl :=
  W.callIn (argsL := [x1, x2, x3, x4, x5, x6, x7]) (S := S) K pc' hd w1 w2 w3 w4 hsig hM k hz1 rfl hlen hsz hf hl hc hs hy hp
theorem W.callVv0 {idx mx : Nat} {z : MethodName} {bytes : ByteArray} {rt : Option FieldType} {C : String} {rm : Room} {ps : List FieldType} {rr : Option FieldType} {b : Addr} {q : Value → OS → Prop} (K : Ctx X l Z R y code maxL ret) (pc' : Nat) (hd : decode code pc = .ok (.invokevirtual idx, 3)) (w1 : (Jvm.Cond.methodLink y.cls idx z).before a0 Z = true) (w2 : (Jvm.Cond.declares z).before a0 Z = true) (w5 : (Jvm.Cond.selects C z z).before a0 Z = true) (w6 : (Jvm.Cond.instanceMethod z).before a0 Z = true) (w3 : (Jvm.Cond.initialized z.cls).before a0 Z = true) (w4 : (Jvm.Cond.code z bytes mx rt).before a0 Z = true)
    (hsig : parseMethodDescriptor z.desc = some ⟨ps, rr⟩) (hrc : ∀ h, Hp Z h os → Exa Z h b C) (hM : OMeets l Z z bytes mx rt rm [.ref b] os (RetV q)) (k : ∀ v os', q v os' → WP X Z rc rs Q pc' L (v :: S) os' (ce + rm.cells) (sl + rm.slots)) (hlen : ([] : List Value).length = ps.length := by rfl) (hsz : L.length = maxL := by rfl) (hf : rm.frames + 1 ≤ R.frames := by decide) (hl : (S.map fun v => v.category).sum + (mx + 11) + rm.locals ≤ R.locals := by exact Nat.le_of_ble_eq_true rfl)
    (hc : ce + rm.cells ≤ R.cells := by decide) (hs : sl + rm.slots ≤ R.slots := by decide) (hy : z.cls ≠ "java/lang/invoke/MethodHandle" ∧ z.cls ≠ "java/lang/invoke/VarHandle" := by decide) (hp : pc + 3 = pc' := by rfl) : WP X Z rc rs Q pc L (.ref b :: S) os ce sl :=
  W.callVv (argsL := []) (S := S) K pc' hd w1 w2 w5 w6 w3 w4 hsig hrc hM k rfl hlen hsz hf hl hc hs hy hp
theorem W.callVv1 {idx mx : Nat} {z : MethodName} {bytes : ByteArray} {rt : Option FieldType} {C : String} {rm : Room} {ps : List FieldType} {rr : Option FieldType} {b : Addr} {x1 : Value} {q : Value → OS → Prop} (K : Ctx X l Z R y code maxL ret) (pc' : Nat) (hd : decode code pc = .ok (.invokevirtual idx, 3)) (w1 : (Jvm.Cond.methodLink y.cls idx z).before a0 Z = true) (w2 : (Jvm.Cond.declares z).before a0 Z = true) (w5 : (Jvm.Cond.selects C z z).before a0 Z = true) (w6 : (Jvm.Cond.instanceMethod z).before a0 Z = true) (w3 : (Jvm.Cond.initialized z.cls).before a0 Z = true) (w4 : (Jvm.Cond.code z bytes mx rt).before a0 Z = true)
    (hsig : parseMethodDescriptor z.desc = some ⟨ps, rr⟩) (hrc : ∀ h, Hp Z h os → Exa Z h b C) (hM : OMeets l Z z bytes mx rt rm [.ref b, x1] os (RetV q)) (k : ∀ v os', q v os' → WP X Z rc rs Q pc' L (v :: S) os' (ce + rm.cells) (sl + rm.slots)) (hlen : ([x1] : List Value).length = ps.length := by rfl) (hsz : L.length = maxL := by rfl) (hf : rm.frames + 1 ≤ R.frames := by decide) (hl : (S.map fun v => v.category).sum + (mx + 11) + rm.locals ≤ R.locals := by exact Nat.le_of_ble_eq_true rfl)
    (hc : ce + rm.cells ≤ R.cells := by decide) (hs : sl + rm.slots ≤ R.slots := by decide) (hy : z.cls ≠ "java/lang/invoke/MethodHandle" ∧ z.cls ≠ "java/lang/invoke/VarHandle" := by decide) (hp : pc + 3 = pc' := by rfl) : WP X Z rc rs Q pc L (x1 :: .ref b :: S) os ce sl :=
  W.callVv (argsL := [x1]) (S := S) K pc' hd w1 w2 w5 w6 w3 w4 hsig hrc hM k rfl hlen hsz hf hl hc hs hy hp
theorem W.callVv2 {idx mx : Nat} {z : MethodName} {bytes : ByteArray} {rt : Option FieldType} {C : String} {rm : Room} {ps : List FieldType} {rr : Option FieldType} {b : Addr} {x1 x2 : Value} {q : Value → OS → Prop} (K : Ctx X l Z R y code maxL ret) (pc' : Nat) (hd : decode code pc = .ok (.invokevirtual idx, 3)) (w1 : (Jvm.Cond.methodLink y.cls idx z).before a0 Z = true) (w2 : (Jvm.Cond.declares z).before a0 Z = true) (w5 : (Jvm.Cond.selects C z z).before a0 Z = true) (w6 : (Jvm.Cond.instanceMethod z).before a0 Z = true) (w3 : (Jvm.Cond.initialized z.cls).before a0 Z = true) (w4 : (Jvm.Cond.code z bytes mx rt).before a0 Z = true)
    (hsig : parseMethodDescriptor z.desc = some ⟨ps, rr⟩) (hrc : ∀ h, Hp Z h os → Exa Z h b C) (hM : OMeets l Z z bytes mx rt rm [.ref b, x1, x2] os (RetV q)) (k : ∀ v os', q v os' → WP X Z rc rs Q pc' L (v :: S) os' (ce + rm.cells) (sl + rm.slots)) (hlen : ([x1, x2] : List Value).length = ps.length := by rfl) (hsz : L.length = maxL := by rfl) (hf : rm.frames + 1 ≤ R.frames := by decide) (hl : (S.map fun v => v.category).sum + (mx + 11) + rm.locals ≤ R.locals := by exact Nat.le_of_ble_eq_true rfl)
    (hc : ce + rm.cells ≤ R.cells := by decide) (hs : sl + rm.slots ≤ R.slots := by decide) (hy : z.cls ≠ "java/lang/invoke/MethodHandle" ∧ z.cls ≠ "java/lang/invoke/VarHandle" := by decide) (hp : pc + 3 = pc' := by rfl) : WP X Z rc rs Q pc L (x2 :: x1 :: .ref b :: S) os ce sl :=
  W.callVv (argsL := [x1, x2]) (S := S) K pc' hd w1 w2 w5 w6 w3 w4 hsig hrc hM k rfl hlen hsz hf hl hc hs hy hp
theorem W.callVv3 {idx mx : Nat} {z : MethodName} {bytes : ByteArray} {rt : Option FieldType} {C : String} {rm : Room} {ps : List FieldType} {rr : Option FieldType} {b : Addr} {x1 x2 x3 : Value} {q : Value → OS → Prop} (K : Ctx X l Z R y code maxL ret) (pc' : Nat) (hd : decode code pc = .ok (.invokevirtual idx, 3)) (w1 : (Jvm.Cond.methodLink y.cls idx z).before a0 Z = true) (w2 : (Jvm.Cond.declares z).before a0 Z = true) (w5 : (Jvm.Cond.selects C z z).before a0 Z = true) (w6 : (Jvm.Cond.instanceMethod z).before a0 Z = true) (w3 : (Jvm.Cond.initialized z.cls).before a0 Z = true) (w4 : (Jvm.Cond.code z bytes mx rt).before a0 Z = true)
    (hsig : parseMethodDescriptor z.desc = some ⟨ps, rr⟩) (hrc : ∀ h, Hp Z h os → Exa Z h b C) (hM : OMeets l Z z bytes mx rt rm [.ref b, x1, x2, x3] os (RetV q)) (k : ∀ v os', q v os' → WP X Z rc rs Q pc' L (v :: S) os' (ce + rm.cells) (sl + rm.slots)) (hlen : ([x1, x2, x3] : List Value).length = ps.length := by rfl) (hsz : L.length = maxL := by rfl) (hf : rm.frames + 1 ≤ R.frames := by decide) (hl : (S.map fun v => v.category).sum + (mx + 11) + rm.locals ≤ R.locals := by exact Nat.le_of_ble_eq_true rfl)
    (hc : ce + rm.cells ≤ R.cells := by decide) (hs : sl + rm.slots ≤ R.slots := by decide) (hy : z.cls ≠ "java/lang/invoke/MethodHandle" ∧ z.cls ≠ "java/lang/invoke/VarHandle" := by decide) (hp : pc + 3 = pc' := by rfl) : WP X Z rc rs Q pc L (x3 :: x2 :: x1 :: .ref b :: S) os ce sl :=
  W.callVv (argsL := [x1, x2, x3]) (S := S) K pc' hd w1 w2 w5 w6 w3 w4 hsig hrc hM k rfl hlen hsz hf hl hc hs hy hp
theorem W.callVv4 {idx mx : Nat} {z : MethodName} {bytes : ByteArray} {rt : Option FieldType} {C : String} {rm : Room} {ps : List FieldType} {rr : Option FieldType} {b : Addr} {x1 x2 x3 x4 : Value} {q : Value → OS → Prop} (K : Ctx X l Z R y code maxL ret) (pc' : Nat) (hd : decode code pc = .ok (.invokevirtual idx, 3)) (w1 : (Jvm.Cond.methodLink y.cls idx z).before a0 Z = true) (w2 : (Jvm.Cond.declares z).before a0 Z = true) (w5 : (Jvm.Cond.selects C z z).before a0 Z = true) (w6 : (Jvm.Cond.instanceMethod z).before a0 Z = true) (w3 : (Jvm.Cond.initialized z.cls).before a0 Z = true) (w4 : (Jvm.Cond.code z bytes mx rt).before a0 Z = true)
    (hsig : parseMethodDescriptor z.desc = some ⟨ps, rr⟩) (hrc : ∀ h, Hp Z h os → Exa Z h b C) (hM : OMeets l Z z bytes mx rt rm [.ref b, x1, x2, x3, x4] os (RetV q)) (k : ∀ v os', q v os' → WP X Z rc rs Q pc' L (v :: S) os' (ce + rm.cells) (sl + rm.slots)) (hlen : ([x1, x2, x3, x4] : List Value).length = ps.length := by rfl) (hsz : L.length = maxL := by rfl) (hf : rm.frames + 1 ≤ R.frames := by decide) (hl : (S.map fun v => v.category).sum + (mx + 11) + rm.locals ≤ R.locals := by exact Nat.le_of_ble_eq_true rfl)
    (hc : ce + rm.cells ≤ R.cells := by decide) (hs : sl + rm.slots ≤ R.slots := by decide) (hy : z.cls ≠ "java/lang/invoke/MethodHandle" ∧ z.cls ≠ "java/lang/invoke/VarHandle" := by decide) (hp : pc + 3 = pc' := by rfl) : WP X Z rc rs Q pc L (x4 :: x3 :: x2 :: x1 :: .ref b :: S) os ce sl :=
  W.callVv (argsL := [x1, x2, x3, x4]) (S := S) K pc' hd w1 w2 w5 w6 w3 w4 hsig hrc hM k rfl hlen hsz hf hl hc hs hy hp
theorem W.callVv5 {idx mx : Nat} {z : MethodName} {bytes : ByteArray} {rt : Option FieldType} {C : String} {rm : Room} {ps : List FieldType} {rr : Option FieldType} {b : Addr} {x1 x2 x3 x4 x5 : Value} {q : Value → OS → Prop} (K : Ctx X l Z R y code maxL ret) (pc' : Nat) (hd : decode code pc = .ok (.invokevirtual idx, 3)) (w1 : (Jvm.Cond.methodLink y.cls idx z).before a0 Z = true) (w2 : (Jvm.Cond.declares z).before a0 Z = true) (w5 : (Jvm.Cond.selects C z z).before a0 Z = true) (w6 : (Jvm.Cond.instanceMethod z).before a0 Z = true) (w3 : (Jvm.Cond.initialized z.cls).before a0 Z = true) (w4 : (Jvm.Cond.code z bytes mx rt).before a0 Z = true)
    (hsig : parseMethodDescriptor z.desc = some ⟨ps, rr⟩) (hrc : ∀ h, Hp Z h os → Exa Z h b C) (hM : OMeets l Z z bytes mx rt rm [.ref b, x1, x2, x3, x4, x5] os (RetV q)) (k : ∀ v os', q v os' → WP X Z rc rs Q pc' L (v :: S) os' (ce + rm.cells) (sl + rm.slots)) (hlen : ([x1, x2, x3, x4, x5] : List Value).length = ps.length := by rfl) (hsz : L.length = maxL := by rfl) (hf : rm.frames + 1 ≤ R.frames := by decide) (hl : (S.map fun v => v.category).sum + (mx + 11) + rm.locals ≤ R.locals := by exact Nat.le_of_ble_eq_true rfl)
    (hc : ce + rm.cells ≤ R.cells := by decide) (hs : sl + rm.slots ≤ R.slots := by decide) (hy : z.cls ≠ "java/lang/invoke/MethodHandle" ∧ z.cls ≠ "java/lang/invoke/VarHandle" := by decide) (hp : pc + 3 = pc' := by rfl) : WP X Z rc rs Q pc L (x5 :: x4 :: x3 :: x2 :: x1 :: .ref b :: S) os ce sl :=
  W.callVv (argsL := [x1, x2, x3, x4, x5]) (S := S) K pc' hd w1 w2 w5 w6 w3 w4 hsig hrc hM k rfl hlen hsz hf hl hc hs hy hp
theorem W.callVv6 {idx mx : Nat} {z : MethodName} {bytes : ByteArray} {rt : Option FieldType} {C : String} {rm : Room} {ps : List FieldType} {rr : Option FieldType} {b : Addr} {x1 x2 x3 x4 x5 x6 : Value} {q : Value → OS → Prop} (K : Ctx X l Z R y code maxL ret) (pc' : Nat) (hd : decode code pc = .ok (.invokevirtual idx, 3)) (w1 : (Jvm.Cond.methodLink y.cls idx z).before a0 Z = true) (w2 : (Jvm.Cond.declares z).before a0 Z = true) (w5 : (Jvm.Cond.selects C z z).before a0 Z = true) (w6 : (Jvm.Cond.instanceMethod z).before a0 Z = true) (w3 : (Jvm.Cond.initialized z.cls).before a0 Z = true) (w4 : (Jvm.Cond.code z bytes mx rt).before a0 Z = true)
    (hsig : parseMethodDescriptor z.desc = some ⟨ps, rr⟩) (hrc : ∀ h, Hp Z h os → Exa Z h b C) (hM : OMeets l Z z bytes mx rt rm [.ref b, x1, x2, x3, x4, x5, x6] os (RetV q)) (k : ∀ v os', q v os' → WP X Z rc rs Q pc' L (v :: S) os' (ce + rm.cells) (sl + rm.slots)) (hlen : ([x1, x2, x3, x4, x5, x6] : List Value).length = ps.length := by rfl) (hsz : L.length = maxL := by rfl) (hf : rm.frames + 1 ≤ R.frames := by decide) (hl : (S.map fun v => v.category).sum + (mx + 11) + rm.locals ≤ R.locals := by exact Nat.le_of_ble_eq_true rfl)
    (hc : ce + rm.cells ≤ R.cells := by decide) (hs : sl + rm.slots ≤ R.slots := by decide) (hy : z.cls ≠ "java/lang/invoke/MethodHandle" ∧ z.cls ≠ "java/lang/invoke/VarHandle" := by decide) (hp : pc + 3 = pc' := by rfl) : WP X Z rc rs Q pc L (x6 :: x5 :: x4 :: x3 :: x2 :: x1 :: .ref b :: S) os ce sl :=
  W.callVv (argsL := [x1, x2, x3, x4, x5, x6]) (S := S) K pc' hd w1 w2 w5 w6 w3 w4 hsig hrc hM k rfl hlen hsz hf hl hc hs hy hp
theorem W.callVv7 {idx mx : Nat} {z : MethodName} {bytes : ByteArray} {rt : Option FieldType} {C : String} {rm : Room} {ps : List FieldType} {rr : Option FieldType} {b : Addr} {x1 x2 x3 x4 x5 x6 x7 : Value} {q : Value → OS → Prop} (K : Ctx X l Z R y code maxL ret) (pc' : Nat) (hd : decode code pc = .ok (.invokevirtual idx, 3)) (w1 : (Jvm.Cond.methodLink y.cls idx z).before a0 Z = true) (w2 : (Jvm.Cond.declares z).before a0 Z = true) (w5 : (Jvm.Cond.selects C z z).before a0 Z = true) (w6 : (Jvm.Cond.instanceMethod z).before a0 Z = true) (w3 : (Jvm.Cond.initialized z.cls).before a0 Z = true) (w4 : (Jvm.Cond.code z bytes mx rt).before a0 Z = true)
    (hsig : parseMethodDescriptor z.desc = some ⟨ps, rr⟩) (hrc : ∀ h, Hp Z h os → Exa Z h b C) (hM : OMeets l Z z bytes mx rt rm [.ref b, x1, x2, x3, x4, x5, x6, x7] os (RetV q)) (k : ∀ v os', q v os' → WP X Z rc rs Q pc' L (v :: S) os' (ce + rm.cells) (sl + rm.slots)) (hlen : ([x1, x2, x3, x4, x5, x6, x7] : List Value).length = ps.length := by rfl) (hsz : L.length = maxL := by rfl) (hf : rm.frames + 1 ≤ R.frames := by decide) (hl : (S.map fun v => v.category).sum + (mx + 11) + rm.locals ≤ R.locals := by exact Nat.le_of_ble_eq_true rfl)
    (hc : ce + rm.cells ≤ R.cells := by decide) (hs : sl + rm.slots ≤ R.slots := by decide) (hy : z.cls ≠ "java/lang/invoke/MethodHandle" ∧ z.cls ≠ "java/lang/invoke/VarHandle" := by decide) (hp : pc + 3 = pc' := by rfl) : WP X Z rc rs Q pc L (x7 :: x6 :: x5 :: x4 :: x3 :: x2 :: x1 :: .ref b :: S) os ce sl :=
  W.callVv (argsL := [x1, x2, x3, x4, x5, x6, x7]) (S := S) K pc' hd w1 w2 w5 w6 w3 w4 hsig hrc hM k rfl hlen hsz hf hl hc hs hy hp
theorem W.callVn0 {idx mx : Nat} {z : MethodName} {bytes : ByteArray} {rt : Option FieldType} {C : String} {rm : Room} {ps : List FieldType} {rr : Option FieldType} {b : Addr} {q : OS → Prop} (K : Ctx X l Z R y code maxL ret) (pc' : Nat) (hd : decode code pc = .ok (.invokevirtual idx, 3)) (w1 : (Jvm.Cond.methodLink y.cls idx z).before a0 Z = true) (w2 : (Jvm.Cond.declares z).before a0 Z = true) (w5 : (Jvm.Cond.selects C z z).before a0 Z = true) (w6 : (Jvm.Cond.instanceMethod z).before a0 Z = true) (w3 : (Jvm.Cond.initialized z.cls).before a0 Z = true) (w4 : (Jvm.Cond.code z bytes mx rt).before a0 Z = true)
    (hsig : parseMethodDescriptor z.desc = some ⟨ps, rr⟩) (hrc : ∀ h, Hp Z h os → Exa Z h b C) (hM : OMeets l Z z bytes mx rt rm [.ref b] os (RetN q)) (k : ∀ os', q os' → WP X Z rc rs Q pc' L S os' (ce + rm.cells) (sl + rm.slots)) (hlen : ([] : List Value).length = ps.length := by rfl) (hsz : L.length = maxL := by rfl) (hf : rm.frames + 1 ≤ R.frames := by decide) (hl : (S.map fun v => v.category).sum + (mx + 11) + rm.locals ≤ R.locals := by exact Nat.le_of_ble_eq_true rfl)
    (hc : ce + rm.cells ≤ R.cells := by decide) (hs : sl + rm.slots ≤ R.slots := by decide) (hy : z.cls ≠ "java/lang/invoke/MethodHandle" ∧ z.cls ≠ "java/lang/invoke/VarHandle" := by decide) (hp : pc + 3 = pc' := by rfl) : WP X Z rc rs Q pc L (.ref b :: S) os ce sl :=
  W.callVn (argsL := []) (S := S) K pc' hd w1 w2 w5 w6 w3 w4 hsig hrc hM k rfl hlen hsz hf hl hc hs hy hp
theorem W.callVn1 {idx mx : Nat} {z : MethodName} {bytes : ByteArray} {rt : Option FieldType} {C : String} {rm : Room} {ps : List FieldType} {rr : Option FieldType} {b : Addr} {x1 : Value} {q : OS → Prop} (K : Ctx X l Z R y code maxL ret) (pc' : Nat) (hd : decode code pc = .ok (.invokevirtual idx, 3)) (w1 : (Jvm.Cond.methodLink y.cls idx z).before a0 Z = true) (w2 : (Jvm.Cond.declares z).before a0 Z = true) (w5 : (Jvm.Cond.selects C z z).before a0 Z = true) (w6 : (Jvm.Cond.instanceMethod z).before a0 Z = true) (w3 : (Jvm.Cond.initialized z.cls).before a0 Z = true) (w4 : (Jvm.Cond.code z bytes mx rt).before a0 Z = true)
    (hsig : parseMethodDescriptor z.desc = some ⟨ps, rr⟩) (hrc : ∀ h, Hp Z h os → Exa Z h b C) (hM : OMeets l Z z bytes mx rt rm [.ref b, x1] os (RetN q)) (k : ∀ os', q os' → WP X Z rc rs Q pc' L S os' (ce + rm.cells) (sl + rm.slots)) (hlen : ([x1] : List Value).length = ps.length := by rfl) (hsz : L.length = maxL := by rfl) (hf : rm.frames + 1 ≤ R.frames := by decide) (hl : (S.map fun v => v.category).sum + (mx + 11) + rm.locals ≤ R.locals := by exact Nat.le_of_ble_eq_true rfl)
    (hc : ce + rm.cells ≤ R.cells := by decide) (hs : sl + rm.slots ≤ R.slots := by decide) (hy : z.cls ≠ "java/lang/invoke/MethodHandle" ∧ z.cls ≠ "java/lang/invoke/VarHandle" := by decide) (hp : pc + 3 = pc' := by rfl) : WP X Z rc rs Q pc L (x1 :: .ref b :: S) os ce sl :=
  W.callVn (argsL := [x1]) (S := S) K pc' hd w1 w2 w5 w6 w3 w4 hsig hrc hM k rfl hlen hsz hf hl hc hs hy hp
theorem W.callVn2 {idx mx : Nat} {z : MethodName} {bytes : ByteArray} {rt : Option FieldType} {C : String} {rm : Room} {ps : List FieldType} {rr : Option FieldType} {b : Addr} {x1 x2 : Value} {q : OS → Prop} (K : Ctx X l Z R y code maxL ret) (pc' : Nat) (hd : decode code pc = .ok (.invokevirtual idx, 3)) (w1 : (Jvm.Cond.methodLink y.cls idx z).before a0 Z = true) (w2 : (Jvm.Cond.declares z).before a0 Z = true) (w5 : (Jvm.Cond.selects C z z).before a0 Z = true) (w6 : (Jvm.Cond.instanceMethod z).before a0 Z = true) (w3 : (Jvm.Cond.initialized z.cls).before a0 Z = true) (w4 : (Jvm.Cond.code z bytes mx rt).before a0 Z = true)
    (hsig : parseMethodDescriptor z.desc = some ⟨ps, rr⟩) (hrc : ∀ h, Hp Z h os → Exa Z h b C) (hM : OMeets l Z z bytes mx rt rm [.ref b, x1, x2] os (RetN q)) (k : ∀ os', q os' → WP X Z rc rs Q pc' L S os' (ce + rm.cells) (sl + rm.slots)) (hlen : ([x1, x2] : List Value).length = ps.length := by rfl) (hsz : L.length = maxL := by rfl) (hf : rm.frames + 1 ≤ R.frames := by decide) (hl : (S.map fun v => v.category).sum + (mx + 11) + rm.locals ≤ R.locals := by exact Nat.le_of_ble_eq_true rfl)
    (hc : ce + rm.cells ≤ R.cells := by decide) (hs : sl + rm.slots ≤ R.slots := by decide) (hy : z.cls ≠ "java/lang/invoke/MethodHandle" ∧ z.cls ≠ "java/lang/invoke/VarHandle" := by decide) (hp : pc + 3 = pc' := by rfl) : WP X Z rc rs Q pc L (x2 :: x1 :: .ref b :: S) os ce sl :=
  W.callVn (argsL := [x1, x2]) (S := S) K pc' hd w1 w2 w5 w6 w3 w4 hsig hrc hM k rfl hlen hsz hf hl hc hs hy hp
theorem W.callVn3 {idx mx : Nat} {z : MethodName} {bytes : ByteArray} {rt : Option FieldType} {C : String} {rm : Room} {ps : List FieldType} {rr : Option FieldType} {b : Addr} {x1 x2 x3 : Value} {q : OS → Prop} (K : Ctx X l Z R y code maxL ret) (pc' : Nat) (hd : decode code pc = .ok (.invokevirtual idx, 3)) (w1 : (Jvm.Cond.methodLink y.cls idx z).before a0 Z = true) (w2 : (Jvm.Cond.declares z).before a0 Z = true) (w5 : (Jvm.Cond.selects C z z).before a0 Z = true) (w6 : (Jvm.Cond.instanceMethod z).before a0 Z = true) (w3 : (Jvm.Cond.initialized z.cls).before a0 Z = true) (w4 : (Jvm.Cond.code z bytes mx rt).before a0 Z = true)
    (hsig : parseMethodDescriptor z.desc = some ⟨ps, rr⟩) (hrc : ∀ h, Hp Z h os → Exa Z h b C) (hM : OMeets l Z z bytes mx rt rm [.ref b, x1, x2, x3] os (RetN q)) (k : ∀ os', q os' → WP X Z rc rs Q pc' L S os' (ce + rm.cells) (sl + rm.slots)) (hlen : ([x1, x2, x3] : List Value).length = ps.length := by rfl) (hsz : L.length = maxL := by rfl) (hf : rm.frames + 1 ≤ R.frames := by decide) (hl : (S.map fun v => v.category).sum + (mx + 11) + rm.locals ≤ R.locals := by exact Nat.le_of_ble_eq_true rfl)
    (hc : ce + rm.cells ≤ R.cells := by decide) (hs : sl + rm.slots ≤ R.slots := by decide) (hy : z.cls ≠ "java/lang/invoke/MethodHandle" ∧ z.cls ≠ "java/lang/invoke/VarHandle" := by decide) (hp : pc + 3 = pc' := by rfl) : WP X Z rc rs Q pc L (x3 :: x2 :: x1 :: .ref b :: S) os ce sl :=
  W.callVn (argsL := [x1, x2, x3]) (S := S) K pc' hd w1 w2 w5 w6 w3 w4 hsig hrc hM k rfl hlen hsz hf hl hc hs hy hp
theorem W.callVn4 {idx mx : Nat} {z : MethodName} {bytes : ByteArray} {rt : Option FieldType} {C : String} {rm : Room} {ps : List FieldType} {rr : Option FieldType} {b : Addr} {x1 x2 x3 x4 : Value} {q : OS → Prop} (K : Ctx X l Z R y code maxL ret) (pc' : Nat) (hd : decode code pc = .ok (.invokevirtual idx, 3)) (w1 : (Jvm.Cond.methodLink y.cls idx z).before a0 Z = true) (w2 : (Jvm.Cond.declares z).before a0 Z = true) (w5 : (Jvm.Cond.selects C z z).before a0 Z = true) (w6 : (Jvm.Cond.instanceMethod z).before a0 Z = true) (w3 : (Jvm.Cond.initialized z.cls).before a0 Z = true) (w4 : (Jvm.Cond.code z bytes mx rt).before a0 Z = true)
    (hsig : parseMethodDescriptor z.desc = some ⟨ps, rr⟩) (hrc : ∀ h, Hp Z h os → Exa Z h b C) (hM : OMeets l Z z bytes mx rt rm [.ref b, x1, x2, x3, x4] os (RetN q)) (k : ∀ os', q os' → WP X Z rc rs Q pc' L S os' (ce + rm.cells) (sl + rm.slots)) (hlen : ([x1, x2, x3, x4] : List Value).length = ps.length := by rfl) (hsz : L.length = maxL := by rfl) (hf : rm.frames + 1 ≤ R.frames := by decide) (hl : (S.map fun v => v.category).sum + (mx + 11) + rm.locals ≤ R.locals := by exact Nat.le_of_ble_eq_true rfl)
    (hc : ce + rm.cells ≤ R.cells := by decide) (hs : sl + rm.slots ≤ R.slots := by decide) (hy : z.cls ≠ "java/lang/invoke/MethodHandle" ∧ z.cls ≠ "java/lang/invoke/VarHandle" := by decide) (hp : pc + 3 = pc' := by rfl) : WP X Z rc rs Q pc L (x4 :: x3 :: x2 :: x1 :: .ref b :: S) os ce sl :=
  W.callVn (argsL := [x1, x2, x3, x4]) (S := S) K pc' hd w1 w2 w5 w6 w3 w4 hsig hrc hM k rfl hlen hsz hf hl hc hs hy hp
theorem W.callVn5 {idx mx : Nat} {z : MethodName} {bytes : ByteArray} {rt : Option FieldType} {C : String} {rm : Room} {ps : List FieldType} {rr : Option FieldType} {b : Addr} {x1 x2 x3 x4 x5 : Value} {q : OS → Prop} (K : Ctx X l Z R y code maxL ret) (pc' : Nat) (hd : decode code pc = .ok (.invokevirtual idx, 3)) (w1 : (Jvm.Cond.methodLink y.cls idx z).before a0 Z = true) (w2 : (Jvm.Cond.declares z).before a0 Z = true) (w5 : (Jvm.Cond.selects C z z).before a0 Z = true) (w6 : (Jvm.Cond.instanceMethod z).before a0 Z = true) (w3 : (Jvm.Cond.initialized z.cls).before a0 Z = true) (w4 : (Jvm.Cond.code z bytes mx rt).before a0 Z = true)
    (hsig : parseMethodDescriptor z.desc = some ⟨ps, rr⟩) (hrc : ∀ h, Hp Z h os → Exa Z h b C) (hM : OMeets l Z z bytes mx rt rm [.ref b, x1, x2, x3, x4, x5] os (RetN q)) (k : ∀ os', q os' → WP X Z rc rs Q pc' L S os' (ce + rm.cells) (sl + rm.slots)) (hlen : ([x1, x2, x3, x4, x5] : List Value).length = ps.length := by rfl) (hsz : L.length = maxL := by rfl) (hf : rm.frames + 1 ≤ R.frames := by decide) (hl : (S.map fun v => v.category).sum + (mx + 11) + rm.locals ≤ R.locals := by exact Nat.le_of_ble_eq_true rfl)
    (hc : ce + rm.cells ≤ R.cells := by decide) (hs : sl + rm.slots ≤ R.slots := by decide) (hy : z.cls ≠ "java/lang/invoke/MethodHandle" ∧ z.cls ≠ "java/lang/invoke/VarHandle" := by decide) (hp : pc + 3 = pc' := by rfl) : WP X Z rc rs Q pc L (x5 :: x4 :: x3 :: x2 :: x1 :: .ref b :: S) os ce sl :=
  W.callVn (argsL := [x1, x2, x3, x4, x5]) (S := S) K pc' hd w1 w2 w5 w6 w3 w4 hsig hrc hM k rfl hlen hsz hf hl hc hs hy hp
theorem W.callVn6 {idx mx : Nat} {z : MethodName} {bytes : ByteArray} {rt : Option FieldType} {C : String} {rm : Room} {ps : List FieldType} {rr : Option FieldType} {b : Addr} {x1 x2 x3 x4 x5 x6 : Value} {q : OS → Prop} (K : Ctx X l Z R y code maxL ret) (pc' : Nat) (hd : decode code pc = .ok (.invokevirtual idx, 3)) (w1 : (Jvm.Cond.methodLink y.cls idx z).before a0 Z = true) (w2 : (Jvm.Cond.declares z).before a0 Z = true) (w5 : (Jvm.Cond.selects C z z).before a0 Z = true) (w6 : (Jvm.Cond.instanceMethod z).before a0 Z = true) (w3 : (Jvm.Cond.initialized z.cls).before a0 Z = true) (w4 : (Jvm.Cond.code z bytes mx rt).before a0 Z = true)
    (hsig : parseMethodDescriptor z.desc = some ⟨ps, rr⟩) (hrc : ∀ h, Hp Z h os → Exa Z h b C) (hM : OMeets l Z z bytes mx rt rm [.ref b, x1, x2, x3, x4, x5, x6] os (RetN q)) (k : ∀ os', q os' → WP X Z rc rs Q pc' L S os' (ce + rm.cells) (sl + rm.slots)) (hlen : ([x1, x2, x3, x4, x5, x6] : List Value).length = ps.length := by rfl) (hsz : L.length = maxL := by rfl) (hf : rm.frames + 1 ≤ R.frames := by decide) (hl : (S.map fun v => v.category).sum + (mx + 11) + rm.locals ≤ R.locals := by exact Nat.le_of_ble_eq_true rfl)
    (hc : ce + rm.cells ≤ R.cells := by decide) (hs : sl + rm.slots ≤ R.slots := by decide) (hy : z.cls ≠ "java/lang/invoke/MethodHandle" ∧ z.cls ≠ "java/lang/invoke/VarHandle" := by decide) (hp : pc + 3 = pc' := by rfl) : WP X Z rc rs Q pc L (x6 :: x5 :: x4 :: x3 :: x2 :: x1 :: .ref b :: S) os ce sl :=
  W.callVn (argsL := [x1, x2, x3, x4, x5, x6]) (S := S) K pc' hd w1 w2 w5 w6 w3 w4 hsig hrc hM k rfl hlen hsz hf hl hc hs hy hp
theorem W.callVn7 {idx mx : Nat} {z : MethodName} {bytes : ByteArray} {rt : Option FieldType} {C : String} {rm : Room} {ps : List FieldType} {rr : Option FieldType} {b : Addr} {x1 x2 x3 x4 x5 x6 x7 : Value} {q : OS → Prop} (K : Ctx X l Z R y code maxL ret) (pc' : Nat) (hd : decode code pc = .ok (.invokevirtual idx, 3)) (w1 : (Jvm.Cond.methodLink y.cls idx z).before a0 Z = true) (w2 : (Jvm.Cond.declares z).before a0 Z = true) (w5 : (Jvm.Cond.selects C z z).before a0 Z = true) (w6 : (Jvm.Cond.instanceMethod z).before a0 Z = true) (w3 : (Jvm.Cond.initialized z.cls).before a0 Z = true) (w4 : (Jvm.Cond.code z bytes mx rt).before a0 Z = true)
    (hsig : parseMethodDescriptor z.desc = some ⟨ps, rr⟩) (hrc : ∀ h, Hp Z h os → Exa Z h b C) (hM : OMeets l Z z bytes mx rt rm [.ref b, x1, x2, x3, x4, x5, x6, x7] os (RetN q)) (k : ∀ os', q os' → WP X Z rc rs Q pc' L S os' (ce + rm.cells) (sl + rm.slots)) (hlen : ([x1, x2, x3, x4, x5, x6, x7] : List Value).length = ps.length := by rfl) (hsz : L.length = maxL := by rfl) (hf : rm.frames + 1 ≤ R.frames := by decide) (hl : (S.map fun v => v.category).sum + (mx + 11) + rm.locals ≤ R.locals := by exact Nat.le_of_ble_eq_true rfl)
    (hc : ce + rm.cells ≤ R.cells := by decide) (hs : sl + rm.slots ≤ R.slots := by decide) (hy : z.cls ≠ "java/lang/invoke/MethodHandle" ∧ z.cls ≠ "java/lang/invoke/VarHandle" := by decide) (hp : pc + 3 = pc' := by rfl) : WP X Z rc rs Q pc L (x7 :: x6 :: x5 :: x4 :: x3 :: x2 :: x1 :: .ref b :: S) os ce sl :=
  W.callVn (argsL := [x1, x2, x3, x4, x5, x6, x7]) (S := S) K pc' hd w1 w2 w5 w6 w3 w4 hsig hrc hM k rfl hlen hsz hf hl hc hs hy hp
theorem Rc.new {b : Addr} {C : String} {fs : List FV} (hm : (b, OBJ Z C fs) ∈ os) : ∀ h, Hp Z h os → Exa Z h b C := fun h H => by
  obtain ⟨-, c, hc, hO⟩ := H.get hm; exact hO.exa hc
theorem Rc.old {b : Addr} {C : String} (E : Exa Z Z.heap b C) : ∀ h, Hp Z h os → Exa Z h b C := fun h H => E.ext H.1
end Ops
end Jvm.OwnW
namespace Jvm.OwnW
open Sem ClassFile Op Lib Jvm.Stand Jvm.Free Jvm.LawKit Jvm.RoadKit
/-! arrays as functions -/
def AF {α : Type} (c : α → Value) (n : Nat) (F : Nat → α) : List Value := (List.range n).map fun i => c (F i)
def updA {α : Type} (F : Nat → α) (k : Nat) (v : α) : Nat → α := fun i => if i = k then v else F i
theorem updA_same {α : Type} (F : Nat → α) (k : Nat) (v : α) : updA F k v k = v := by simp [updA]
theorem updA_ne {α : Type} (F : Nat → α) {k i : Nat} (v : α) (h : i ≠ k) : updA F k v i = F i := by simp [updA, h]
theorem AF_len {α : Type} {c : α → Value} {n : Nat} {F : Nat → α} : (AF c n F).length = n := by simp [AF]
theorem AF_at {α : Type} {c : α → Value} {n : Nat} {F : Nat → α} {i : Nat} (h : i < n) : (AF c n F)[i]? = some (c (F i)) := by simp [AF, h]
theorem AF_out {α : Type} {c : α → Value} {n : Nat} {F : Nat → α} {i : Nat} (h : ¬ i < n) : (AF c n F)[i]? = none := by simp [AF]; omega
theorem AF_ext {α : Type} {c : α → Value} {n : Nat} {F G : Nat → α} (h : ∀ i, i < n → F i = G i) : AF c n F = AF c n G := by
  apply List.ext_getElem?
  intro i
  by_cases hi : i < n
  · rw [AF_at hi, AF_at hi, h i hi]
  · rw [AF_out hi, AF_out hi]
theorem AF_set {α : Type} {c : α → Value} {n : Nat} {F : Nat → α} {k : Nat} {v : α} : (AF c n F).set k (c v) = AF c n (updA F k v) := by
  apply List.ext_getElem?
  intro i
  rw [List.getElem?_set]
  by_cases hi : i < n
  · rw [AF_at hi, AF_at hi]
    by_cases e : k = i
    · subst e
      rw [if_pos rfl, if_pos (by rw [AF_len]; exact hi), updA_same]
    · rw [if_neg e, updA_ne _ _ (fun h => e h.symm)]
  · rw [AF_out hi, AF_out hi]
    split
    · rename_i e; subst e
      rw [if_neg (by rw [AF_len]; exact hi)]
    · rfl
theorem AF_rep {α : Type} {c : α → Value} {n : Nat} {v : α} : List.replicate n (c v) = AF c n (fun _ => v) := by
  apply List.ext_getElem?
  intro i
  by_cases hi : i < n
  · rw [AF_at hi]; simp [List.getElem?_replicate, hi]
  · rw [AF_out hi]; simp [List.getElem?_replicate, hi]
theorem AF_repI {n : Nat} : List.replicate n (defaultValue .int) = AF Value.int n (fun _ => 0) := AF_rep
theorem AF_repB {n : Nat} : List.replicate n (defaultValue .byte) = AF Value.int n (fun _ => 0) := AF_rep
theorem AF_repC {n : Nat} : List.replicate n (defaultValue .char) = AF Value.int n (fun _ => 0) := AF_rep
theorem AF_repJ {n : Nat} : List.replicate n (defaultValue .long) = AF Value.long n (fun _ => 0) := AF_rep
theorem AF_size {α : Type} {c : α → Value} {n : Nat} {F : Nat → α} {z : Int32} (h : z.toInt = (n : Int)) : (AF c n F).length.toInt32 = z := by
  rw [AF_len]
  apply Int32.toInt_inj.mp
  have h1 := rng32 z
  rw [len_toInt (by omega), h]
theorem toInt_add32 {x z : Int32} {a b : Int} (hx : x.toInt = a) (hz : z.toInt = b) (h1 : -2147483648 ≤ a + b) (h2 : a + b < 2147483648) : (x + z).toInt = a + b := by
  have q := c_iadd x z; have r := rng32 (x + z); omega
theorem toInt_sub32 {x z : Int32} {a b : Int} (hx : x.toInt = a) (hz : z.toInt = b) (h1 : -2147483648 ≤ a - b) (h2 : a - b < 2147483648) : (x - z).toInt = a - b := by
  have q := c_isub x z; have r := rng32 (x - z); omega
theorem toInt_add64 {x z : Int64} {a b : Int} (hx : x.toInt = a) (hz : z.toInt = b) (h1 : -9223372036854775808 ≤ a + b) (h2 : a + b < 9223372036854775808) : (x + z).toInt = a + b := by
  have q := c_ladd x z; have r := rng64 (x + z); omega
theorem toInt_sub64 {x z : Int64} {a b : Int} (hx : x.toInt = a) (hz : z.toInt = b) (h1 : -9223372036854775808 ≤ a - b) (h2 : a - b < 9223372036854775808) : (x - z).toInt = a - b := by
  have q := c_lsub x z; have r := rng64 (x - z); omega
section Old
variable {X : Cx} {l : Launch} {Z : State} {R : Room} {y : MethodName} {code : ByteArray} {maxL : Nat} {ret : Option FieldType} {rc rs : Nat} {Q : Option Value → OS → Prop} {pc : Nat} {L : List Slot} {S : List Value} {os os' : OS} {ce sl : Nat} {a0 : Array Value}
/-- an array that stood at the start -/
theorem W.baloadO {a : Addr} {cl : Cell} {j : Int32} {v : Value} (i : Nat) (K : Ctx X l Z R y code maxL ret) (pc' : Nat) (hd : decode code pc = .ok (.baload, 1)) (A : Arr Z Z.heap a cl .byte) (hj : j.toInt = (i : Int)) (hv : cl.slots[i]? = some v) (k : WP X Z rc rs Q pc' L (v :: S) os ce sl) (hp : pc + 1 = pc' := by rfl) : WP X Z rc rs Q pc L (.int j :: .ref a :: S) os ce sl := by
  obtain ⟨p, l', e, R', s, m, args, below, meth, c⟩ := X
  obtain ⟨h1, h2, hx, hZ, hby, hml, hown, hnm, hret, hlk⟩ := K
  subst hp
  intro T locs hT0 hH hF
  have hT : Stand p l' e R' s m args below meth c T locs ce sl := hT0
  obtain ⟨s2, o, st, r⟩ := k T locs hT hH hF
  have A' := A.ext hH.1
  have e2 : j.toNatClampNeg = i := by show j.toInt.toNat = i; rw [hj]; rfl
  have hlt := (Array.getElem?_eq_some_iff.mp hv).1
  have e1 : ¬ (j < 0 ∨ cl.slots.size ≤ j.toNatClampNeg) := by
    rw [Int32.lt_iff_toInt_lt, e2, hj]
    intro q
    rcases q with q | q
    · exact absurd q (Int.not_lt.mpr (Int.natCast_nonneg i))
    · omega
  exact ⟨s2, o, Stand.baloadBytes hT hx A'.1 (State.isArrayOf_alike hZ.alike A'.2.1) A'.2.2 e1 (by rw [e2]; exact hv) (g := mkF m pc L.toArray (.int j :: .ref a :: S)) rfl rfl (hb hby hd) _ st, r⟩
end Old
end Jvm.OwnW
namespace Jvm.Pilot.@@N@@
open Jvm Jvm.ClassFile Sem Op Lib Jvm.Free Jvm.Stand Jvm.LawKit Jvm.RoadKit Bundle Jvm.OwnW Jvm.Pilot.@@N@@.Jvm.D

theorem pn_0 : plainFor x = true := plainFor_of_name (show plainName "com/example/pointfold/pointfold/datalog/HashFilterMayHoldPinLaw" = true by first | (simp [plainName, overriddenIn]; done) | decide +kernel)
theorem pd_0 : parseMethodDescriptor "(IIIII)Z" = some ⟨[.int, .int, .int, .int, .int], some .boolean⟩ := by decide +kernel
theorem d1_0 : decode prog_13_method_1_code 0 = .ok (.aload_n 0, 1) := by decide +kernel
theorem d1_1 : decode prog_13_method_1_code 1 = .ok (.invokespecial 1, 3) := by decide +kernel
theorem d1_4 : decode prog_13_method_1_code 4 = .ok (.aload_n 0, 1) := by decide +kernel
theorem d1_5 : decode prog_13_method_1_code 5 = .ok (.iload_n 1, 1) := by decide +kernel
theorem d1_6 : decode prog_13_method_1_code 6 = .ok (.bipush 8, 2) := by decide +kernel
theorem d1_8 : decode prog_13_method_1_code 8 = .ok (.idiv, 1) := by decide +kernel
theorem d1_9 : decode prog_13_method_1_code 9 = .ok (.newarray .long, 2) := by decide +kernel
theorem d1_11 : decode prog_13_method_1_code 11 = .ok (.putfield 7, 3) := by decide +kernel
theorem d1_14 : decode prog_13_method_1_code 14 = .ok (.aload_n 0, 1) := by decide +kernel
theorem d1_15 : decode prog_13_method_1_code 15 = .ok (.ldc2_w 13, 3) := by decide +kernel
theorem d1_18 : decode prog_13_method_1_code 18 = .ok (.iload_n 1, 1) := by decide +kernel
theorem d1_19 : decode prog_13_method_1_code 19 = .ok (.i2l, 1) := by decide +kernel
theorem d1_20 : decode prog_13_method_1_code 20 = .ok (.lmul, 1) := by decide +kernel
theorem d1_21 : decode prog_13_method_1_code 21 = .ok (.lconst 1, 1) := by decide +kernel
theorem d1_22 : decode prog_13_method_1_code 22 = .ok (.lsub, 1) := by decide +kernel
theorem d1_23 : decode prog_13_method_1_code 23 = .ok (.putfield 15, 3) := by decide +kernel
theorem d1_26 : decode prog_13_method_1_code 26 = .ok (.return_, 1) := by decide +kernel
theorem pn_1 : plainFor (⟨"com/example/pointfold/pointfold/datalog/HashFilter", "<init>", "(I)V"⟩ : MethodName) = true := plainFor_of_name (show plainName "com/example/pointfold/pointfold/datalog/HashFilter" = true by first | (simp [plainName, overriddenIn]; done) | decide +kernel)
theorem pd_1 : parseMethodDescriptor "(I)V" = some ⟨[.int], none⟩ := by decide +kernel
theorem d3_0 : decode prog_13_method_3_code 0 = .ok (.iload_n 1, 1) := by decide +kernel
theorem d3_1 : decode prog_13_method_3_code 1 = .ok (.i2l, 1) := by decide +kernel
theorem d3_2 : decode prog_13_method_3_code 2 = .ok (.aload_n 0, 1) := by decide +kernel
theorem d3_3 : decode prog_13_method_3_code 3 = .ok (.getfield 15, 3) := by decide +kernel
theorem d3_6 : decode prog_13_method_3_code 6 = .ok (.land, 1) := by decide +kernel
theorem d3_7 : decode prog_13_method_3_code 7 = .ok (.lstore_n 2, 1) := by decide +kernel
theorem d3_8 : decode prog_13_method_3_code 8 = .ok (.aload_n 0, 1) := by decide +kernel
theorem d3_9 : decode prog_13_method_3_code 9 = .ok (.getfield 7, 3) := by decide +kernel
theorem d3_12 : decode prog_13_method_3_code 12 = .ok (.lload_n 2, 1) := by decide +kernel
theorem d3_13 : decode prog_13_method_3_code 13 = .ok (.bipush 6, 2) := by decide +kernel
theorem d3_15 : decode prog_13_method_3_code 15 = .ok (.lushr, 1) := by decide +kernel
theorem d3_16 : decode prog_13_method_3_code 16 = .ok (.l2i, 1) := by decide +kernel
theorem d3_17 : decode prog_13_method_3_code 17 = .ok (.laload, 1) := by decide +kernel
theorem d3_18 : decode prog_13_method_3_code 18 = .ok (.lconst 1, 1) := by decide +kernel
theorem d3_19 : decode prog_13_method_3_code 19 = .ok (.lload_n 2, 1) := by decide +kernel
theorem d3_20 : decode prog_13_method_3_code 20 = .ok (.l2i, 1) := by decide +kernel
theorem d3_21 : decode prog_13_method_3_code 21 = .ok (.lshl, 1) := by decide +kernel
theorem d3_22 : decode prog_13_method_3_code 22 = .ok (.land, 1) := by decide +kernel
theorem d3_23 : decode prog_13_method_3_code 23 = .ok (.lconst 0, 1) := by decide +kernel
theorem d3_24 : decode prog_13_method_3_code 24 = .ok (.lcmp, 1) := by decide +kernel
theorem d3_25 : decode prog_13_method_3_code 25 = .ok (.ifCond .eq 7, 3) := by decide +kernel
theorem d3_28 : decode prog_13_method_3_code 28 = .ok (.iconst 1, 1) := by decide +kernel
theorem d3_29 : decode prog_13_method_3_code 29 = .ok (.goto 4, 3) := by decide +kernel
theorem d3_32 : decode prog_13_method_3_code 32 = .ok (.iconst 0, 1) := by decide +kernel
theorem d3_33 : decode prog_13_method_3_code 33 = .ok (.ireturn, 1) := by decide +kernel
theorem pn_3 : plainFor (⟨"com/example/pointfold/pointfold/datalog/HashFilter", "mayHold", "(I)Z"⟩ : MethodName) = true := plainFor_of_name (show plainName "com/example/pointfold/pointfold/datalog/HashFilter" = true by first | (simp [plainName, overriddenIn]; done) | decide +kernel)
theorem pd_3 : parseMethodDescriptor "(I)Z" = some ⟨[.int], some .boolean⟩ := by decide +kernel
theorem d4_0 : decode prog_13_method_2_code 0 = .ok (.iload_n 1, 1) := by decide +kernel
theorem d4_1 : decode prog_13_method_2_code 1 = .ok (.i2l, 1) := by decide +kernel
theorem d4_2 : decode prog_13_method_2_code 2 = .ok (.aload_n 0, 1) := by decide +kernel
theorem d4_3 : decode prog_13_method_2_code 3 = .ok (.getfield 15, 3) := by decide +kernel
theorem d4_6 : decode prog_13_method_2_code 6 = .ok (.land, 1) := by decide +kernel
theorem d4_7 : decode prog_13_method_2_code 7 = .ok (.lstore_n 2, 1) := by decide +kernel
theorem d4_8 : decode prog_13_method_2_code 8 = .ok (.aload_n 0, 1) := by decide +kernel
theorem d4_9 : decode prog_13_method_2_code 9 = .ok (.getfield 7, 3) := by decide +kernel
theorem d4_12 : decode prog_13_method_2_code 12 = .ok (.lload_n 2, 1) := by decide +kernel
theorem d4_13 : decode prog_13_method_2_code 13 = .ok (.bipush 6, 2) := by decide +kernel
theorem d4_15 : decode prog_13_method_2_code 15 = .ok (.lushr, 1) := by decide +kernel
theorem d4_16 : decode prog_13_method_2_code 16 = .ok (.l2i, 1) := by decide +kernel
theorem d4_17 : decode prog_13_method_2_code 17 = .ok (.dup2, 1) := by decide +kernel
theorem d4_18 : decode prog_13_method_2_code 18 = .ok (.laload, 1) := by decide +kernel
theorem d4_19 : decode prog_13_method_2_code 19 = .ok (.lconst 1, 1) := by decide +kernel
theorem d4_20 : decode prog_13_method_2_code 20 = .ok (.lload_n 2, 1) := by decide +kernel
theorem d4_21 : decode prog_13_method_2_code 21 = .ok (.l2i, 1) := by decide +kernel
theorem d4_22 : decode prog_13_method_2_code 22 = .ok (.lshl, 1) := by decide +kernel
theorem d4_23 : decode prog_13_method_2_code 23 = .ok (.lor, 1) := by decide +kernel
theorem d4_24 : decode prog_13_method_2_code 24 = .ok (.lastore, 1) := by decide +kernel
theorem d4_25 : decode prog_13_method_2_code 25 = .ok (.return_, 1) := by decide +kernel
theorem pn_4 : plainFor (⟨"com/example/pointfold/pointfold/datalog/HashFilter", "add", "(I)V"⟩ : MethodName) = true := plainFor_of_name (show plainName "com/example/pointfold/pointfold/datalog/HashFilter" = true by first | (simp [plainName, overriddenIn]; done) | decide +kernel)
theorem pd_4 : parseMethodDescriptor "(I)V" = some ⟨[.int], none⟩ := by decide +kernel
def own_G (s : Int32) (N e : Nat) : Prop := N = 2 ^ e ∧ e ≤ 7 ∧ s.toInt = 8 * (N : Int) ∧ ((8 : Int64) * s.toInt64 - 1).toBitVec.toNat = 2 ^ (6 + e) - 1 ∧ ((8 : Int32) * s - 1).toBitVec.toNat = 2 ^ (6 + e) - 1
instance (s : Int32) (N e : Nat) : Decidable (own_G s N e) := by unfold own_G; exact inferInstance
theorem own_Gex (k : Int32) : ∃ N e, own_G ((8 : Int32) <<< ((k &&& 7) &&& 31)) N e := by
  have h := c_mask k 7 3 (by decide) (by decide)
  obtain ⟨q, hq⟩ : ∃ q, q = k &&& 7 := ⟨_, rfl⟩
  rw [← hq] at h ⊢
  have e : ∀ z : Int32, q.toInt = z.toInt → q = z := fun z hz => Int32.toInt_inj.mp hz
  have h8 : ((2 ^ 3 : Nat) : Int) = 8 := by decide
  rw [h8] at h
  have hh : q.toInt = (0 : Int32).toInt ∨ q.toInt = (1 : Int32).toInt ∨ q.toInt = (2 : Int32).toInt ∨ q.toInt = (3 : Int32).toInt ∨ q.toInt = (4 : Int32).toInt ∨ q.toInt = (5 : Int32).toInt ∨ q.toInt = (6 : Int32).toInt ∨ q.toInt = (7 : Int32).toInt := by
    have e0 : (0 : Int32).toInt = 0 := by decide
    have e1 : (1 : Int32).toInt = 1 := by decide
    have e2 : (2 : Int32).toInt = 2 := by decide
    have e3 : (3 : Int32).toInt = 3 := by decide
    have e4 : (4 : Int32).toInt = 4 := by decide
    have e5 : (5 : Int32).toInt = 5 := by decide
    have e6 : (6 : Int32).toInt = 6 := by decide
    have e7 : (7 : Int32).toInt = 7 := by decide
    omega
  rcases hh with hh | hh | hh | hh | hh | hh | hh | hh <;> rw [e _ hh]
  · exact ⟨1, 0, by decide⟩
  · exact ⟨2, 1, by decide⟩
  · exact ⟨4, 2, by decide⟩
  · exact ⟨8, 3, by decide⟩
  · exact ⟨16, 4, by decide⟩
  · exact ⟨32, 5, by decide⟩
  · exact ⟨64, 6, by decide⟩
  · exact ⟨128, 7, by decide⟩
def own_pos (N : Nat) (h : Int32) : Nat := (h.toInt % (64 * (N : Int))).toNat
def own_bit (q : Nat) : Int64 := (1 : Int64) <<< Int64.ofNat (q % 64)
def own_vs (N : Nat) (W : Nat → Int64) : List Value := (List.range N).map fun i => Value.long (W i)
theorem own_N {s : Int32} {N e : Nat} (g : own_G s N e) : 1 ≤ N ∧ N ≤ 128 := by
  obtain ⟨rfl, h, -⟩ := g
  have : 2 ^ e ≤ 2 ^ 7 := Nat.pow_le_pow_right (by decide) h
  exact ⟨Nat.one_le_two_pow, this⟩
theorem own_posC {N : Nat} (h : 1 ≤ N) (x : Int32) : ((own_pos N x : Nat) : Int) = x.toInt % (64 * (N : Int)) := by
  unfold own_pos
  have h1 := Int.emod_nonneg x.toInt (b := 64 * (N : Int)) (by omega)
  omega
theorem own_posLt {N : Nat} (h : 1 ≤ N) (x : Int32) : own_pos N x < 64 * N := by
  have h0 := own_posC h x
  have h1 := Int.emod_lt_of_pos x.toInt (b := 64 * (N : Int)) (by omega)
  omega
theorem own_pL {s : Int32} {N e : Nat} (g : own_G s N e) (h : Int32) : (h.toInt64 &&& ((8 : Int64) * s.toInt64 - 1)).toInt = (own_pos N h : Int) := by
  have hN := own_N g
  obtain ⟨rfl, he, -, h4, -⟩ := g
  rw [c_maskL _ _ (6 + e) (by omega) h4, c_i2l]
  have : ((2 ^ (6 + e) : Nat) : Int) = 64 * ((2 ^ e : Nat) : Int) := by rw [Nat.pow_add]; simp
  rw [this, own_posC hN.1]
theorem own_pI {s : Int32} {N e : Nat} (g : own_G s N e) (h : Int32) : (h &&& ((8 : Int32) * s - 1)).toInt = (own_pos N h : Int) := by
  have hN := own_N g
  obtain ⟨rfl, he, -, -, h4⟩ := g
  rw [c_mask _ _ (6 + e) (by omega) h4]
  have : ((2 ^ (6 + e) : Nat) : Int) = 64 * ((2 ^ e : Nat) : Int) := by rw [Nat.pow_add]; simp
  rw [this, own_posC hN.1]
theorem own_ix {N : Nat} (hN : N ≤ 128) {p : Int64} {q : Nat} (hq : q < 64 * N) (hp : p.toInt = (q : Int)) : (((p.toUInt64 >>> ((6 : Int32) &&& 0x3f).toInt64.toUInt64).toInt64).toInt32).toInt = ((q / 64 : Nat) : Int) := by
  have h1 := c_lushr p 6 6 (by decide) (by decide)
  have h2 := c_l2i ((p.toUInt64 >>> ((6 : Int32) &&& 0x3f).toInt64.toUInt64).toInt64)
  have h3 := rng32 (((p.toUInt64 >>> ((6 : Int32) &&& 0x3f).toInt64.toUInt64).toInt64).toInt32)
  have h4 : ((2 ^ 6 : Nat) : Int) = 64 := by decide
  rw [h4, hp] at h1
  omega
theorem own_sh {N : Nat} (hN : N ≤ 128) {p : Int64} {q : Nat} (hq : q < 64 * N) (hp : p.toInt = (q : Int)) : (1 : Int64) <<< (p.toInt32 &&& 0x3f).toInt64 = own_bit q := by
  unfold own_bit
  congr 1
  apply Int64.toInt_inj.mp
  rw [c_i2l, c_mask _ _ 6 (by decide) (by decide), Int64.toInt_ofNat_of_lt (by omega)]
  have h2 := c_l2i p
  have h4 : ((2 ^ 6 : Nat) : Int) = 64 := by decide
  rw [h4]
  omega
theorem own_bits : ∀ i j : Fin 64, (((1 : Int64) <<< Int64.ofNat i.1) &&& ((1 : Int64) <<< Int64.ofNat j.1) = 0) ↔ ¬ i.1 = j.1 := by decide +kernel
theorem own_bit2 (p q : Nat) : (own_bit p &&& own_bit q = 0) ↔ ¬ p % 64 = q % 64 := own_bits ⟨p % 64, Nat.mod_lt _ (by decide)⟩ ⟨q % 64, Nat.mod_lt _ (by decide)⟩
theorem own_orand (x y z : Int64) : ((x ||| y) &&& z = 0) ↔ (x &&& z = 0 ∧ y &&& z = 0) := by
  have e : ∀ w : Int64, w = 0 ↔ ∀ i, i < 64 → w.toBitVec.getLsbD i = false := fun w => by
    rw [← Int64.toBitVec_inj]
    refine ⟨fun h i hi => by rw [h]; simp, fun h => ?_⟩
    apply BitVec.eq_of_getLsbD_eq
    intro i hi
    rw [h i hi]; simp
  rw [e, e, e]
  simp only [Int64.toBitVec_and, Int64.toBitVec_or, BitVec.getLsbD_and, BitVec.getLsbD_or]
  constructor
  · intro h
    refine ⟨fun i hi => ?_, fun i hi => ?_⟩
    · have := h i hi
      revert this
      cases x.toBitVec.getLsbD i <;> cases y.toBitVec.getLsbD i <;> cases z.toBitVec.getLsbD i <;> simp
    · have := h i hi
      revert this
      cases x.toBitVec.getLsbD i <;> cases y.toBitVec.getLsbD i <;> cases z.toBitVec.getLsbD i <;> simp
  · rintro ⟨h1, h2⟩ i hi
    have a1 := h1 i hi
    have a2 := h2 i hi
    revert a1 a2
    cases x.toBitVec.getLsbD i <;> cases y.toBitVec.getLsbD i <;> cases z.toBitVec.getLsbD i <;> simp
def own_add (W : Nat → Int64) (q : Nat) : Nat → Int64 := fun i => if i = q / 64 then W i ||| own_bit q else W i
theorem own_vsAt {N : Nat} {W : Nat → Int64} {i : Nat} (h : i < N) : (own_vs N W)[i]? = some (.long (W i)) := by simp [own_vs, h]
theorem own_vsSet {N : Nat} {W : Nat → Int64} {q : Nat} : (own_vs N W).set (q / 64) (.long (W (q / 64) ||| own_bit q)) = own_vs N (own_add W q) := by
  apply List.ext_getElem?
  intro i
  rw [List.getElem?_set]
  by_cases hi : i < N
  · rw [own_vsAt hi]
    by_cases e : q / 64 = i
    · subst e
      rw [if_pos rfl, if_pos (by simpa [own_vs] using hi), own_vsAt hi]
      simp [own_add]
    · rw [if_neg e, own_vsAt hi]
      have e2 : ¬ i = q / 64 := fun h => e h.symm
      simp [own_add, e2]
  · have h0 : ∀ W : Nat → Int64, (own_vs N W)[i]? = none := fun W => by simp [own_vs]; omega
    rw [h0, h0]
    have hl : ¬ q / 64 < (own_vs N W).length ∨ q / 64 ≠ i := by
      by_cases e : q / 64 = i
      · left; rw [e]; simpa [own_vs] using hi
      · exact Or.inr e
    split
    · split
      · rename_i h1 h2
        rcases hl with hl | hl
        · exact absurd h2 hl
        · exact absurd h1 hl
      · rfl
    · rfl
theorem own_test (W : Nat → Int64) (p q : Nat) : (own_add W p (q / 64) &&& own_bit q = 0) ↔ (W (q / 64) &&& own_bit q = 0 ∧ ¬ p = q) := by
  unfold own_add
  by_cases h : q / 64 = p / 64
  · rw [if_pos h, own_orand, own_bit2]
    constructor
    · rintro ⟨h1, h2⟩; exact ⟨h1, fun e => h2 (by rw [e])⟩
    · rintro ⟨h1, h2⟩; exact ⟨h1, fun e => h2 (by omega)⟩
  · rw [if_neg h]
    exact ⟨fun h1 => ⟨h1, fun e => h (by rw [e])⟩, fun h1 => h1.1⟩
theorem own_zero (q : Nat) : ((fun _ => 0 : Nat → Int64) (q / 64) &&& own_bit q = 0) := by simp
theorem own_last (p q h : Nat) : (if own_add (own_add (fun _ => 0) p) q (h / 64) &&& own_bit h = 0 then (0 : Int32) else 1) = if h = p ∨ h = q then 1 else 0 := by
  simp only [own_test, own_zero, true_and]
  by_cases q1 : h = p
  · rw [if_neg (fun z => z.1 q1.symm), if_pos (Or.inl q1)]
  · by_cases q2 : h = q
    · rw [if_neg (fun z => z.2 q2.symm), if_pos (Or.inr q2)]
    · rw [if_pos ⟨fun z => q1 z.symm, fun z => q2 z.symm⟩, if_neg (fun z => z.elim q1 q2)]
set_option maxRecDepth 65536 in
set_option maxHeartbeats 40000000 in
theorem spec_1 (l : Launch) (Z : State) (a0 : Array Value) (hw : ∀ d ∈ tables_1, d.before a0 Z = true) (a : Addr) (s : Int32) (N e : Nat) (g : own_G s N e) (v0 v1 : Value) (rest : OS) : OMeets l Z (⟨"com/example/pointfold/pointfold/datalog/HashFilter", "<init>", "(I)V"⟩ : MethodName) prog_13_method_1_code 2 none ({ frames := 1, cells := 1, slots := 128, locals := 14 } : Room) [(.ref a), (.int s)] ((a, OBJ Z "com/example/pointfold/pointfold/datalog/HashFilter" [("com/example/pointfold/pointfold/datalog/HashFilter", "bits", "[J", v0), ("com/example/pointfold/pointfold/datalog/HashFilter", "mask", "J", v1)]) :: rest) (RetN fun os' => ∃ d : Addr, os' = (a, OBJ Z "com/example/pointfold/pointfold/datalog/HashFilter" [("com/example/pointfold/pointfold/datalog/HashFilter", "bits", "[J", .ref d), ("com/example/pointfold/pointfold/datalog/HashFilter", "mask", "J", .long (8 * s.toInt64 - 1))]) :: (d, ARR Z .long (own_vs N fun _ => 0)) :: rest) := by
  have hN := own_N g
  have hs := g.2.2.1
  have hz := (c_idiv s 8 8 (by decide) (by decide)).1 (by omega)
  have hv : List.replicate N (defaultValue .long) = own_vs N fun _ => 0 := by
    apply List.ext_getElem?
    intro i
    simp only [own_vs, List.getElem?_replicate, List.getElem?_map]
    by_cases hi : i < N
    · simp [hi, defaultValue]
    · simp [hi]
  refine OMeets.of_body [.val (.ref a), .val (.int s)] pn_1 (by first | rfl | (simp [argsToLocals, Value.category, maxLocals]; done)) ?_
  intro X K
  refine W.aloadN K 1 d1_0 0 rfl rfl rfl ?_
  refine W.initO K 4 d1_1 (hw _ (List.mem_of_getElem? (i := 6) rfl)) (hw _ (List.mem_of_getElem? (i := 7) rfl)) (hw _ (List.mem_of_getElem? (i := 8) rfl)) ?_
  refine W.aloadN K 5 d1_4 0 rfl rfl rfl ?_
  refine W.iloadN K 6 d1_5 1 rfl rfl ?_
  refine W.bipush K 8 d1_6 (8 : Int32) (by decide) ?_
  refine W.idiv K 9 d1_8 (by decide) ?_
  refine W.newarray (ty := .long) N 128 K 11 d1_9 (hw _ (List.mem_of_getElem? (i := 9) rfl)) (by rw [hz]; omega) hN.2 (fun d => ?_)
  rw [hv]
  refine W.putFf (ty := (.array .long)) K 14 d1_11 (hw _ (List.mem_of_getElem? (i := 10) rfl)) (hw _ (List.mem_of_getElem? (i := 11) rfl)) (hw _ (List.mem_of_getElem? (i := 1) rfl)) (by decide +kernel) (by repeat (first | exact Upd.here | apply Upd.there)) (by repeat (first | exact UpdF.here | apply UpdF.there)) ?_
  refine W.aloadN K 15 d1_14 0 rfl rfl rfl ?_
  refine W.ldc2 K 18 d1_15 (hw _ (List.mem_of_getElem? (i := 12) rfl)) ?_
  refine W.iloadN K 19 d1_18 1 rfl rfl ?_
  refine W.i2l K 20 d1_19 ?_
  refine W.lmul K 21 d1_20 ?_
  refine W.lconst K 22 d1_21 (1 : Int64) (by decide) ?_
  refine W.lsub K 23 d1_22 ?_
  refine W.putFf (ty := .long) K 26 d1_23 (hw _ (List.mem_of_getElem? (i := 13) rfl)) (hw _ (List.mem_of_getElem? (i := 14) rfl)) (hw _ (List.mem_of_getElem? (i := 1) rfl)) (by decide +kernel) (by repeat (first | exact Upd.here | apply Upd.there)) (by repeat (first | exact UpdF.here | apply UpdF.there)) ?_
  refine WP.pick a (by repeat (first | exact pickHere | apply pickThere)) ?_
  exact W.return K d1_26 ⟨rfl, _, rfl⟩
set_option maxRecDepth 65536 in
set_option maxHeartbeats 40000000 in
theorem spec_3 (l : Launch) (Z : State) (a0 : Array Value) (hw : ∀ d ∈ tables_1, d.before a0 Z = true) (a d : Addr) (h : Int32) (s : Int32) (N e : Nat) (g : own_G s N e) (V : Nat → Int64) (rest : OS) : OMeets l Z (⟨"com/example/pointfold/pointfold/datalog/HashFilter", "mayHold", "(I)Z"⟩ : MethodName) prog_13_method_3_code 4 (some .boolean) ({ frames := 0, cells := 0, slots := 0, locals := 0 } : Room) [(.ref a), (.int h)] ((a, OBJ Z "com/example/pointfold/pointfold/datalog/HashFilter" [("com/example/pointfold/pointfold/datalog/HashFilter", "bits", "[J", .ref d), ("com/example/pointfold/pointfold/datalog/HashFilter", "mask", "J", .long (8 * s.toInt64 - 1))]) :: (d, ARR Z .long (own_vs N V)) :: rest) (RetV fun v os' => v = .int (if V (own_pos N h / 64) &&& own_bit (own_pos N h) = 0 then 0 else 1) ∧ os' = ((a, OBJ Z "com/example/pointfold/pointfold/datalog/HashFilter" [("com/example/pointfold/pointfold/datalog/HashFilter", "bits", "[J", .ref d), ("com/example/pointfold/pointfold/datalog/HashFilter", "mask", "J", .long (8 * s.toInt64 - 1))]) :: (d, ARR Z .long (own_vs N V)) :: rest)) := by
  have hN := own_N g
  have hp := own_pL g h
  have hlt := own_posLt hN.1 h
  refine OMeets.of_body [.val (.ref a), .val (.int h), .unset, .unset] pn_3 (by first | rfl | (simp [argsToLocals, Value.category, maxLocals]; done)) ?_
  intro X K
  refine W.iloadN K 1 d3_0 1 rfl rfl ?_
  refine W.i2l K 2 d3_1 ?_
  refine W.aloadN K 3 d3_2 0 rfl rfl rfl ?_
  refine W.getF K 6 d3_3 (hw _ (List.mem_of_getElem? (i := 13) rfl)) (by repeat (first | exact List.mem_cons_self | apply List.mem_cons_of_mem)) (by repeat (first | exact List.mem_cons_self | apply List.mem_cons_of_mem)) ?_
  refine W.land K 7 d3_6 ?_
  refine W.lstoreN K 8 d3_7 2 rfl (by repeat (first | exact setL0 | apply setLS)) (by repeat (first | exact setL0 | apply setLS)) ?_
  refine W.aloadN K 9 d3_8 0 rfl rfl rfl ?_
  refine W.getF K 12 d3_9 (hw _ (List.mem_of_getElem? (i := 10) rfl)) (by repeat (first | exact List.mem_cons_self | apply List.mem_cons_of_mem)) (by repeat (first | exact List.mem_cons_self | apply List.mem_cons_of_mem)) ?_
  refine W.lloadN K 13 d3_12 2 rfl rfl ?_
  refine W.bipush K 15 d3_13 (6 : Int32) (by decide) ?_
  refine W.lushr K 16 d3_15 ?_
  refine W.l2i K 17 d3_16 ?_
  refine W.laload (own_pos N h / 64) K 18 d3_17 (by repeat (first | exact List.mem_cons_self | apply List.mem_cons_of_mem)) (own_ix hN.2 hlt hp) (own_vsAt (by omega)) ?_
  refine W.lconst K 19 d3_18 (1 : Int64) (by decide) ?_
  refine W.lloadN K 20 d3_19 2 rfl rfl ?_
  refine W.l2i K 21 d3_20 ?_
  refine W.lshl K 22 d3_21 ?_
  rw [own_sh hN.2 hlt hp]
  refine W.land K 23 d3_22 ?_
  refine W.lconst K 24 d3_23 (0 : Int64) (by decide) ?_
  refine W.bool 33 (1 : Int32) (0 : Int32) K (W.lcmp_eq K 25 32 28 d3_24 d3_25) d3_28 d3_29 d3_32 ?_
  refine W.zreturn K d3_33 (by split <;> simp) ⟨_, rfl, rfl, rfl⟩
set_option maxRecDepth 65536 in
set_option maxHeartbeats 40000000 in
theorem spec_4 (l : Launch) (Z : State) (a0 : Array Value) (hw : ∀ d ∈ tables_1, d.before a0 Z = true) (a d : Addr) (h : Int32) (s : Int32) (N e : Nat) (g : own_G s N e) (V : Nat → Int64) (rest : OS) : OMeets l Z (⟨"com/example/pointfold/pointfold/datalog/HashFilter", "add", "(I)V"⟩ : MethodName) prog_13_method_2_code 4 none ({ frames := 0, cells := 0, slots := 0, locals := 0 } : Room) [(.ref a), (.int h)] ((a, OBJ Z "com/example/pointfold/pointfold/datalog/HashFilter" [("com/example/pointfold/pointfold/datalog/HashFilter", "bits", "[J", .ref d), ("com/example/pointfold/pointfold/datalog/HashFilter", "mask", "J", .long (8 * s.toInt64 - 1))]) :: (d, ARR Z .long (own_vs N V)) :: rest) (RetN fun os' => os' = ((a, OBJ Z "com/example/pointfold/pointfold/datalog/HashFilter" [("com/example/pointfold/pointfold/datalog/HashFilter", "bits", "[J", .ref d), ("com/example/pointfold/pointfold/datalog/HashFilter", "mask", "J", .long (8 * s.toInt64 - 1))]) :: (d, ARR Z .long (own_vs N (own_add V (own_pos N h)))) :: rest)) := by
  have hN := own_N g
  have hp := own_pL g h
  have hlt := own_posLt hN.1 h
  refine OMeets.of_body [.val (.ref a), .val (.int h), .unset, .unset] pn_4 (by first | rfl | (simp [argsToLocals, Value.category, maxLocals]; done)) ?_
  intro X K
  refine W.iloadN K 1 d4_0 1 rfl rfl ?_
  refine W.i2l K 2 d4_1 ?_
  refine W.aloadN K 3 d4_2 0 rfl rfl rfl ?_
  refine W.getF K 6 d4_3 (hw _ (List.mem_of_getElem? (i := 13) rfl)) (by repeat (first | exact List.mem_cons_self | apply List.mem_cons_of_mem)) (by repeat (first | exact List.mem_cons_self | apply List.mem_cons_of_mem)) ?_
  refine W.land K 7 d4_6 ?_
  refine W.lstoreN K 8 d4_7 2 rfl (by repeat (first | exact setL0 | apply setLS)) (by repeat (first | exact setL0 | apply setLS)) ?_
  refine W.aloadN K 9 d4_8 0 rfl rfl rfl ?_
  refine W.getF K 12 d4_9 (hw _ (List.mem_of_getElem? (i := 10) rfl)) (by repeat (first | exact List.mem_cons_self | apply List.mem_cons_of_mem)) (by repeat (first | exact List.mem_cons_self | apply List.mem_cons_of_mem)) ?_
  refine W.lloadN K 13 d4_12 2 rfl rfl ?_
  refine W.bipush K 15 d4_13 (6 : Int32) (by decide) ?_
  refine W.lushr K 16 d4_15 ?_
  refine W.l2i K 17 d4_16 ?_
  refine W.dup2 K 18 d4_17 ?_
  refine W.laload (own_pos N h / 64) K 19 d4_18 (by repeat (first | exact List.mem_cons_self | apply List.mem_cons_of_mem)) (own_ix hN.2 hlt hp) (own_vsAt (by omega)) ?_
  refine W.lconst K 20 d4_19 (1 : Int64) (by decide) ?_
  refine W.lloadN K 21 d4_20 2 rfl rfl ?_
  refine W.l2i K 22 d4_21 ?_
  refine W.lshl K 23 d4_22 ?_
  rw [own_sh hN.2 hlt hp]
  refine W.lor K 24 d4_23 ?_
  refine W.lastore (own_pos N h / 64) K 25 d4_24 (by repeat (first | exact Upd.here | apply Upd.there)) (own_ix hN.2 hlt hp) (own_vsAt (by omega)) ?_
  rw [own_vsSet]
  exact W.return K d4_25 ⟨rfl, rfl⟩
set_option maxRecDepth 65536 in
set_option maxHeartbeats 40000000 in
theorem spec_0 (l : Launch) (Z : State) (a0 : Array Value) (hw : ∀ d ∈ tables_1, d.before a0 Z = true) (k p q r t : Int32) : OMeets l Z x code maxLocals ret room_1 [(.int k), (.int p), (.int q), (.int r), (.int t)] [] (RetV fun v _ => v = .int 1) := by
  refine OMeets.of_body [.val (.int k), .val (.int p), .val (.int q), .val (.int r), .val (.int t), .unset, .unset, .unset, .unset, .unset, .unset, .unset, .unset] pn_0 (by first | rfl | (simp [argsToLocals, Value.category, maxLocals]; done)) ?_
  intro X K
  refine W.bipush K 2 at_0 (8 : Int32) (by decide) ?_
  refine W.iloadN K 3 at_2 0 rfl rfl ?_
  refine W.bipush K 5 at_3 (7 : Int32) (by decide) ?_
  refine W.iand K 6 at_5 ?_
  refine W.ishl K 7 at_6 ?_
  obtain ⟨N, e, g⟩ := own_Gex k
  generalize ((8 : Int32) <<< ((k &&& 7) &&& 31)) = s at g ⊢
  refine W.istore K 9 at_7 rfl (by repeat (first | exact setL0 | apply setLS)) ?_
  refine W.bipush K 11 at_9 (8 : Int32) (by decide) ?_
  refine W.iload K 13 at_11 rfl ?_
  refine W.imul K 14 at_13 ?_
  refine W.iconst K 15 at_14 (1 : Int32) (by decide) ?_
  refine W.isub K 16 at_15 ?_
  refine W.istore K 18 at_16 rfl (by repeat (first | exact setL0 | apply setLS)) ?_
  refine W.iload K 20 at_18 rfl ?_
  refine W.iconst K 21 at_20 (1 : Int32) (by decide) ?_
  refine W.iand K 22 at_21 ?_
  refine W.selI 35 (W.if_eq K 34 25 at_22) (fun k => (W.iloadN K 35 at_34 3 rfl rfl k)) (fun k => (W.iloadN K 26 at_25 1 rfl rfl (W.iloadN K 27 at_26 3 rfl rfl (W.bipush K 29 at_27 (16 : Int32) (by decide) (W.ishl K 30 at_29 (W.ixor K 31 at_30 (W.goto K 35 at_31 k))))))) ?_
  generalize (if t &&& 1 = 0 then r else p ^^^ r <<< ((16 : Int32) &&& 31)) = h
  refine W.istore K 37 at_35 rfl (by repeat (first | exact setL0 | apply setLS)) ?_
  refine W.new [("com/example/pointfold/pointfold/datalog/HashFilter", "bits", "[J", .null), ("com/example/pointfold/pointfold/datalog/HashFilter", "mask", "J", .long 0)] K 40 at_37 (hw _ (List.mem_of_getElem? (i := 0) rfl)) (hw _ (List.mem_of_getElem? (i := 1) rfl)) (hw _ (List.mem_of_getElem? (i := 2) rfl)) ⟨⟨Or.inr (hw _ (List.mem_of_getElem? (i := 11) rfl)), (.array .long), by decide +kernel, rfl⟩, ⟨Or.inr (hw _ (List.mem_of_getElem? (i := 14) rfl)), .long, by decide +kernel, rfl⟩, trivial⟩ (fun b37 => ?_)
  refine W.dup K 41 at_40 ?_
  refine W.iload K 43 at_41 rfl ?_
  refine W.callIn1 K 46 at_43 (hw _ (List.mem_of_getElem? (i := 3) rfl)) (hw _ (List.mem_of_getElem? (i := 4) rfl)) (hw _ (List.mem_of_getElem? (i := 2) rfl)) (hw _ (List.mem_of_getElem? (i := 5) rfl)) pd_1 (spec_1 l Z a0 hw _ _ _ _ g _ _ _) (fun os1 hq => ?_)
  obtain ⟨d, rfl⟩ := hq
  refine W.astore K 48 at_46 rfl rfl (by repeat (first | exact setL0 | apply setLS)) ?_
  refine W.aload K 50 at_48 rfl rfl ?_
  refine W.iload K 52 at_50 rfl ?_
  refine W.callVv1 K 55 at_52 (hw _ (List.mem_of_getElem? (i := 15) rfl)) (hw _ (List.mem_of_getElem? (i := 16) rfl)) (hw _ (List.mem_of_getElem? (i := 18) rfl)) (hw _ (List.mem_of_getElem? (i := 17) rfl)) (hw _ (List.mem_of_getElem? (i := 2) rfl)) (hw _ (List.mem_of_getElem? (i := 19) rfl)) pd_3 (Rc.new (by repeat (first | exact List.mem_cons_self | apply List.mem_cons_of_mem))) (spec_3 l Z a0 hw _ _ _ _ _ _ g _ _) (fun v os1 hq => ?_)
  obtain ⟨rfl, rfl⟩ := hq
  refine W.istore K 57 at_55 rfl (by repeat (first | exact setL0 | apply setLS)) ?_
  refine W.aload K 59 at_57 rfl rfl ?_
  refine W.iloadN K 60 at_59 1 rfl rfl ?_
  refine W.callVn1 K 63 at_60 (hw _ (List.mem_of_getElem? (i := 20) rfl)) (hw _ (List.mem_of_getElem? (i := 21) rfl)) (hw _ (List.mem_of_getElem? (i := 23) rfl)) (hw _ (List.mem_of_getElem? (i := 22) rfl)) (hw _ (List.mem_of_getElem? (i := 2) rfl)) (hw _ (List.mem_of_getElem? (i := 24) rfl)) pd_4 (Rc.new (by repeat (first | exact List.mem_cons_self | apply List.mem_cons_of_mem))) (spec_4 l Z a0 hw _ _ _ _ _ _ g _ _) (fun os1 hq => ?_)
  obtain rfl := hq
  refine W.aload K 65 at_63 rfl rfl ?_
  refine W.iloadN K 66 at_65 2 rfl rfl ?_
  refine W.callVn1 K 69 at_66 (hw _ (List.mem_of_getElem? (i := 20) rfl)) (hw _ (List.mem_of_getElem? (i := 21) rfl)) (hw _ (List.mem_of_getElem? (i := 23) rfl)) (hw _ (List.mem_of_getElem? (i := 22) rfl)) (hw _ (List.mem_of_getElem? (i := 2) rfl)) (hw _ (List.mem_of_getElem? (i := 24) rfl)) pd_4 (Rc.new (by repeat (first | exact List.mem_cons_self | apply List.mem_cons_of_mem))) (spec_4 l Z a0 hw _ _ _ _ _ _ g _ _) (fun os1 hq => ?_)
  obtain rfl := hq
  refine W.aload K 71 at_69 rfl rfl ?_
  refine W.iload K 73 at_71 rfl ?_
  refine W.callVv1 K 76 at_73 (hw _ (List.mem_of_getElem? (i := 15) rfl)) (hw _ (List.mem_of_getElem? (i := 16) rfl)) (hw _ (List.mem_of_getElem? (i := 18) rfl)) (hw _ (List.mem_of_getElem? (i := 17) rfl)) (hw _ (List.mem_of_getElem? (i := 2) rfl)) (hw _ (List.mem_of_getElem? (i := 19) rfl)) pd_3 (Rc.new (by repeat (first | exact List.mem_cons_self | apply List.mem_cons_of_mem))) (spec_3 l Z a0 hw _ _ _ _ _ _ g _ _) (fun v os1 hq => ?_)
  obtain ⟨rfl, rfl⟩ := hq
  refine W.istore K 78 at_76 rfl (by repeat (first | exact setL0 | apply setLS)) ?_
  refine W.aload K 80 at_78 rfl rfl ?_
  refine W.iloadN K 81 at_80 1 rfl rfl ?_
  refine W.callVv1 K 84 at_81 (hw _ (List.mem_of_getElem? (i := 15) rfl)) (hw _ (List.mem_of_getElem? (i := 16) rfl)) (hw _ (List.mem_of_getElem? (i := 18) rfl)) (hw _ (List.mem_of_getElem? (i := 17) rfl)) (hw _ (List.mem_of_getElem? (i := 2) rfl)) (hw _ (List.mem_of_getElem? (i := 19) rfl)) pd_3 (Rc.new (by repeat (first | exact List.mem_cons_self | apply List.mem_cons_of_mem))) (spec_3 l Z a0 hw _ _ _ _ _ _ g _ _) (fun v os1 hq => ?_)
  obtain ⟨rfl, rfl⟩ := hq
  refine W.istore K 86 at_84 rfl (by repeat (first | exact setL0 | apply setLS)) ?_
  refine W.joinI (S := []) (F := own_pos N h = own_pos N p ∨ own_pos N h = own_pos N q) 115 (fun kt kf => ?_) ?_
  · refine W.iload K 88 at_86 rfl ?_
    refine W.iload K 90 at_88 rfl ?_
    refine W.iand K 91 at_90 ?_
    refine W.iloadN K 92 at_91 1 rfl rfl ?_
    refine W.iload K 94 at_92 rfl ?_
    refine W.iand K 95 at_94 ?_
    refine W.icmp_eq K 110 98 at_95 (fun h95 => ?_) (fun h95 => ?_)
    · refine W.iconst K 111 at_110 (1 : Int32) (by decide) ?_
      refine W.goto K 115 at_111 ?_
      exact kt (by first | (left; rw [← Int32.toInt_inj, own_pI g, own_pI g] at h95; omega) | (right; rw [← Int32.toInt_inj, own_pI g, own_pI g] at h107; omega))
    · refine W.iload K 100 at_98 rfl ?_
      refine W.iload K 102 at_100 rfl ?_
      refine W.iand K 103 at_102 ?_
      refine W.iloadN K 104 at_103 2 rfl rfl ?_
      refine W.iload K 106 at_104 rfl ?_
      refine W.iand K 107 at_106 ?_
      refine W.icmp_ne K 114 110 at_107 (fun h107 => ?_) (fun h107 => ?_)
      · refine W.iconst K 115 at_114 (0 : Int32) (by decide) ?_
        exact kf (by rw [← Int32.toInt_inj, own_pI g, own_pI g] at h95 h107; omega)
      · refine W.iconst K 111 at_110 (1 : Int32) (by decide) ?_
        refine W.goto K 115 at_111 ?_
        exact kt (by first | (left; rw [← Int32.toInt_inj, own_pI g, own_pI g] at h95; omega) | (right; rw [← Int32.toInt_inj, own_pI g, own_pI g] at h107; omega))
  refine W.istore K 117 at_115 rfl (by repeat (first | exact setL0 | apply setLS)) ?_
  refine W.iload K 119 at_117 rfl ?_
  refine W.if_ne K 138 122 at_119 (fun h119 => False.elim (h119 (if_pos (own_zero _)))) (fun h119 => ?_)
  refine W.iload K 124 at_122 rfl ?_
  refine W.if_eq K 138 127 at_124 (fun h124 => False.elim (by rw [if_neg (by simp only [own_test]; exact fun q => q.1.2 trivial)] at h124; exact absurd h124 (by decide))) (fun h124 => ?_)
  refine W.iload K 129 at_127 rfl ?_
  refine W.iload K 131 at_129 rfl ?_
  refine W.icmp_ne K 138 134 at_131 (fun h131 => False.elim (h131 (own_last _ _ _))) (fun h131 => ?_)
  refine W.iconst K 135 at_134 (1 : Int32) (by decide) ?_
  refine W.goto K 139 at_135 ?_
  refine W.zreturn K at_139 (Or.inr rfl) ⟨_, rfl, rfl⟩
set_option maxRecDepth 65536 in
set_option maxHeartbeats 40000000 in
theorem comes_1 {Post : Tables → Env → Array Value → State → Outcome → State → Prop} (hpost : ∀ tb e args s v u, (limb_1_1.after args s (.returned v) u = true ∧ limb_1_2.after args s (.returned v) u = true ∧ True) → FrameEnd s (.returned v) u (Jvm.fieldLocs frame_1_writes args s ++ Jvm.arrayLocs frame_1_arrays args s ++ Jvm.staticLocs frame_1_statics s) 16 384 → Post tb e args s (.returned v) u) :
    ArmFor flags0 classFile x code maxLocals ret World_1 tables_1 room_1 Calls_1 rest_1 Pre_1 Post := by
  intro l hfl _ _ p e ha hc hk s m args below hf hA hF happ hP
  obtain ⟨hcalls, hrest, hpre⟩ := hP
  obtain ⟨-, -, -, hnamed, -, -, -, hat⟩ := (Spec.applies_iff hf).mp happ
  obtain ⟨hg, hn⟩ := and_e (Cond.before_iff.mp (show (Jvm.Cond.and given_1 narrow_1).before args s = true from hpre))
  obtain ⟨gc, g0⟩ := and_e hg
  obtain ⟨k0, g1⟩ := and_e g0
  obtain ⟨k1, g2⟩ := and_e g1
  obtain ⟨k2, g3⟩ := and_e g2
  obtain ⟨k3, g4⟩ := and_e g3
  have k4 := g4
  obtain ⟨w0, w1, w2, w3, w4, rfl⟩ : ∃ w0 w1 w2 w3 w4 : Value, args = #[w0, w1, w2, w3, w4] := by
    have hs : args.size = 5 := by simpa [Cond.value, given_1] using gc
    obtain ⟨L⟩ := args
    match L, hs with
    | [w0, w1, w2, w3, w4], _ => exact ⟨w0, w1, w2, w3, w4, rfl⟩
  have hw := fun d (hd : d ∈ tables_1) => atoms_spec (ws := Jvm.Cond.code x code maxLocals ret :: tables_1) hat d (List.mem_cons_of_mem _ hd)
  have hfit : Fit s := fun {y c} hc i hi => by
    obtain ⟨ha, rfl⟩ := Array.getElem?_eq_some_iff.mp hc
    have q := List.all_eq_true.mp ((Array.all_eq_true_iff_forall_mem.mp hF) _ (Array.getElem_mem ha)) i (List.mem_range.mpr hi)
    simpa [Array.getElem?_eq_getElem hi] using q
  obtain ⟨i0, ei0⟩ := is_v k0
  obtain rfl : w0 = (.int i0) := Option.some.inj ei0
  obtain ⟨i1, ei1⟩ := is_v k1
  obtain rfl : w1 = (.int i1) := Option.some.inj ei1
  obtain ⟨i2, ei2⟩ := is_v k2
  obtain rfl : w2 = (.int i2) := Option.some.inj ei2
  obtain ⟨i3, ei3⟩ := is_v k3
  obtain rfl : w3 = (.int i3) := Option.some.inj ei3
  obtain ⟨i4, ei4⟩ := is_v k4
  obtain rfl : w4 = (.int i4) := Option.some.inj ei4
  obtain ⟨n, o, h1, h2, h3, _, L, rfl, ⟨os1, ⟨_, rfl, rfl⟩, -, N⟩, hq⟩ := spec_0 l s _ hw i0 i1 i2 i3 i4 s.heap (Hp.nil s) tables_1 p e ha hc hk s m _ below hf ((Spec.applies_iff_loose hf).mp happ).1 ⟨rfl, State.Warmed39.refl s, rfl⟩ trivial
  refine ⟨n, _, h1, h2, h3, hpost _ _ _ _ _ _ ⟨Cond.after_iff.mpr rfl, Cond.after_iff.mpr (eq_i res_at (Term.int_eval (1)) rfl), trivial⟩ ⟨hq.1, hq.2.1, (hq.2.2.sift fun y hy => Or.inr (N y hy)).mono (by decide) (by decide)⟩⟩
theorem main_1_1 : Claimed_1_1 := comes_1 fun _ _ _ _ _ _ h hF => ⟨h.1, hF⟩
theorem main_1_2 : Claimed_1_2 := comes_1 fun _ _ _ _ _ _ h hF => ⟨h.2.1, hF⟩
end Jvm.Pilot.@@N@@
namespace Jvm.Pilot.@@N@@
open Jvm Jvm.ClassFile Sem Op Lib Jvm.Free Jvm.Stand Jvm.Pilot.@@N@@.Jvm.D
/-! MADE BY PROGRAM (witnessworld.py) out of the Statement's table words and the real class files: 11 classes; the members and pool entries that the words name. The judged class is class 1, her method 1. -/
namespace start1
open Jvm.ClassFile
def u (s : String) : CpInfo := .utf8 (stringToUtf16 s)
/-- a pool by its gaps: so many unusable entries, then the entry; so many at the end -/
def gap : Nat → List CpInfo → List CpInfo
  | 0, r => r
  | n + 1, r => .unusable :: gap n r
def poolList (es : List (Nat × CpInfo)) (last : Nat) : List CpInfo := es.foldr (fun e r => gap e.1 (e.2 :: r)) (gap last [])
def pool (es : List (Nat × CpInfo)) (last : Nat) : Array CpInfo := ⟨poolList es last⟩
def fileOf (pool : Array CpInfo) (this : Nat) (attrs : Array Attribute := #[]) (ms : Array MethodInfo := #[]) (fl : Nat := 33) (sup : Nat := 0) (ifs : Array Nat := #[]) (fds : Array FieldInfo := #[]) : ClassFile where
  minorVersion := 0
  majorVersion := 65
  constantPool := pool
  accessFlags := fl
  thisClass := this
  superClass := sup
  interfaces := ifs
  fields := fds
  methods := ms
  attributes := attrs
def plain (name : String) (sup : Option ClassId) : Class where
  name := name
  kind := .ordinary
  loader := none
  accessFlags := 33
  super := sup
  interfaces := #[]
  cf := none
  fields := #[]
  methods := #[]
  instanceTypes := #[]
  staticTypes := #[]
  resolved := #[]
  callSites := []
  init := .initialized
  statics := none
  mirror := none

def pool0 : Array CpInfo := pool [(5, u "<init>"), (0, u "()V"), (1, .class_ 10), (1, u "java/lang/Object")] 113

def k0c0 : Code := { maxStack := 0, maxLocals := 1, code := object_method_1_code, exceptionTable := #[], attributes := #[] }
def k0m0 : Method := { name := "<init>", desc := "()V", sig := { parameters := [], returnType := none }, accessFlags := 1, code := some k0c0 }
/-- java/lang/Object -/
def k0 : Class := { plain "java/lang/Object" none with
  accessFlags := 33
  interfaces := #[]
  cf := some (fileOf pool0 8 #[] #[{ accessFlags := 1, nameIndex := 5, descriptorIndex := 6, attributes := #[] }] 33 0 #[] #[])
  fields := #[]
  methods := #[k0m0]
  instanceTypes := #[]
  staticTypes := #[]
  resolved := Array.replicate 124 none
  statics := none }

def pool1 : Array CpInfo := pool [(2, .class_ 4), (1, u "java/lang/Object"), (0, u "<init>"), (0, u "()V"), (0, .class_ 8), (0, u "com/example/pointfold/pointfold/datalog/HashFilter"), (0, .methodref 7 10), (0, .nameAndType 5 11), (0, u "(I)V"), (0, .methodref 7 13), (0, .nameAndType 14 15), (0, u "mayHold"), (0, u "(I)Z"), (0, .methodref 7 17), (0, .nameAndType 18 11), (0, u "add"), (0, .class_ 20), (0, u "com/example/pointfold/pointfold/datalog/HashFilterMayHoldPinLaw"), (2, u "law"), (0, u "(IIIII)Z")] 3

def k1m0 : Method := { name := "<init>", desc := "()V", sig := { parameters := [], returnType := none }, accessFlags := 1, code := none }
def k1c1 : Code := { maxStack := 3, maxLocals := 13, code := code, exceptionTable := #[], attributes := #[] }
def k1m1 : Method := { name := "law", desc := "(IIIII)Z", sig := { parameters := [.int, .int, .int, .int, .int], returnType := some .boolean }, accessFlags := 9, code := some k1c1 }
/-- com/example/pointfold/pointfold/datalog/HashFilterMayHoldPinLaw -/
def k1 : Class := { plain "com/example/pointfold/pointfold/datalog/HashFilterMayHoldPinLaw" (some 0) with
  accessFlags := 49
  interfaces := #[]
  cf := some (fileOf pool1 19 #[] #[{ accessFlags := 1, nameIndex := 5, descriptorIndex := 6, attributes := #[] }, { accessFlags := 9, nameIndex := 23, descriptorIndex := 24, attributes := #[] }] 49 2 #[] #[])
  fields := #[]
  methods := #[k1m0, k1m1]
  instanceTypes := #[]
  staticTypes := #[]
  resolved := Array.replicate 28 none
  statics := none }

def pool2 : Array CpInfo := pool [(1, .methodref 2 3), (0, .class_ 4), (0, .nameAndType 5 6), (0, u "java/lang/Object"), (0, u "<init>"), (0, u "()V"), (0, .fieldref 8 9), (0, .class_ 10), (0, .nameAndType 11 12), (0, u "com/example/pointfold/pointfold/datalog/HashFilter"), (0, u "bits"), (0, u "[J"), (0, .long 8), (1, .fieldref 8 16), (0, .nameAndType 17 18), (0, u "mask"), (0, u "J"), (0, u "(I)V"), (2, u "add"), (0, u "mayHold"), (0, u "(I)Z")] 3

def k2c0 : Code := { maxStack := 5, maxLocals := 2, code := prog_13_method_1_code, exceptionTable := #[], attributes := #[] }
def k2m0 : Method := { name := "<init>", desc := "(I)V", sig := { parameters := [.int], returnType := none }, accessFlags := 0, code := some k2c0 }
def k2c1 : Code := { maxStack := 8, maxLocals := 4, code := prog_13_method_2_code, exceptionTable := #[], attributes := #[] }
def k2m1 : Method := { name := "add", desc := "(I)V", sig := { parameters := [.int], returnType := none }, accessFlags := 0, code := some k2c1 }
def k2c2 : Code := { maxStack := 6, maxLocals := 4, code := prog_13_method_3_code, exceptionTable := #[], attributes := #[] }
def k2m2 : Method := { name := "mayHold", desc := "(I)Z", sig := { parameters := [.int], returnType := some .boolean }, accessFlags := 0, code := some k2c2 }
/-- com/example/pointfold/pointfold/datalog/HashFilter -/
def k2 : Class := { plain "com/example/pointfold/pointfold/datalog/HashFilter" (some 0) with
  accessFlags := 48
  interfaces := #[]
  cf := some (fileOf pool2 8 #[] #[{ accessFlags := 0, nameIndex := 5, descriptorIndex := 19, attributes := #[] }, { accessFlags := 0, nameIndex := 22, descriptorIndex := 19, attributes := #[] }, { accessFlags := 0, nameIndex := 23, descriptorIndex := 24, attributes := #[] }] 48 2 #[] #[{ accessFlags := 18, nameIndex := 11, descriptorIndex := 12, attributes := #[] }, { accessFlags := 18, nameIndex := 17, descriptorIndex := 18, attributes := #[] }])
  fields := #[{ name := "bits", type := (.array .long), accessFlags := 18, slot := 0, constantValue := 0 }, { name := "mask", type := .long, accessFlags := 18, slot := 1, constantValue := 0 }]
  methods := #[k2m0, k2m1, k2m2]
  instanceTypes := #[(.array .long), .long]
  staticTypes := #[]
  resolved := Array.replicate 28 none
  statics := none }

def pool3 : Array CpInfo := pool [(1, u "java/lang/Cloneable"), (0, .class_ 1), (0, u "java/lang/Object"), (0, .class_ 3)] 3

/-- java/lang/Cloneable -/
def k3 : Class := { plain "java/lang/Cloneable" (some 0) with
  accessFlags := 1537
  interfaces := #[]
  cf := some (fileOf pool3 2 #[] #[] 1537 4 #[] #[])
  fields := #[]
  methods := #[]
  instanceTypes := #[]
  staticTypes := #[]
  resolved := Array.replicate 8 none
  statics := none }

def pool4 : Array CpInfo := pool [(1, u "java/io/Serializable"), (0, .class_ 1), (0, u "java/lang/Object"), (0, .class_ 3)] 3

/-- java/io/Serializable -/
def k4 : Class := { plain "java/io/Serializable" (some 0) with
  accessFlags := 1537
  interfaces := #[]
  cf := some (fileOf pool4 2 #[] #[] 1537 4 #[] #[])
  fields := #[]
  methods := #[]
  instanceTypes := #[]
  staticTypes := #[]
  resolved := Array.replicate 8 none
  statics := none }

/-- the primitive byte -/
def k5 : Class := { plain "byte" none with kind := .primitive 'B', accessFlags := 0x411 }
/-- [B -/
def k6 : Class := { plain "[B" (some 0) with kind := .array 5 .byte, interfaces := #[3, 4], accessFlags := 1041 }

/-- the primitive int -/
def k7 : Class := { plain "int" none with kind := .primitive 'I', accessFlags := 0x411 }
/-- [I -/
def k8 : Class := { plain "[I" (some 0) with kind := .array 7 .int, interfaces := #[3, 4], accessFlags := 1041 }

/-- the primitive long -/
def k9 : Class := { plain "long" none with kind := .primitive 'J', accessFlags := 0x411 }
/-- [J -/
def k10 : Class := { plain "[J" (some 0) with kind := .array 9 .long, interfaces := #[3, 4], accessFlags := 1041 }

def heap : Heap := #[]
def classes : Array Class := #[k0, k1, k2, k3, k4, k5, k6, k7, k8, k9, k10]
def interned : List (Array UInt16 × Addr) := []
def slotsUsed : Nat := 0
def theMethod : MethodId := ⟨1, 1⟩
def args0 : Array Value := #[.int 1, .int 2, .int 3, .int 4, .int 5]
def aboutOver (below : List Frame) : State where
  vm := { classes := classes, interned := interned.toArray }
  heap := heap
  slotsUsed := slotsUsed
  threads := #[{ frames := .invoking theMethod args0 :: below }]
def below0 : List Frame := [.native { method := ⟨0, 0⟩, args := #[] }]
def about1 : State := aboutOver below0
def p0 : Program := .bare "" "" ""
def e0 : Env := launch0.env 0 0 0
theorem w_frames : about1.frames = Frame.invoking theMethod args0 :: below0 := rfl
set_option maxRecDepth 65536 in
theorem w_args : argsFit about1.vm theMethod args0 = true := by decide +kernel
set_option maxRecDepth 65536 in
theorem w_heap : heapFits about1 = true := by decide +kernel
set_option maxRecDepth 65536 in
theorem w_runnable : about1.curStatus? = some .runnable := by decide +kernel
set_option maxRecDepth 65536 in
theorem w_alone : about1.alone = true := by decide +kernel
set_option maxRecDepth 65536 in
theorem w_named : about1.methodNamed? x = some theMethod := by decide +kernel
set_option maxRecDepth 65536 in
theorem w_hears : about1.hears theMethod below0 = true := by decide +kernel
set_option maxRecDepth 65536 in
theorem w_ripe : about1.ripe theMethod args0 below0 = true := by decide +kernel
theorem w_running : about1.status = .running := rfl
set_option maxRecDepth 65536 in
theorem w_room : about1.hasRoom e0.platform room_1 = true :=
  launch0.hasRoom_least _ room_1 (by decide +kernel) (by decide +kernel) (by decide +kernel) (by decide +kernel) (by decide +kernel) (by decide +kernel)
theorem allAtoms_all (ts : List Jvm.Cond) (a : Array Jvm.Value) (st : Jvm.State) : (allAtoms ts).before a st = ts.all (fun c => c.before a st) := by
  induction ts with
  | nil => rfl
  | cons c t ih =>
    show (Jvm.Cond.and c (allAtoms t)).before a st = _
    rw [Jvm.Cond.before_and, ih, List.all_cons]
def words1 : List Jvm.Cond := Jvm.Cond.code x code maxLocals ret :: tables_1
/-- a 'code' word, met by the world's own term for the bytes: nothing is compared byte by byte -/
theorem code_word {y : MethodName} {bytes : ByteArray} {mx : Nat} {rt : Option FieldType} {a : Array Value} {s : State} {m : MethodId} {meth : Method} {c : Code} (h1 : s.methodNamed? y = some m) (h2 : s.vm.method? m = some meth) (h3 : meth.code = some c) (h4 : c.code = bytes)
    (h5 : (c.maxLocals == mx && c.exceptionTable.isEmpty && decide (c.maxStack ≤ mostOperands) && decide (meth.sig.returnType = rt) && !meth.locks && decide (parseMethodDescriptor y.desc = some meth.sig)) = true) : (Jvm.Cond.code y bytes mx rt).before a s = true := by
  simp only [Bool.and_eq_true, beq_iff_eq, Bool.not_eq_true', decide_eq_true_eq] at h5
  obtain ⟨⟨⟨⟨⟨g1, g2⟩, g3⟩, g4⟩, g5⟩, g6⟩ := h5
  simp [Cond.before, Cond.holds, Cond.value, h1, h2, h3, h4, g1, g2, g3, g4, g5, g6]
def isCode : Jvm.Cond → Bool
  | .code _ _ _ _ => true
  | _ => false
theorem all_split {L : List Jvm.Cond} {P : Jvm.Cond → Bool} (h1 : L.all (fun c => isCode c || P c) = true) (h2 : ∀ c ∈ L.filter isCode, P c = true) : L.all P = true := by
  refine List.all_eq_true.mpr fun c hc => ?_
  have h := List.all_eq_true.mp h1 c hc
  rcases Bool.eq_false_or_eq_true (isCode c) with hi | hi
  · exact h2 c (List.mem_filter.mpr ⟨hc, hi⟩)
  · simpa [hi] using h
set_option maxRecDepth 65536 in
theorem w_c0 : (Jvm.Cond.code x code maxLocals ret).before args0 about1 = true := code_word (m := ⟨1, 1⟩) (meth := k1m1) (c := k1c1) (by decide +kernel) rfl rfl rfl (by decide +kernel)
set_option maxRecDepth 65536 in
theorem w_c1 : (Jvm.Cond.code ({ cls := "com/example/pointfold/pointfold/datalog/HashFilter", name := "<init>", desc := "(I)V" } : Jvm.MethodName) prog_13_method_1_code (2 : Nat) (Option.none : Option Jvm.ClassFile.FieldType)).before args0 about1 = true := code_word (m := ⟨2, 0⟩) (meth := k2m0) (c := k2c0) (by decide +kernel) rfl rfl rfl (by decide +kernel)
set_option maxRecDepth 65536 in
theorem w_c2 : (Jvm.Cond.code ({ cls := "java/lang/Object", name := "<init>", desc := "()V" } : Jvm.MethodName) object_method_1_code (1 : Nat) (Option.none : Option Jvm.ClassFile.FieldType)).before args0 about1 = true := code_word (m := ⟨0, 0⟩) (meth := k0m0) (c := k0c0) (by decide +kernel) rfl rfl rfl (by decide +kernel)
set_option maxRecDepth 65536 in
theorem w_c3 : (Jvm.Cond.code ({ cls := "com/example/pointfold/pointfold/datalog/HashFilter", name := "mayHold", desc := "(I)Z" } : Jvm.MethodName) prog_13_method_3_code (4 : Nat) (Option.some Jvm.ClassFile.FieldType.boolean)).before args0 about1 = true := code_word (m := ⟨2, 2⟩) (meth := k2m2) (c := k2c2) (by decide +kernel) rfl rfl rfl (by decide +kernel)
set_option maxRecDepth 65536 in
theorem w_c4 : (Jvm.Cond.code ({ cls := "com/example/pointfold/pointfold/datalog/HashFilter", name := "add", desc := "(I)V" } : Jvm.MethodName) prog_13_method_2_code (4 : Nat) (Option.none : Option Jvm.ClassFile.FieldType)).before args0 about1 = true := code_word (m := ⟨2, 1⟩) (meth := k2m1) (c := k2c1) (by decide +kernel) rfl rfl rfl (by decide +kernel)
def codes1 : List Jvm.Cond := [Jvm.Cond.code x code maxLocals ret, Jvm.Cond.code ({ cls := "com/example/pointfold/pointfold/datalog/HashFilter", name := "<init>", desc := "(I)V" } : Jvm.MethodName) prog_13_method_1_code (2 : Nat) (Option.none : Option Jvm.ClassFile.FieldType), Jvm.Cond.code ({ cls := "java/lang/Object", name := "<init>", desc := "()V" } : Jvm.MethodName) object_method_1_code (1 : Nat) (Option.none : Option Jvm.ClassFile.FieldType), Jvm.Cond.code ({ cls := "com/example/pointfold/pointfold/datalog/HashFilter", name := "mayHold", desc := "(I)Z" } : Jvm.MethodName) prog_13_method_3_code (4 : Nat) (Option.some Jvm.ClassFile.FieldType.boolean), Jvm.Cond.code ({ cls := "com/example/pointfold/pointfold/datalog/HashFilter", name := "add", desc := "(I)V" } : Jvm.MethodName) prog_13_method_2_code (4 : Nat) (Option.none : Option Jvm.ClassFile.FieldType)]
set_option maxRecDepth 65536 in
theorem codes_eq : words1.filter isCode = codes1 := rfl
theorem w_codes : ∀ c ∈ words1.filter isCode, c.before args0 about1 = true := by
  rw [codes_eq]
  intro c hc
  simp only [codes1, List.mem_cons, List.not_mem_nil, or_false] at hc
  rcases hc with rfl | rfl | rfl | rfl | rfl
  · exact w_c0
  · exact w_c1
  · exact w_c2
  · exact w_c3
  · exact w_c4
set_option maxRecDepth 65536 in
theorem w_t1 : (words1.take 24).all (fun c => isCode c || c.before args0 about1) = true := by decide +kernel
set_option maxRecDepth 65536 in
theorem w_t2 : (words1.drop 24).all (fun c => isCode c || c.before args0 about1) = true := by decide +kernel
theorem w_tables : (allAtoms (Jvm.Cond.code x code maxLocals ret :: tables_1)).before args0 about1 = true := by
  rw [allAtoms_all]
  show words1.all (fun c => c.before args0 about1) = true
  refine all_split ?_ w_codes
  rw [← List.take_append_drop 24 words1, List.all_append, w_t1, w_t2]
  rfl
set_option maxRecDepth 65536 in
theorem w_case : (Jvm.Cond.and given_1 narrow_1).before args0 about1 = true := by decide +kernel
theorem w_applies : (headSpec (Jvm.Cond.code x code maxLocals ret :: tables_1) room_1).applies x e0.platform about1 = true :=
  (Spec.applies_iff w_frames).mpr ⟨w_running, w_runnable, w_alone, w_named, w_hears, w_ripe, w_room, w_tables⟩
theorem atStart : AtStart classFile x code maxLocals ret World_1 tables_1 room_1 Calls_1 rest_1 Pre_1 launch0 p0 e0 about1 theMethod args0 below0 :=
  ⟨lists_1, trivial, launch0.admits_env _ _ _, launch0.least_env, fairChoices_fair.cas, fairChoices_fair.clock, w_frames, w_args, w_heap, w_applies, trivial, trivial, w_case⟩
end start1
theorem witness_1 : WitnessClaimed_1 := ⟨start1.p0, start1.e0, start1.about1, start1.theMethod, start1.args0, start1.below0, start1.atStart⟩
end Jvm.Pilot.@@N@@
