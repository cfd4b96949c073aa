import JvmDerived
import JvmDerived.Pilot.@@N@@Statement
import JvmDerived.Pilot.@@N@@Code
set_option linter.unusedVariables false
set_option linter.unusedSimpArgs false
namespace Jvm.OwnW
open Sem ClassFile Op Lib Jvm.Stand Jvm.Free Jvm.LawKit Jvm.RoadKit
/-! THE OWN LAYER: a walk as a backward reckoning over an abstract heap. -/
abbrev OS := List (Addr × (Cell → Prop))
abbrev FV := String × String × String × Value
abbrev Cx := Program × Launch × Env × Room × State × MethodId × Array Value × List Frame × Method × Code
/-- what the walk knows of a heap: the start's cells stand in it unchanged; the listed cells are new, lie apart, and are as described -/
def Hp (Z : State) (h : Heap) (os : OS) : Prop :=
  Ext Z.heap h ∧ (os.map Prod.fst).Nodup ∧ ∀ (k : Nat) (x : Addr × (Cell → Prop)), os[k]? = some x → Z.heap.size ≤ x.1 ∧ ∃ c, h[x.1]? = some c ∧ x.2 c
def FldC (Z : State) (c : Cell) (f : FV) : Prop := ∃ (cf : ClassId) (k : Class) (i : Nat) (fd : Field), Z.fieldFound? f.1 f.2.1 f.2.2.1 = some (cf, k, i, fd) ∧ fd.isStatic = false ∧ c.vm ≠ .unknown ∧ c.vm.isStatics = false ∧ Z.vm.assignable c.cls cf = true ∧ c.slots[fd.slot]? = some f.2.2.2
def ExaC (Z : State) (C : String) (c : Cell) : Prop := ∃ k : Class, Z.vm.findClass C = some c.cls ∧ Z.vm.classes[c.cls]? = some k ∧ c.vm.isStatics = false ∧ (k.kind = .ordinary → c.slots.size = k.instanceTypes.size)
def sl3 (Z : State) (f : FV) : Nat := RoadKit.slotOf Z f.1 f.2.1 f.2.2.1
/-- an object of just the class C with these fields -/
def OBJ (Z : State) (C : String) (fs : List FV) (c : Cell) : Prop := ExaC Z C c ∧ (fs.map (sl3 Z)).Nodup ∧ ∀ f ∈ fs, FldC Z c f
/-- an array of this component kind with these values -/
def ARR (Z : State) (ty : FieldType) (vs : List Value) (c : Cell) : Prop := Z.isArrayOf c ty ∧ c.vm ≠ .unknown ∧ c.slots = vs.toArray ∧ (∀ v ∈ vs, fits ty v = true) ∧ vs.length < 2 ^ 31

section Heap
variable {Z : State} {h h' : Heap} {os os' : OS} {a b : Addr} {P P' : Cell → Prop} {C O n d : String} {fs fs' : List FV} {v w : Value} {ty : FieldType} {vs : List Value} {c : Cell}
theorem Hp.nil (Z : State) : Hp Z Z.heap [] := ⟨⟨Nat.le_refl _, fun _ _ q => q⟩, List.nodup_nil, fun k x hx => by simp at hx⟩
theorem Hp.get (H : Hp Z h os) (hm : (a, P) ∈ os) : Z.heap.size ≤ a ∧ ∃ c, h[a]? = some c ∧ P c := by
  obtain ⟨k, hk⟩ := List.getElem?_of_mem hm
  exact H.2.2 k _ hk
theorem OBJ.exa (hc : h[a]? = some c) (q : OBJ Z C fs c) : Exa Z h a C := by
  obtain ⟨⟨k, h1, h2, h3, h4⟩, -⟩ := q
  exact ⟨c, k, hc, h1, h2, h3, h4⟩
theorem OBJ.fld (hc : h[a]? = some c) (q : OBJ Z C fs c) (hm : (O, n, d, v) ∈ fs) : Fld Z h a O n d v := by
  obtain ⟨cf, k, i, fd, h1, h2, h3, h4, h5, h6⟩ := q.2.2 _ hm
  exact ⟨c, cf, k, i, fd, hc, h1, h2, h3, h4, h5, h6⟩
theorem Hp.ne (H : Hp Z h os) {i j : Nat} {P P' : Cell → Prop} (hi : os[i]? = some (a, P)) (hj : os[j]? = some (b, P')) (hn : i ≠ j) : a ≠ b := by
  intro e
  subst e
  have h1 : (os.map Prod.fst)[i]? = some a := by simp [hi]
  have h2 : (os.map Prod.fst)[j]? = some a := by simp [hj]
  exact hn ((List.getElem?_inj (List.getElem?_eq_some_iff.mp h1).1 H.2.1).mp (h1.trans h2.symm))
theorem Hp.upd (H : Hp Z h os) {i : Nat} (hi : os[i]? = some (a, P)) {sl : Nat} (W : Wr h h' a sl v) (q : ∀ c c', h[a]? = some c → P c → h'[a]? = some c' → c' = c.setSlot sl v → P' c') : Hp Z h' (os.set i (a, P')) := by
  obtain ⟨ha, ca, hca, hPa⟩ := H.2.2 i _ hi
  refine ⟨⟨by rw [W.size]; exact H.1.1, fun x cx hx => ?_⟩, ?_, fun k x hx => ?_⟩
  · obtain ⟨cx', e1, -, -, -, e5, -⟩ := wr_at W (H.1.2 x cx hx)
    have ne : x ≠ a := fun e => by
      subst e
      exact absurd (Array.getElem?_eq_some_iff.mp hx).1 (Nat.not_lt.mpr ha)
    rw [e5 ne] at e1; exact e1
  · have e : (os.set i (a, P')).map Prod.fst = os.map Prod.fst := by
      apply List.ext_getElem?
      intro k
      simp only [List.getElem?_map, List.getElem?_set]
      split
      · rename_i e; subst e
        rw [if_pos (List.getElem?_eq_some_iff.mp hi).1, hi]; rfl
      · rfl
    rw [e]; exact H.2.1
  · rw [List.getElem?_set] at hx
    split at hx
    · rename_i e; subst e
      split at hx
      · cases hx
        obtain ⟨c', e1, -, -, -, -, -, e7⟩ := wr_at W hca
        exact ⟨ha, c', e1, q ca c' hca hPa e1 (e7 rfl).1⟩
      · cases hx
    · rename_i hne
      obtain ⟨g1, cx, g2, g3⟩ := H.2.2 k x hx
      obtain ⟨c', e1, -, -, -, e5, -⟩ := wr_at W g2
      have ne : x.1 ≠ a := H.ne (i := k) (j := i) (P := x.2) hx hi (fun e => hne e.symm)
      rw [e5 ne] at e1
      exact ⟨g1, cx, e1, g3⟩
theorem Hp.new (H : Hp Z h os) (E : Ext h h') (hc : h'[h.size]? = some c) (hP : P c) : Hp Z h' ((h.size, P) :: os) := by
  refine ⟨⟨Nat.le_trans H.1.1 E.1, fun x cx q => E.2 _ _ (H.1.2 _ _ q)⟩, ?_, fun k x hx => ?_⟩
  · rw [List.map_cons, List.nodup_cons]
    refine ⟨fun hm => ?_, H.2.1⟩
    obtain ⟨⟨y1, y2⟩, hy, he⟩ := List.mem_map.mp hm
    obtain ⟨-, cy, hcy, -⟩ := H.get hy
    have := (Array.getElem?_eq_some_iff.mp hcy).1
    dsimp at he
    rw [he] at this; exact Nat.lt_irrefl _ this
  · cases k with
    | zero => cases hx; exact ⟨H.1.1, c, hc, hP⟩
    | succ k =>
      obtain ⟨g1, cx, g2, g3⟩ := H.2.2 k x hx
      exact ⟨g1, cx, E.2 _ _ g2, g3⟩
theorem Hp.ext (H : Hp Z h os) (E : Ext h h') : Hp Z h' os :=
  ⟨⟨Nat.le_trans H.1.1 E.1, fun x cx q => E.2 _ _ (H.1.2 _ _ q)⟩, H.2.1, fun k x hx => by
    obtain ⟨g1, cx, g2, g3⟩ := H.2.2 k x hx; exact ⟨g1, cx, E.2 _ _ g2, g3⟩⟩
theorem Hp.perm (H : Hp Z h os) (p : os.Perm os') : Hp Z h os' :=
  ⟨H.1, (p.map Prod.fst).nodup_iff.mp H.2.1, fun k x hx => by
    obtain ⟨k', hk'⟩ := List.getElem?_of_mem (p.symm.subset (List.mem_of_getElem? hx))
    exact H.2.2 k' x hk'⟩
theorem Hp.sub (H : Hp Z h os) (p : List.Sublist os' os) : Hp Z h os' :=
  ⟨H.1, H.2.1.sublist (p.map Prod.fst), fun k x hx => by
    obtain ⟨k', hk'⟩ := List.getElem?_of_mem (p.subset (List.mem_of_getElem? hx))
    exact H.2.2 k' x hk'⟩
theorem Hp.imp (H : Hp Z h ((a, P) :: os)) (q : ∀ c, P c → P' c) : Hp Z h ((a, P') :: os) :=
  ⟨H.1, H.2.1, fun k x hx => by
    cases k with
    | zero => cases hx; obtain ⟨g1, c, g2, g3⟩ := H.2.2 0 (a, P) rfl; exact ⟨g1, c, g2, q c g3⟩
    | succ k => exact H.2.2 (k + 1) x hx⟩
/-- the list os with the entry at a turned from P to P' is os' -/
def Upd (os : OS) (a : Addr) (P P' : Cell → Prop) (os' : OS) : Prop := ∃ i : Nat, os[i]? = some (a, P) ∧ os' = os.set i (a, P')
theorem Upd.here {r : OS} : Upd ((a, P) :: r) a P P' ((a, P') :: r) := ⟨0, rfl, rfl⟩
theorem Upd.there {r r' : OS} {x : Addr × (Cell → Prop)} (u : Upd r a P P' r') : Upd (x :: r) a P P' (x :: r') := by
  obtain ⟨i, h1, rfl⟩ := u; exact ⟨i + 1, h1, rfl⟩
/-- the fields fs with (O, n, d) now at v are fs' -/
def UpdF (fs : List FV) (O n d : String) (w v : Value) (fs' : List FV) : Prop := ∃ i : Nat, fs[i]? = some (O, n, d, w) ∧ fs' = fs.set i (O, n, d, v)
theorem UpdF.here {r : List FV} : UpdF ((O, n, d, w) :: r) O n d w v ((O, n, d, v) :: r) := ⟨0, rfl, rfl⟩
theorem UpdF.there {r r' : List FV} {x : FV} (u : UpdF r O n d w v r') : UpdF (x :: r) O n d w v (x :: r') := by
  obtain ⟨i, h1, rfl⟩ := u; exact ⟨i + 1, h1, rfl⟩
theorem OBJ.put {c : Cell} (q : OBJ Z C fs c) (u : UpdF fs O n d w v fs') : OBJ Z C fs' (c.setSlot (RoadKit.slotOf Z O n d) v) := by
  obtain ⟨i, hi, rfl⟩ := u
  obtain ⟨⟨k, e1, e2, e3, e4⟩, nd, ff⟩ := q
  have hslots : ∀ j : Nat, (c.setSlot (RoadKit.slotOf Z O n d) v).slots[j]? = if RoadKit.slotOf Z O n d = j then (if j < c.slots.size then some v else none) else c.slots[j]? := fun j => by
    simp only [Cell.setSlot, Array.getElem?_setIfInBounds]
    by_cases e : RoadKit.slotOf Z O n d = j
    · rw [if_pos e, if_pos e, e]
    · rw [if_neg e, if_neg e]
  have hes : ∀ x ∈ fs, ∃ fd : Field, sl3 Z x = fd.slot ∧ ∃ cf k' i', Z.fieldFound? x.1 x.2.1 x.2.2.1 = some (cf, k', i', fd) := fun x hx => by
    obtain ⟨cf, k', i', fd, g1, -⟩ := ff x hx
    exact ⟨fd, by simp [sl3, RoadKit.slotOf, g1], cf, k', i', g1⟩
  refine ⟨⟨k, e1, e2, e3, fun z => by rw [show (c.setSlot (RoadKit.slotOf Z O n d) v).slots.size = c.slots.size by simp [Cell.setSlot]]; exact e4 z⟩, ?_, fun x hx => ?_⟩
  · have e : (fs.set i (O, n, d, v)).map (sl3 Z) = fs.map (sl3 Z) := by
      apply List.ext_getElem?
      intro k
      simp only [List.getElem?_map, List.getElem?_set]
      split
      · rename_i e; subst e
        rw [if_pos (List.getElem?_eq_some_iff.mp hi).1, hi]; rfl
      · rfl
    rw [e]; exact nd
  · obtain ⟨m, hm⟩ := List.getElem?_of_mem hx
    rw [List.getElem?_set] at hm
    split at hm
    · split at hm
      · cases hm
        obtain ⟨cf, k', i', fd, g1, g2, g3, g4, g5, g6⟩ := ff _ (List.mem_of_getElem? hi)
        refine ⟨cf, k', i', fd, g1, g2, g3, g4, g5, ?_⟩
        have es : RoadKit.slotOf Z O n d = fd.slot := by have g1' : Z.fieldFound? O n d = some (cf, k', i', fd) := g1; simp [RoadKit.slotOf, g1']
        rw [hslots, if_pos es, if_pos (Array.getElem?_eq_some_iff.mp g6).1]
      · cases hm
    · rename_i hne
      obtain ⟨cf, k', i', fd, g1, g2, g3, g4, g5, g6⟩ := ff x (List.mem_of_getElem? hm)
      refine ⟨cf, k', i', fd, g1, g2, g3, g4, g5, ?_⟩
      have es : sl3 Z x = fd.slot := by simp [sl3, RoadKit.slotOf, g1]
      have ne : RoadKit.slotOf Z O n d ≠ fd.slot := fun e => by
        have h1 : (fs.map (sl3 Z))[i]? = some fd.slot := by simp [hi, sl3, e]
        have h2 : (fs.map (sl3 Z))[m]? = some fd.slot := by simp [hm, es]
        exact hne ((List.getElem?_inj (List.getElem?_eq_some_iff.mp h1).1 nd).mp (h1.trans h2.symm))
      rw [hslots, if_neg ne]; exact g6
theorem ARR.put {c : Cell} (q : ARR Z ty vs c) {k : Nat} (hv : fits ty v = true) : ARR Z ty (vs.set k v) (c.setSlot k v) := by
  obtain ⟨h1, h2, h3, h4, h5⟩ := q
  refine ⟨h1, h2, by simp [Cell.setSlot, h3], fun x hx => ?_, by simpa using h5⟩
  rcases List.mem_or_eq_of_mem_set hx with g | g
  · exact h4 x g
  · rw [g]; exact hv
/-- the sheet's words on the fields of a class, and their first values -/
def Laids (Z : State) (a0 : Array Value) (C : String) : List FV → Prop
  | [] => True
  | f :: r => (Laid Z a0 C f.1 f.2.1 f.2.2.1 ∧ ∃ ty, parseFieldDescriptor f.2.2.1 = some ty ∧ defaultValue ty = f.2.2.2) ∧ Laids Z a0 C r
theorem Laids.mem {a0 : Array Value} : ∀ {fs : List FV}, Laids Z a0 C fs → ∀ f ∈ fs, Laid Z a0 C f.1 f.2.1 f.2.2.1 ∧ ∃ ty, parseFieldDescriptor f.2.2.1 = some ty ∧ defaultValue ty = f.2.2.2
  | [], _, f, hf => nomatch hf
  | g :: r, q, f, hf => by
    rcases List.mem_cons.mp hf with rfl | hf
    · exact q.1
    · exact Laids.mem q.2 f hf
theorem Laids.nodup {a0 : Array Value} : ∀ {fs : List FV}, Laids Z a0 C fs → (fs.map (fun f => f.2.1)).Nodup → (fs.map (sl3 Z)).Nodup
  | [], _, _ => List.nodup_nil
  | g :: r, q, nd => by
    rw [List.map_cons, List.nodup_cons] at nd ⊢
    refine ⟨fun hm => ?_, Laids.nodup q.2 nd.2⟩
    obtain ⟨x, hx, he⟩ := List.mem_map.mp hm
    obtain ⟨l1, t1, p1, -⟩ := q.1
    obtain ⟨l2, t2, p2, -⟩ := Laids.mem q.2 x hx
    exact RoadKit.slot_ne l2 l1 (fun e => nd.1 (List.mem_map.mpr ⟨x, hx, e⟩)) p2 p1 he
theorem OBJ.new {a0 : Array Value} (E : Exa Z h a C) (D : ∀ {O nm d : String} {ty : FieldType}, Laid Z a0 C O nm d → parseFieldDescriptor d = some ty → Fld Z h a O nm d (defaultValue ty)) (q : Laids Z a0 C fs) (nd : (fs.map (fun f => f.2.1)).Nodup) :
    ∃ c, h[a]? = some c ∧ OBJ Z C fs c := by
  obtain ⟨c, k, h1, h2, h3, h4, h5⟩ := E
  refine ⟨c, h1, ⟨k, h2, h3, h4, h5⟩, q.nodup nd, fun f hf => ?_⟩
  obtain ⟨l1, ty, p1, e1⟩ := q.mem f hf
  obtain ⟨c', cf, k', i, fd, g1, g2, g3, g4, g5, g6, g7⟩ := D l1 p1
  cases h1.symm.trans g1
  exact ⟨cf, k', i, fd, g2, g3, g4, g5, g6, by rw [← e1]; exact g7⟩
end Heap
end Jvm.OwnW
namespace Jvm.OwnW
open Sem ClassFile Op Lib Jvm.Stand Jvm.Free Jvm.LawKit Jvm.RoadKit
def Stn (X : Cx) (T : State) (locs : List Loc) (ce sl : Nat) : Prop := Stand X.1 X.2.1 X.2.2.1 X.2.2.2.1 X.2.2.2.2.1 X.2.2.2.2.2.1 X.2.2.2.2.2.2.1 X.2.2.2.2.2.2.2.1 X.2.2.2.2.2.2.2.2.1 X.2.2.2.2.2.2.2.2.2 T locs ce sl
/-- from here the run comes to the method's end, and there Q holds -/
def Fn (X : Cx) (Z : State) (rc rs : Nat) (Q : Option Value → OS → Prop) (start : State) : Prop :=
  ∃ s₂ o, Steps X.1.tables X.2.2.1 X.2.2.2.2.2.2.2.1 start s₂ ∧ s₂.status = .running ∧ Ended s₂ X.2.2.2.2.2.2.2.1 o ∧ ∃ v L, o = .returned v ∧ (∃ os', Q v os' ∧ Hp Z s₂.heap os' ∧ Fr Z.heap.size L) ∧ FrameEnd X.2.2.2.2.1 o s₂ L rc rs
def WP (X : Cx) (Z : State) (rc rs : Nat) (Q : Option Value → OS → Prop) (pc : Nat) (L : List Slot) (S : List Value) (os : OS) (ce sl : Nat) : Prop :=
  ∀ T locs, Stn X T locs ce sl → Hp Z T.heap os → Fr Z.heap.size locs → Fn X Z rc rs Q (T.setTop (mkF X.2.2.2.2.2.1 pc L.toArray S))
def Ctx (X : Cx) (l : Launch) (Z : State) (R : Room) (y : MethodName) (code : ByteArray) (maxL : Nat) (ret : Option FieldType) : Prop :=
  X.2.1 = l ∧ X.2.2.2.1 = R ∧ X.1.tables.exec = Jvm.exec ∧ Z.Warmed39 X.2.2.2.2.1.vm ∧ X.2.2.2.2.2.2.2.2.2.code = code ∧ X.2.2.2.2.2.2.2.2.2.maxLocals = maxL ∧ X.2.2.2.2.1.vm.findClass y.cls = some X.2.2.2.2.2.1.cls ∧ X.2.2.2.2.2.2.2.2.1.name = y.name ∧ X.2.2.2.2.2.2.2.2.1.sig.returnType = ret ∧ X.2.2.2.2.2.2.2.2.1.locks = false
/-- the contract of a method, called with these arguments over this abstract heap -/
def OMeets (l : Launch) (Z : State) (y : MethodName) (bytes : ByteArray) (maxL : Nat) (ret : Option FieldType) (rm : Room) (as : List Value) (os : OS) (Q : Option Value → OS → Prop) : Prop :=
  ∀ h0, Hp Z h0 os → ∀ ws : List Jvm.Cond, MetFree l y (head1 (Jvm.Cond.code y bytes maxL ret :: ws) rm) (fun a U => a = as.toArray ∧ Z.Warmed39 U.vm ∧ U.heap = h0) (fun _ _ _ _ _ => True)
    (fun _ U o U' => ∃ v L, o = .returned v ∧ (∃ os', Q v os' ∧ Hp Z U'.heap os' ∧ Fr Z.heap.size L) ∧ FrameEnd U o U' L rm.cells rm.slots)
def RetV (q : Value → OS → Prop) : Option Value → OS → Prop := fun v os => ∃ x, v = some x ∧ q x os
def RetN (q : OS → Prop) : Option Value → OS → Prop := fun v os => v = none ∧ q os
def laid : List Value → List Slot
  | [] => []
  | v :: r => match v.category with
    | 2 => .val v :: .second :: laid r
    | _ => .val v :: laid r
theorem laid_fold : ∀ (as : List Value) (acc : Array Slot), as.foldl (fun acc v => if v.category = 2 then (acc.push (.val v)).push .second else acc.push (.val v)) acc = acc ++ (laid as).toArray
  | [], acc => by simp [laid]
  | v :: r, acc => by
    rw [List.foldl_cons, laid_fold r]
    have hv : v.category = 2 ∨ v.category = 1 := by cases v <;> simp [Value.category]
    rcases hv with h | h
    · rw [if_pos h]
      simp only [laid, h]
      apply Array.ext'
      simp
    · rw [if_neg (by rw [h]; decide)]
      simp only [laid, h]
      apply Array.ext'
      simp
theorem laid_eq (as : List Value) (n : Nat) {L : List Slot} (h : laid as ++ List.replicate (n - (laid as).length) .unset = L) : argsToLocals as.toArray n = L.toArray := by
  subst h
  unfold argsToLocals
  rw [List.foldl_toArray, laid_fold]
  apply Array.ext'
  simp
theorem OMeets.of_body {l : Launch} {Z : State} {y : MethodName} {bytes : ByteArray} {maxL : Nat} {ret : Option FieldType} {rm : Room} {as : List Value} {os : OS} {Q : Option Value → OS → Prop} (L : List Slot)
    (hpn : plainFor y = true) (hef : argsToLocals as.toArray maxL = L.toArray) (hk : ∀ X : Cx, Ctx X l Z rm y bytes maxL ret → WP X Z rm.cells rm.slots Q 0 L [] os 0 0) : OMeets l Z y bytes maxL ret rm as os Q := by
  intro h0 H ws
  refine MetFree.of_bodySF hpn hisR ?_
  intro p e s m args below meth c s₁ Bd hml0 hP hK
  obtain ⟨rfl, hZ, hh⟩ := hP
  have X0 : Stand p l e rm s m as.toArray below meth c s₁ [] 0 0 := Stand.of_body Bd
  have e0 : s₁.heap = h0 := by rw [← hh, Bd.state]; rfl
  obtain ⟨s2, o, st, r⟩ := hk (p, l, e, rm, s, m, as.toArray, below, meth, c) ⟨rfl, rfl, Bd.exec, hZ, Bd.bytes, hml0, findClass_of_methodNamed Bd.named, (name_of_methodNamed Bd.named Bd.method).1, Bd.returns, Bd.notSynchronized⟩ s₁ [] X0 (by rw [e0]; exact H) (Fr.nil _)
  refine ⟨s2, o, castTop (g' := mkF m 0 L.toArray []) ?_ st, r⟩
  simp only [entryFrame, mkF, hef]
theorem OMeets.weaken {l : Launch} {Z : State} {y : MethodName} {bytes : ByteArray} {maxL : Nat} {ret : Option FieldType} {rm : Room} {as : List Value} {os : OS} {Q Q' : Option Value → OS → Prop}
    (h : OMeets l Z y bytes maxL ret rm as os Q) (q : ∀ v os', Q v os' → Q' v os') : OMeets l Z y bytes maxL ret rm as os Q' := by
  intro h0 H ws p e ha hc hk s m args below hf happ hP hK
  obtain ⟨n, o, h1, h2, h3, v, L, h4, ⟨os', h5, h6⟩, h7⟩ := h h0 H ws p e ha hc hk s m args below hf happ hP hK
  exact ⟨n, o, h1, h2, h3, v, L, h4, ⟨os', q v os' h5, h6⟩, h7⟩
section Ops
variable {X : Cx} {l : Launch} {Z : State} {R : Room} {y : MethodName} {code : ByteArray} {maxL : Nat} {ret : Option FieldType} {rc rs : Nat} {Q : Option Value → OS → Prop} {pc : Nat} {L : List Slot} {S : List Value} {os os' : OS} {ce sl : Nat} {a0 : Array Value}
theorem WP.perm (p : os.Perm os') (k : WP X Z rc rs Q pc L S os' ce sl) : WP X Z rc rs Q pc L S os ce sl := fun T locs hT hH hF => k T locs hT (hH.perm p) hF
theorem WP.sub (p : List.Sublist os' os) (k : WP X Z rc rs Q pc L S os' ce sl) : WP X Z rc rs Q pc L S os ce sl := fun T locs hT hH hF => k T locs hT (hH.sub p) hF
/-- a fact out of the abstract heap -/
theorem WP.fact {F : Prop} (f : ∀ h, Hp Z h os → F) (k : F → WP X Z rc rs Q pc L S os ce sl) : WP X Z rc rs Q pc L S os ce sl := fun T locs hT hH hF => k (f _ hH) T locs hT hH hF
theorem perm_front {α : Type} {x : α} : ∀ {os : List α} (i : Nat), os[i]? = some x → os.Perm (x :: os.eraseIdx i)
  | [], i, h => by simp at h
  | y :: r, 0, h => by cases h; exact List.Perm.refl _
  | y :: r, i + 1, h => ((perm_front (os := r) i h).cons y).trans (List.Perm.swap x y _)
theorem pickHere {α : Type} {x : α} {r : List α} : (x :: r).Perm (x :: r) := List.Perm.refl _
theorem pickThere {α : Type} {x z : α} {r r' : List α} (h : r.Perm (x :: r')) : (z :: r).Perm (x :: z :: r') := (h.cons z).trans (List.Perm.swap x z r')
/-- the entry of address a comes to the front -/
theorem WP.pick {P : Cell → Prop} (a : Addr) (p : os.Perm ((a, P) :: os')) (k : WP X Z rc rs Q pc L S ((a, P) :: os') ce sl) : WP X Z rc rs Q pc L S os ce sl := WP.perm p k
theorem WP.imp0 {a : Addr} {P P2 : Cell → Prop} {r : OS} (q : ∀ c, P c → P2 c) (k : WP X Z rc rs Q pc L S ((a, P2) :: r) ce sl) : WP X Z rc rs Q pc L S ((a, P) :: r) ce sl := fun T locs hT hH hF => k T locs hT (hH.imp q) hF
/-- more cells and slots booked than were used -/
theorem WP.book {ce' sl' : Nat} (hc : ce ≤ ce') (hs : sl ≤ sl') (k : WP X Z rc rs Q pc L S os ce' sl') : WP X Z rc rs Q pc L S os ce sl := by
  intro T locs hT hH hF
  refine k T locs ?_ hH hF
  obtain ⟨h1, h2, h3, h4, h5, h6, h7, h8, h9, h10, h11, h12, h13, h14⟩ := hT
  exact ⟨h1, h2, h3, h4, h5, h6, h7, h8, h9, h10, h11, h12, h13, h14.mono hc hs⟩

theorem W.iadd {x z : Int32} (K : Ctx X l Z R y code maxL ret) (pc' : Nat) (hd : decode code pc = .ok (.iadd, 1)) (k : WP X Z rc rs Q pc' L (.int (x + z) :: S) os ce sl) (hp : pc + 1 = pc' := by rfl) : WP X Z rc rs Q pc L (.int z :: .int x :: S) os ce sl := by
  obtain ⟨p, l', e, R', s, m, args, below, meth, c⟩ := X
  obtain ⟨h1, h2, hx, hZ, hby, hml, hown, hnm, hret, hlk⟩ := K
  have h2' : R' = R := h2
  subst h2'
  subst hp
  intro T locs hT0 hH hF
  have hT : Stand p l' e R' s m args below meth c T locs ce sl := hT0
  obtain ⟨s2, o, st, r⟩ := k T locs hT hH hF
  exact ⟨s2, o, XS.iadd (Stand.here hT) hx rfl (hb hby hd) rfl st, r⟩
theorem W.isub {x z : Int32} (K : Ctx X l Z R y code maxL ret) (pc' : Nat) (hd : decode code pc = .ok (.isub, 1)) (k : WP X Z rc rs Q pc' L (.int (x - z) :: S) os ce sl) (hp : pc + 1 = pc' := by rfl) : WP X Z rc rs Q pc L (.int z :: .int x :: S) os ce sl := by
  obtain ⟨p, l', e, R', s, m, args, below, meth, c⟩ := X
  obtain ⟨h1, h2, hx, hZ, hby, hml, hown, hnm, hret, hlk⟩ := K
  have h2' : R' = R := h2
  subst h2'
  subst hp
  intro T locs hT0 hH hF
  have hT : Stand p l' e R' s m args below meth c T locs ce sl := hT0
  obtain ⟨s2, o, st, r⟩ := k T locs hT hH hF
  exact ⟨s2, o, XS.isub (Stand.here hT) hx rfl (hb hby hd) rfl st, r⟩
theorem W.imul {x z : Int32} (K : Ctx X l Z R y code maxL ret) (pc' : Nat) (hd : decode code pc = .ok (.imul, 1)) (k : WP X Z rc rs Q pc' L (.int (x * z) :: S) os ce sl) (hp : pc + 1 = pc' := by rfl) : WP X Z rc rs Q pc L (.int z :: .int x :: S) os ce sl := by
  obtain ⟨p, l', e, R', s, m, args, below, meth, c⟩ := X
  obtain ⟨h1, h2, hx, hZ, hby, hml, hown, hnm, hret, hlk⟩ := K
  have h2' : R' = R := h2
  subst h2'
  subst hp
  intro T locs hT0 hH hF
  have hT : Stand p l' e R' s m args below meth c T locs ce sl := hT0
  obtain ⟨s2, o, st, r⟩ := k T locs hT hH hF
  exact ⟨s2, o, XS.imul (Stand.here hT) hx rfl (hb hby hd) rfl st, r⟩
theorem W.iand {x z : Int32} (K : Ctx X l Z R y code maxL ret) (pc' : Nat) (hd : decode code pc = .ok (.iand, 1)) (k : WP X Z rc rs Q pc' L (.int (x &&& z) :: S) os ce sl) (hp : pc + 1 = pc' := by rfl) : WP X Z rc rs Q pc L (.int z :: .int x :: S) os ce sl := by
  obtain ⟨p, l', e, R', s, m, args, below, meth, c⟩ := X
  obtain ⟨h1, h2, hx, hZ, hby, hml, hown, hnm, hret, hlk⟩ := K
  have h2' : R' = R := h2
  subst h2'
  subst hp
  intro T locs hT0 hH hF
  have hT : Stand p l' e R' s m args below meth c T locs ce sl := hT0
  obtain ⟨s2, o, st, r⟩ := k T locs hT hH hF
  exact ⟨s2, o, XS.iand (Stand.here hT) hx rfl (hb hby hd) rfl st, r⟩
theorem W.ior {x z : Int32} (K : Ctx X l Z R y code maxL ret) (pc' : Nat) (hd : decode code pc = .ok (.ior, 1)) (k : WP X Z rc rs Q pc' L (.int (x ||| z) :: S) os ce sl) (hp : pc + 1 = pc' := by rfl) : WP X Z rc rs Q pc L (.int z :: .int x :: S) os ce sl := by
  obtain ⟨p, l', e, R', s, m, args, below, meth, c⟩ := X
  obtain ⟨h1, h2, hx, hZ, hby, hml, hown, hnm, hret, hlk⟩ := K
  have h2' : R' = R := h2
  subst h2'
  subst hp
  intro T locs hT0 hH hF
  have hT : Stand p l' e R' s m args below meth c T locs ce sl := hT0
  obtain ⟨s2, o, st, r⟩ := k T locs hT hH hF
  exact ⟨s2, o, XS.ior (Stand.here hT) hx rfl (hb hby hd) rfl st, r⟩
theorem W.ixor {x z : Int32} (K : Ctx X l Z R y code maxL ret) (pc' : Nat) (hd : decode code pc = .ok (.ixor, 1)) (k : WP X Z rc rs Q pc' L (.int (x ^^^ z) :: S) os ce sl) (hp : pc + 1 = pc' := by rfl) : WP X Z rc rs Q pc L (.int z :: .int x :: S) os ce sl := by
  obtain ⟨p, l', e, R', s, m, args, below, meth, c⟩ := X
  obtain ⟨h1, h2, hx, hZ, hby, hml, hown, hnm, hret, hlk⟩ := K
  have h2' : R' = R := h2
  subst h2'
  subst hp
  intro T locs hT0 hH hF
  have hT : Stand p l' e R' s m args below meth c T locs ce sl := hT0
  obtain ⟨s2, o, st, r⟩ := k T locs hT hH hF
  exact ⟨s2, o, XS.ixor (Stand.here hT) hx rfl (hb hby hd) rfl st, r⟩
theorem W.ishl {x z : Int32} (K : Ctx X l Z R y code maxL ret) (pc' : Nat) (hd : decode code pc = .ok (.ishl, 1)) (k : WP X Z rc rs Q pc' L (.int (x <<< (z &&& 31)) :: S) os ce sl) (hp : pc + 1 = pc' := by rfl) : WP X Z rc rs Q pc L (.int z :: .int x :: S) os ce sl := by
  obtain ⟨p, l', e, R', s, m, args, below, meth, c⟩ := X
  obtain ⟨h1, h2, hx, hZ, hby, hml, hown, hnm, hret, hlk⟩ := K
  have h2' : R' = R := h2
  subst h2'
  subst hp
  intro T locs hT0 hH hF
  have hT : Stand p l' e R' s m args below meth c T locs ce sl := hT0
  obtain ⟨s2, o, st, r⟩ := k T locs hT hH hF
  exact ⟨s2, o, XS.ishl (Stand.here hT) hx rfl (hb hby hd) rfl st, r⟩
theorem W.ishr {x z : Int32} (K : Ctx X l Z R y code maxL ret) (pc' : Nat) (hd : decode code pc = .ok (.ishr, 1)) (k : WP X Z rc rs Q pc' L (.int (x >>> (z &&& 31)) :: S) os ce sl) (hp : pc + 1 = pc' := by rfl) : WP X Z rc rs Q pc L (.int z :: .int x :: S) os ce sl := by
  obtain ⟨p, l', e, R', s, m, args, below, meth, c⟩ := X
  obtain ⟨h1, h2, hx, hZ, hby, hml, hown, hnm, hret, hlk⟩ := K
  have h2' : R' = R := h2
  subst h2'
  subst hp
  intro T locs hT0 hH hF
  have hT : Stand p l' e R' s m args below meth c T locs ce sl := hT0
  obtain ⟨s2, o, st, r⟩ := k T locs hT hH hF
  exact ⟨s2, o, XS.ishr (Stand.here hT) hx rfl (hb hby hd) rfl st, r⟩
theorem W.iushr {x z : Int32} (K : Ctx X l Z R y code maxL ret) (pc' : Nat) (hd : decode code pc = .ok (.iushr, 1)) (k : WP X Z rc rs Q pc' L (.int ((x.toUInt32 >>> (z &&& 31).toUInt32).toInt32) :: S) os ce sl) (hp : pc + 1 = pc' := by rfl) : WP X Z rc rs Q pc L (.int z :: .int x :: S) os ce sl := by
  obtain ⟨p, l', e, R', s, m, args, below, meth, c⟩ := X
  obtain ⟨h1, h2, hx, hZ, hby, hml, hown, hnm, hret, hlk⟩ := K
  have h2' : R' = R := h2
  subst h2'
  subst hp
  intro T locs hT0 hH hF
  have hT : Stand p l' e R' s m args below meth c T locs ce sl := hT0
  obtain ⟨s2, o, st, r⟩ := k T locs hT hH hF
  exact ⟨s2, o, XS.iushr (Stand.here hT) hx rfl (hb hby hd) rfl st, r⟩
theorem W.ladd {x z : Int64} (K : Ctx X l Z R y code maxL ret) (pc' : Nat) (hd : decode code pc = .ok (.ladd, 1)) (k : WP X Z rc rs Q pc' L (.long (x + z) :: S) os ce sl) (hp : pc + 1 = pc' := by rfl) : WP X Z rc rs Q pc L (.long z :: .long x :: S) os ce sl := by
  obtain ⟨p, l', e, R', s, m, args, below, meth, c⟩ := X
  obtain ⟨h1, h2, hx, hZ, hby, hml, hown, hnm, hret, hlk⟩ := K
  have h2' : R' = R := h2
  subst h2'
  subst hp
  intro T locs hT0 hH hF
  have hT : Stand p l' e R' s m args below meth c T locs ce sl := hT0
  obtain ⟨s2, o, st, r⟩ := k T locs hT hH hF
  exact ⟨s2, o, XS.ladd (Stand.here hT) hx rfl (hb hby hd) rfl st, r⟩
theorem W.lsub {x z : Int64} (K : Ctx X l Z R y code maxL ret) (pc' : Nat) (hd : decode code pc = .ok (.lsub, 1)) (k : WP X Z rc rs Q pc' L (.long (x - z) :: S) os ce sl) (hp : pc + 1 = pc' := by rfl) : WP X Z rc rs Q pc L (.long z :: .long x :: S) os ce sl := by
  obtain ⟨p, l', e, R', s, m, args, below, meth, c⟩ := X
  obtain ⟨h1, h2, hx, hZ, hby, hml, hown, hnm, hret, hlk⟩ := K
  have h2' : R' = R := h2
  subst h2'
  subst hp
  intro T locs hT0 hH hF
  have hT : Stand p l' e R' s m args below meth c T locs ce sl := hT0
  obtain ⟨s2, o, st, r⟩ := k T locs hT hH hF
  exact ⟨s2, o, XS.lsub (Stand.here hT) hx rfl (hb hby hd) rfl st, r⟩
theorem W.lmul {x z : Int64} (K : Ctx X l Z R y code maxL ret) (pc' : Nat) (hd : decode code pc = .ok (.lmul, 1)) (k : WP X Z rc rs Q pc' L (.long (x * z) :: S) os ce sl) (hp : pc + 1 = pc' := by rfl) : WP X Z rc rs Q pc L (.long z :: .long x :: S) os ce sl := by
  obtain ⟨p, l', e, R', s, m, args, below, meth, c⟩ := X
  obtain ⟨h1, h2, hx, hZ, hby, hml, hown, hnm, hret, hlk⟩ := K
  have h2' : R' = R := h2
  subst h2'
  subst hp
  intro T locs hT0 hH hF
  have hT : Stand p l' e R' s m args below meth c T locs ce sl := hT0
  obtain ⟨s2, o, st, r⟩ := k T locs hT hH hF
  exact ⟨s2, o, XS.lmul (Stand.here hT) hx rfl (hb hby hd) rfl st, r⟩
theorem W.land {x z : Int64} (K : Ctx X l Z R y code maxL ret) (pc' : Nat) (hd : decode code pc = .ok (.land, 1)) (k : WP X Z rc rs Q pc' L (.long (x &&& z) :: S) os ce sl) (hp : pc + 1 = pc' := by rfl) : WP X Z rc rs Q pc L (.long z :: .long x :: S) os ce sl := by
  obtain ⟨p, l', e, R', s, m, args, below, meth, c⟩ := X
  obtain ⟨h1, h2, hx, hZ, hby, hml, hown, hnm, hret, hlk⟩ := K
  have h2' : R' = R := h2
  subst h2'
  subst hp
  intro T locs hT0 hH hF
  have hT : Stand p l' e R' s m args below meth c T locs ce sl := hT0
  obtain ⟨s2, o, st, r⟩ := k T locs hT hH hF
  exact ⟨s2, o, XS.land (Stand.here hT) hx rfl (hb hby hd) rfl st, r⟩
theorem W.lor {x z : Int64} (K : Ctx X l Z R y code maxL ret) (pc' : Nat) (hd : decode code pc = .ok (.lor, 1)) (k : WP X Z rc rs Q pc' L (.long (x ||| z) :: S) os ce sl) (hp : pc + 1 = pc' := by rfl) : WP X Z rc rs Q pc L (.long z :: .long x :: S) os ce sl := by
  obtain ⟨p, l', e, R', s, m, args, below, meth, c⟩ := X
  obtain ⟨h1, h2, hx, hZ, hby, hml, hown, hnm, hret, hlk⟩ := K
  have h2' : R' = R := h2
  subst h2'
  subst hp
  intro T locs hT0 hH hF
  have hT : Stand p l' e R' s m args below meth c T locs ce sl := hT0
  obtain ⟨s2, o, st, r⟩ := k T locs hT hH hF
  exact ⟨s2, o, XS.lor (Stand.here hT) hx rfl (hb hby hd) rfl st, r⟩
theorem W.lxor {x z : Int64} (K : Ctx X l Z R y code maxL ret) (pc' : Nat) (hd : decode code pc = .ok (.lxor, 1)) (k : WP X Z rc rs Q pc' L (.long (x ^^^ z) :: S) os ce sl) (hp : pc + 1 = pc' := by rfl) : WP X Z rc rs Q pc L (.long z :: .long x :: S) os ce sl := by
  obtain ⟨p, l', e, R', s, m, args, below, meth, c⟩ := X
  obtain ⟨h1, h2, hx, hZ, hby, hml, hown, hnm, hret, hlk⟩ := K
  have h2' : R' = R := h2
  subst h2'
  subst hp
  intro T locs hT0 hH hF
  have hT : Stand p l' e R' s m args below meth c T locs ce sl := hT0
  obtain ⟨s2, o, st, r⟩ := k T locs hT hH hF
  exact ⟨s2, o, XS.lxor (Stand.here hT) hx rfl (hb hby hd) rfl st, r⟩
theorem W.lshl {x : Int64} {z : Int32} (K : Ctx X l Z R y code maxL ret) (pc' : Nat) (hd : decode code pc = .ok (.lshl, 1)) (k : WP X Z rc rs Q pc' L (.long (x <<< (z &&& 0x3f).toInt64) :: S) os ce sl) (hp : pc + 1 = pc' := by rfl) : WP X Z rc rs Q pc L (.int z :: .long x :: S) os ce sl := by
  obtain ⟨p, l', e, R', s, m, args, below, meth, c⟩ := X
  obtain ⟨h1, h2, hx, hZ, hby, hml, hown, hnm, hret, hlk⟩ := K
  have h2' : R' = R := h2
  subst h2'
  subst hp
  intro T locs hT0 hH hF
  have hT : Stand p l' e R' s m args below meth c T locs ce sl := hT0
  obtain ⟨s2, o, st, r⟩ := k T locs hT hH hF
  exact ⟨s2, o, XS.lshl (Stand.here hT) hx rfl (hb hby hd) rfl st, r⟩
theorem W.lshr {x : Int64} {z : Int32} (K : Ctx X l Z R y code maxL ret) (pc' : Nat) (hd : decode code pc = .ok (.lshr, 1)) (k : WP X Z rc rs Q pc' L (.long (x >>> (z &&& 0x3f).toInt64) :: S) os ce sl) (hp : pc + 1 = pc' := by rfl) : WP X Z rc rs Q pc L (.int z :: .long x :: S) os ce sl := by
  obtain ⟨p, l', e, R', s, m, args, below, meth, c⟩ := X
  obtain ⟨h1, h2, hx, hZ, hby, hml, hown, hnm, hret, hlk⟩ := K
  have h2' : R' = R := h2
  subst h2'
  subst hp
  intro T locs hT0 hH hF
  have hT : Stand p l' e R' s m args below meth c T locs ce sl := hT0
  obtain ⟨s2, o, st, r⟩ := k T locs hT hH hF
  exact ⟨s2, o, XS.lshr (Stand.here hT) hx rfl (hb hby hd) rfl st, r⟩
theorem W.lushr {x : Int64} {z : Int32} (K : Ctx X l Z R y code maxL ret) (pc' : Nat) (hd : decode code pc = .ok (.lushr, 1)) (k : WP X Z rc rs Q pc' L (.long ((x.toUInt64 >>> (z &&& 0x3f).toInt64.toUInt64).toInt64) :: S) os ce sl) (hp : pc + 1 = pc' := by rfl) : WP X Z rc rs Q pc L (.int z :: .long x :: S) os ce sl := by
  obtain ⟨p, l', e, R', s, m, args, below, meth, c⟩ := X
  obtain ⟨h1, h2, hx, hZ, hby, hml, hown, hnm, hret, hlk⟩ := K
  have h2' : R' = R := h2
  subst h2'
  subst hp
  intro T locs hT0 hH hF
  have hT : Stand p l' e R' s m args below meth c T locs ce sl := hT0
  obtain ⟨s2, o, st, r⟩ := k T locs hT hH hF
  exact ⟨s2, o, XS.lushr (Stand.here hT) hx rfl (hb hby hd) rfl st, r⟩
theorem W.ineg {x : Int32} (K : Ctx X l Z R y code maxL ret) (pc' : Nat) (hd : decode code pc = .ok (.ineg, 1)) (k : WP X Z rc rs Q pc' L (.int (-x) :: S) os ce sl) (hp : pc + 1 = pc' := by rfl) : WP X Z rc rs Q pc L (.int x :: S) os ce sl := by
  obtain ⟨p, l', e, R', s, m, args, below, meth, c⟩ := X
  obtain ⟨h1, h2, hx, hZ, hby, hml, hown, hnm, hret, hlk⟩ := K
  have h2' : R' = R := h2
  subst h2'
  subst hp
  intro T locs hT0 hH hF
  have hT : Stand p l' e R' s m args below meth c T locs ce sl := hT0
  obtain ⟨s2, o, st, r⟩ := k T locs hT hH hF
  exact ⟨s2, o, XS.ineg (Stand.here hT) hx rfl (hb hby hd) rfl st, r⟩
theorem W.lneg {x : Int64} (K : Ctx X l Z R y code maxL ret) (pc' : Nat) (hd : decode code pc = .ok (.lneg, 1)) (k : WP X Z rc rs Q pc' L (.long (-x) :: S) os ce sl) (hp : pc + 1 = pc' := by rfl) : WP X Z rc rs Q pc L (.long x :: S) os ce sl := by
  obtain ⟨p, l', e, R', s, m, args, below, meth, c⟩ := X
  obtain ⟨h1, h2, hx, hZ, hby, hml, hown, hnm, hret, hlk⟩ := K
  have h2' : R' = R := h2
  subst h2'
  subst hp
  intro T locs hT0 hH hF
  have hT : Stand p l' e R' s m args below meth c T locs ce sl := hT0
  obtain ⟨s2, o, st, r⟩ := k T locs hT hH hF
  exact ⟨s2, o, XS.lneg (Stand.here hT) hx rfl (hb hby hd) rfl st, r⟩
theorem W.i2l {x : Int32} (K : Ctx X l Z R y code maxL ret) (pc' : Nat) (hd : decode code pc = .ok (.i2l, 1)) (k : WP X Z rc rs Q pc' L (.long x.toInt64 :: S) os ce sl) (hp : pc + 1 = pc' := by rfl) : WP X Z rc rs Q pc L (.int x :: S) os ce sl := by
  obtain ⟨p, l', e, R', s, m, args, below, meth, c⟩ := X
  obtain ⟨h1, h2, hx, hZ, hby, hml, hown, hnm, hret, hlk⟩ := K
  have h2' : R' = R := h2
  subst h2'
  subst hp
  intro T locs hT0 hH hF
  have hT : Stand p l' e R' s m args below meth c T locs ce sl := hT0
  obtain ⟨s2, o, st, r⟩ := k T locs hT hH hF
  exact ⟨s2, o, XS.i2l (Stand.here hT) hx rfl (hb hby hd) rfl st, r⟩
theorem W.l2i {x : Int64} (K : Ctx X l Z R y code maxL ret) (pc' : Nat) (hd : decode code pc = .ok (.l2i, 1)) (k : WP X Z rc rs Q pc' L (.int x.toInt32 :: S) os ce sl) (hp : pc + 1 = pc' := by rfl) : WP X Z rc rs Q pc L (.long x :: S) os ce sl := by
  obtain ⟨p, l', e, R', s, m, args, below, meth, c⟩ := X
  obtain ⟨h1, h2, hx, hZ, hby, hml, hown, hnm, hret, hlk⟩ := K
  have h2' : R' = R := h2
  subst h2'
  subst hp
  intro T locs hT0 hH hF
  have hT : Stand p l' e R' s m args below meth c T locs ce sl := hT0
  obtain ⟨s2, o, st, r⟩ := k T locs hT hH hF
  exact ⟨s2, o, XS.l2i (Stand.here hT) hx rfl (hb hby hd) rfl st, r⟩
theorem W.i2b {x : Int32} (K : Ctx X l Z R y code maxL ret) (pc' : Nat) (hd : decode code pc = .ok (.i2b, 1)) (k : WP X Z rc rs Q pc' L (.int x.toInt8.toInt32 :: S) os ce sl) (hp : pc + 1 = pc' := by rfl) : WP X Z rc rs Q pc L (.int x :: S) os ce sl := by
  obtain ⟨p, l', e, R', s, m, args, below, meth, c⟩ := X
  obtain ⟨h1, h2, hx, hZ, hby, hml, hown, hnm, hret, hlk⟩ := K
  have h2' : R' = R := h2
  subst h2'
  subst hp
  intro T locs hT0 hH hF
  have hT : Stand p l' e R' s m args below meth c T locs ce sl := hT0
  obtain ⟨s2, o, st, r⟩ := k T locs hT hH hF
  exact ⟨s2, o, XS.i2b (Stand.here hT) hx rfl (hb hby hd) rfl st, r⟩
theorem W.i2c {x : Int32} (K : Ctx X l Z R y code maxL ret) (pc' : Nat) (hd : decode code pc = .ok (.i2c, 1)) (k : WP X Z rc rs Q pc' L (.int x.toUInt32.toUInt16.toUInt32.toInt32 :: S) os ce sl) (hp : pc + 1 = pc' := by rfl) : WP X Z rc rs Q pc L (.int x :: S) os ce sl := by
  obtain ⟨p, l', e, R', s, m, args, below, meth, c⟩ := X
  obtain ⟨h1, h2, hx, hZ, hby, hml, hown, hnm, hret, hlk⟩ := K
  have h2' : R' = R := h2
  subst h2'
  subst hp
  intro T locs hT0 hH hF
  have hT : Stand p l' e R' s m args below meth c T locs ce sl := hT0
  obtain ⟨s2, o, st, r⟩ := k T locs hT hH hF
  exact ⟨s2, o, XS.i2c (Stand.here hT) hx rfl (hb hby hd) rfl st, r⟩
theorem W.i2s {x : Int32} (K : Ctx X l Z R y code maxL ret) (pc' : Nat) (hd : decode code pc = .ok (.i2s, 1)) (k : WP X Z rc rs Q pc' L (.int x.toInt16.toInt32 :: S) os ce sl) (hp : pc + 1 = pc' := by rfl) : WP X Z rc rs Q pc L (.int x :: S) os ce sl := by
  obtain ⟨p, l', e, R', s, m, args, below, meth, c⟩ := X
  obtain ⟨h1, h2, hx, hZ, hby, hml, hown, hnm, hret, hlk⟩ := K
  have h2' : R' = R := h2
  subst h2'
  subst hp
  intro T locs hT0 hH hF
  have hT : Stand p l' e R' s m args below meth c T locs ce sl := hT0
  obtain ⟨s2, o, st, r⟩ := k T locs hT hH hF
  exact ⟨s2, o, XS.i2s (Stand.here hT) hx rfl (hb hby hd) rfl st, r⟩
theorem W.idiv {x z : Int32} (K : Ctx X l Z R y code maxL ret) (pc' : Nat) (hd : decode code pc = .ok (.idiv, 1)) (hz : z ≠ 0) (k : WP X Z rc rs Q pc' L (.int (x / z) :: S) os ce sl) (hp : pc + 1 = pc' := by rfl) : WP X Z rc rs Q pc L (.int z :: .int x :: S) os ce sl := by
  obtain ⟨p, l', e, R', s, m, args, below, meth, c⟩ := X
  obtain ⟨h1, h2, hx, hZ, hby, hml, hown, hnm, hret, hlk⟩ := K
  have h2' : R' = R := h2
  subst h2'
  subst hp
  intro T locs hT0 hH hF
  have hT : Stand p l' e R' s m args below meth c T locs ce sl := hT0
  obtain ⟨s2, o, st, r⟩ := k T locs hT hH hF
  exact ⟨s2, o, XS.idiv (Stand.here hT) hx rfl (hb hby hd) rfl hz st, r⟩
theorem W.ldiv {x z : Int64} (K : Ctx X l Z R y code maxL ret) (pc' : Nat) (hd : decode code pc = .ok (.ldiv, 1)) (hz : z ≠ 0) (k : WP X Z rc rs Q pc' L (.long (x / z) :: S) os ce sl) (hp : pc + 1 = pc' := by rfl) : WP X Z rc rs Q pc L (.long z :: .long x :: S) os ce sl := by
  obtain ⟨p, l', e, R', s, m, args, below, meth, c⟩ := X
  obtain ⟨h1, h2, hx, hZ, hby, hml, hown, hnm, hret, hlk⟩ := K
  have h2' : R' = R := h2
  subst h2'
  subst hp
  intro T locs hT0 hH hF
  have hT : Stand p l' e R' s m args below meth c T locs ce sl := hT0
  obtain ⟨s2, o, st, r⟩ := k T locs hT hH hF
  exact ⟨s2, o, XS.ldiv (Stand.here hT) hx rfl (hb hby hd) rfl hz st, r⟩
theorem W.irem {x z : Int32} (K : Ctx X l Z R y code maxL ret) (pc' : Nat) (hd : decode code pc = .ok (.irem, 1)) (hz : z ≠ 0) (k : WP X Z rc rs Q pc' L (.int (x % z) :: S) os ce sl) (hp : pc + 1 = pc' := by rfl) : WP X Z rc rs Q pc L (.int z :: .int x :: S) os ce sl := by
  obtain ⟨p, l', e, R', s, m, args, below, meth, c⟩ := X
  obtain ⟨h1, h2, hx, hZ, hby, hml, hown, hnm, hret, hlk⟩ := K
  have h2' : R' = R := h2
  subst h2'
  subst hp
  intro T locs hT0 hH hF
  have hT : Stand p l' e R' s m args below meth c T locs ce sl := hT0
  obtain ⟨s2, o, st, r⟩ := k T locs hT hH hF
  exact ⟨s2, o, iremM hT hx rfl (hb hby hd) rfl hz st, r⟩
theorem W.dup {x : Value} (K : Ctx X l Z R y code maxL ret) (pc' : Nat) (hd : decode code pc = .ok (.dup, 1)) (k : WP X Z rc rs Q pc' L (x :: x :: S) os ce sl) (hc : x.category = 1 := by rfl) (hp : pc + 1 = pc' := by rfl) : WP X Z rc rs Q pc L (x :: S) os ce sl := by
  obtain ⟨p, l', e, R', s, m, args, below, meth, c⟩ := X
  obtain ⟨h1, h2, hx, hZ, hby, hml, hown, hnm, hret, hlk⟩ := K
  have h2' : R' = R := h2
  subst h2'
  subst hp
  intro T locs hT0 hH hF
  have hT : Stand p l' e R' s m args below meth c T locs ce sl := hT0
  obtain ⟨s2, o, st, r⟩ := k T locs hT hH hF
  exact ⟨s2, o, XS.dup (Stand.here hT) hx rfl (hb hby hd) rfl hc st, r⟩
theorem W.popx {x : Value} (K : Ctx X l Z R y code maxL ret) (pc' : Nat) (hd : decode code pc = .ok (.pop, 1)) (k : WP X Z rc rs Q pc' L S os ce sl) (hc : x.category = 1 := by rfl) (hp : pc + 1 = pc' := by rfl) : WP X Z rc rs Q pc L (x :: S) os ce sl := by
  obtain ⟨p, l', e, R', s, m, args, below, meth, c⟩ := X
  obtain ⟨h1, h2, hx, hZ, hby, hml, hown, hnm, hret, hlk⟩ := K
  have h2' : R' = R := h2
  subst h2'
  subst hp
  intro T locs hT0 hH hF
  have hT : Stand p l' e R' s m args below meth c T locs ce sl := hT0
  obtain ⟨s2, o, st, r⟩ := k T locs hT hH hF
  exact ⟨s2, o, XS.pop (Stand.here hT) hx rfl (hb hby hd) rfl hc st, r⟩
theorem W.dupX1 {x z : Value} (K : Ctx X l Z R y code maxL ret) (pc' : Nat) (hd : decode code pc = .ok (.dup_x1, 1)) (k : WP X Z rc rs Q pc' L (x :: z :: x :: S) os ce sl) (hc : x.category = 1 := by rfl) (hc2 : z.category = 1 := by rfl) (hp : pc + 1 = pc' := by rfl) : WP X Z rc rs Q pc L (x :: z :: S) os ce sl := by
  obtain ⟨p, l', e, R', s, m, args, below, meth, c⟩ := X
  obtain ⟨h1, h2, hx, hZ, hby, hml, hown, hnm, hret, hlk⟩ := K
  have h2' : R' = R := h2
  subst h2'
  subst hp
  intro T locs hT0 hH hF
  have hT : Stand p l' e R' s m args below meth c T locs ce sl := hT0
  obtain ⟨s2, o, st, r⟩ := k T locs hT hH hF
  exact ⟨s2, o, XS.dupX1 (Stand.here hT) hx rfl (hb hby hd) rfl hc hc2 st, r⟩
theorem W.dup2 {x z : Value} (K : Ctx X l Z R y code maxL ret) (pc' : Nat) (hd : decode code pc = .ok (.dup2, 1)) (k : WP X Z rc rs Q pc' L (x :: z :: x :: z :: S) os ce sl) (hc : x.category = 1 := by rfl) (hc2 : z.category = 1 := by rfl) (hp : pc + 1 = pc' := by rfl) : WP X Z rc rs Q pc L (x :: z :: S) os ce sl := by
  obtain ⟨p, l', e, R', s, m, args, below, meth, c⟩ := X
  obtain ⟨h1, h2, hx, hZ, hby, hml, hown, hnm, hret, hlk⟩ := K
  have h2' : R' = R := h2
  subst h2'
  subst hp
  intro T locs hT0 hH hF
  have hT : Stand p l' e R' s m args below meth c T locs ce sl := hT0
  obtain ⟨s2, o, st, r⟩ := k T locs hT hH hF
  exact ⟨s2, o, XT.dup2 (Stand.here hT) hx rfl (hb hby hd) rfl hc hc2 st, r⟩
theorem W.dup2L {x : Int64} (K : Ctx X l Z R y code maxL ret) (pc' : Nat) (hd : decode code pc = .ok (.dup2, 1)) (k : WP X Z rc rs Q pc' L (.long x :: .long x :: S) os ce sl)  (hp : pc + 1 = pc' := by rfl) : WP X Z rc rs Q pc L (.long x :: S) os ce sl := by
  obtain ⟨p, l', e, R', s, m, args, below, meth, c⟩ := X
  obtain ⟨h1, h2, hx, hZ, hby, hml, hown, hnm, hret, hlk⟩ := K
  have h2' : R' = R := h2
  subst h2'
  subst hp
  intro T locs hT0 hH hF
  have hT : Stand p l' e R' s m args below meth c T locs ce sl := hT0
  obtain ⟨s2, o, st, r⟩ := k T locs hT hH hF
  exact ⟨s2, o, XT.dup2L (Stand.here hT) hx rfl (hb hby hd) rfl st, r⟩
theorem W.iconst {i : Int} (K : Ctx X l Z R y code maxL ret) (pc' : Nat) (hd : decode code pc = .ok (.iconst i, 1)) (v : Int32) (hv : Int32.ofInt i = v) (k : WP X Z rc rs Q pc' L (.int v :: S) os ce sl) (hp : pc + 1 = pc' := by rfl) : WP X Z rc rs Q pc L S os ce sl := by
  obtain ⟨p, l', e, R', s, m, args, below, meth, c⟩ := X
  obtain ⟨h1, h2, hx, hZ, hby, hml, hown, hnm, hret, hlk⟩ := K
  have h2' : R' = R := h2
  subst h2'
  subst hp
  intro T locs hT0 hH hF
  have hT : Stand p l' e R' s m args below meth c T locs ce sl := hT0
  obtain ⟨s2, o, st, r⟩ := k T locs hT hH hF
  exact ⟨s2, o, XS.iconst (Stand.here hT) hx rfl (hb hby hd) (hv ▸ st), r⟩
theorem W.bipush {i : Int} (K : Ctx X l Z R y code maxL ret) (pc' : Nat) (hd : decode code pc = .ok (.bipush i, 2)) (v : Int32) (hv : (Int8.ofInt i).toInt32 = v) (k : WP X Z rc rs Q pc' L (.int v :: S) os ce sl) (hp : pc + 2 = pc' := by rfl) : WP X Z rc rs Q pc L S os ce sl := by
  obtain ⟨p, l', e, R', s, m, args, below, meth, c⟩ := X
  obtain ⟨h1, h2, hx, hZ, hby, hml, hown, hnm, hret, hlk⟩ := K
  have h2' : R' = R := h2
  subst h2'
  subst hp
  intro T locs hT0 hH hF
  have hT : Stand p l' e R' s m args below meth c T locs ce sl := hT0
  obtain ⟨s2, o, st, r⟩ := k T locs hT hH hF
  exact ⟨s2, o, XS.bipush (Stand.here hT) hx rfl (hb hby hd) (hv ▸ st), r⟩
theorem W.sipush {i : Int} (K : Ctx X l Z R y code maxL ret) (pc' : Nat) (hd : decode code pc = .ok (.sipush i, 3)) (v : Int32) (hv : (Int16.ofInt i).toInt32 = v) (k : WP X Z rc rs Q pc' L (.int v :: S) os ce sl) (hp : pc + 3 = pc' := by rfl) : WP X Z rc rs Q pc L S os ce sl := by
  obtain ⟨p, l', e, R', s, m, args, below, meth, c⟩ := X
  obtain ⟨h1, h2, hx, hZ, hby, hml, hown, hnm, hret, hlk⟩ := K
  have h2' : R' = R := h2
  subst h2'
  subst hp
  intro T locs hT0 hH hF
  have hT : Stand p l' e R' s m args below meth c T locs ce sl := hT0
  obtain ⟨s2, o, st, r⟩ := k T locs hT hH hF
  exact ⟨s2, o, XS.sipush (Stand.here hT) hx rfl (hb hby hd) (hv ▸ st), r⟩
theorem W.lconst {i : Fin 2} (K : Ctx X l Z R y code maxL ret) (pc' : Nat) (hd : decode code pc = .ok (.lconst i, 1)) (v : Int64) (hv : Int64.ofNat i = v) (k : WP X Z rc rs Q pc' L (.long v :: S) os ce sl) (hp : pc + 1 = pc' := by rfl) : WP X Z rc rs Q pc L S os ce sl := by
  obtain ⟨p, l', e, R', s, m, args, below, meth, c⟩ := X
  obtain ⟨h1, h2, hx, hZ, hby, hml, hown, hnm, hret, hlk⟩ := K
  have h2' : R' = R := h2
  subst h2'
  subst hp
  intro T locs hT0 hH hF
  have hT : Stand p l' e R' s m args below meth c T locs ce sl := hT0
  obtain ⟨s2, o, st, r⟩ := k T locs hT hH hF
  exact ⟨s2, o, XS.lconst (Stand.here hT) hx rfl (hb hby hd) (hv ▸ st), r⟩
theorem W.aconst  (K : Ctx X l Z R y code maxL ret) (pc' : Nat) (hd : decode code pc = .ok (.aconst_null, 1)) (k : WP X Z rc rs Q pc' L (.null :: S) os ce sl) (hp : pc + 1 = pc' := by rfl) : WP X Z rc rs Q pc L S os ce sl := by
  obtain ⟨p, l', e, R', s, m, args, below, meth, c⟩ := X
  obtain ⟨h1, h2, hx, hZ, hby, hml, hown, hnm, hret, hlk⟩ := K
  have h2' : R' = R := h2
  subst h2'
  subst hp
  intro T locs hT0 hH hF
  have hT : Stand p l' e R' s m args below meth c T locs ce sl := hT0
  obtain ⟨s2, o, st, r⟩ := k T locs hT hH hF
  exact ⟨s2, o, XS.aconstNull (Stand.here hT) hx rfl (hb hby hd) st, r⟩
theorem W.iload {n : Nat} {v : Int32} (K : Ctx X l Z R y code maxL ret) (pc' : Nat) (hd : decode code pc = .ok (.iload n, 2)) (hl : L[n]? = some (.val (.int v))) (k : WP X Z rc rs Q pc' L (.int v :: S) os ce sl) (hp : pc + 2 = pc' := by rfl) : WP X Z rc rs Q pc L S os ce sl := by
  obtain ⟨p, l', e, R', s, m, args, below, meth, c⟩ := X
  obtain ⟨h1, h2, hx, hZ, hby, hml, hown, hnm, hret, hlk⟩ := K
  have h2' : R' = R := h2
  subst h2'
  subst hp
  intro T locs hT0 hH hF
  have hT : Stand p l' e R' s m args below meth c T locs ce sl := hT0
  obtain ⟨s2, o, st, r⟩ := k T locs hT hH hF
  exact ⟨s2, o, XS.iload (Stand.here hT) hx rfl (hb hby hd) (by simpa using hl) st, r⟩
theorem W.iloadN {n : Fin 4} {v : Int32} (K : Ctx X l Z R y code maxL ret) (pc' : Nat) (hd : decode code pc = .ok (.iload_n n, 1)) (i : Nat) (hi : n.val = i) (hl : L[i]? = some (.val (.int v))) (k : WP X Z rc rs Q pc' L (.int v :: S) os ce sl) (hp : pc + 1 = pc' := by rfl) : WP X Z rc rs Q pc L S os ce sl := by
  obtain ⟨p, l', e, R', s, m, args, below, meth, c⟩ := X
  obtain ⟨h1, h2, hx, hZ, hby, hml, hown, hnm, hret, hlk⟩ := K
  have h2' : R' = R := h2
  subst h2'
  subst hp
  intro T locs hT0 hH hF
  have hT : Stand p l' e R' s m args below meth c T locs ce sl := hT0
  obtain ⟨s2, o, st, r⟩ := k T locs hT hH hF
  exact ⟨s2, o, XS.iloadN (Stand.here hT) hx rfl (hb hby hd) (by rw [hi]; simpa using hl) st, r⟩
theorem W.lload {n : Nat} {v : Int64} (K : Ctx X l Z R y code maxL ret) (pc' : Nat) (hd : decode code pc = .ok (.lload n, 2)) (hl : L[n]? = some (.val (.long v))) (k : WP X Z rc rs Q pc' L (.long v :: S) os ce sl) (hp : pc + 2 = pc' := by rfl) : WP X Z rc rs Q pc L S os ce sl := by
  obtain ⟨p, l', e, R', s, m, args, below, meth, c⟩ := X
  obtain ⟨h1, h2, hx, hZ, hby, hml, hown, hnm, hret, hlk⟩ := K
  have h2' : R' = R := h2
  subst h2'
  subst hp
  intro T locs hT0 hH hF
  have hT : Stand p l' e R' s m args below meth c T locs ce sl := hT0
  obtain ⟨s2, o, st, r⟩ := k T locs hT hH hF
  exact ⟨s2, o, XS.lload (Stand.here hT) hx rfl (hb hby hd) (by simpa using hl) st, r⟩
theorem W.lloadN {n : Fin 4} {v : Int64} (K : Ctx X l Z R y code maxL ret) (pc' : Nat) (hd : decode code pc = .ok (.lload_n n, 1)) (i : Nat) (hi : n.val = i) (hl : L[i]? = some (.val (.long v))) (k : WP X Z rc rs Q pc' L (.long v :: S) os ce sl) (hp : pc + 1 = pc' := by rfl) : WP X Z rc rs Q pc L S os ce sl := by
  obtain ⟨p, l', e, R', s, m, args, below, meth, c⟩ := X
  obtain ⟨h1, h2, hx, hZ, hby, hml, hown, hnm, hret, hlk⟩ := K
  have h2' : R' = R := h2
  subst h2'
  subst hp
  intro T locs hT0 hH hF
  have hT : Stand p l' e R' s m args below meth c T locs ce sl := hT0
  obtain ⟨s2, o, st, r⟩ := k T locs hT hH hF
  exact ⟨s2, o, XS.lloadN (Stand.here hT) hx rfl (hb hby hd) (by rw [hi]; simpa using hl) st, r⟩
theorem W.aload {n : Nat} {v : Value} (K : Ctx X l Z R y code maxL ret) (pc' : Nat) (hd : decode code pc = .ok (.aload n, 2)) (hl : L[n]? = some (.val v)) (hv : v.isRef = true) (k : WP X Z rc rs Q pc' L (v :: S) os ce sl) (hp : pc + 2 = pc' := by rfl) : WP X Z rc rs Q pc L S os ce sl := by
  obtain ⟨p, l', e, R', s, m, args, below, meth, c⟩ := X
  obtain ⟨h1, h2, hx, hZ, hby, hml, hown, hnm, hret, hlk⟩ := K
  have h2' : R' = R := h2
  subst h2'
  subst hp
  intro T locs hT0 hH hF
  have hT : Stand p l' e R' s m args below meth c T locs ce sl := hT0
  obtain ⟨s2, o, st, r⟩ := k T locs hT hH hF
  exact ⟨s2, o, XS.aload (Stand.here hT) hx rfl (hb hby hd) (by simpa using hl) hv st, r⟩
theorem W.aloadN {n : Fin 4} {v : Value} (K : Ctx X l Z R y code maxL ret) (pc' : Nat) (hd : decode code pc = .ok (.aload_n n, 1)) (i : Nat) (hi : n.val = i) (hl : L[i]? = some (.val v)) (hv : v.isRef = true) (k : WP X Z rc rs Q pc' L (v :: S) os ce sl) (hp : pc + 1 = pc' := by rfl) : WP X Z rc rs Q pc L S os ce sl := by
  obtain ⟨p, l', e, R', s, m, args, below, meth, c⟩ := X
  obtain ⟨h1, h2, hx, hZ, hby, hml, hown, hnm, hret, hlk⟩ := K
  have h2' : R' = R := h2
  subst h2'
  subst hp
  intro T locs hT0 hH hF
  have hT : Stand p l' e R' s m args below meth c T locs ce sl := hT0
  obtain ⟨s2, o, st, r⟩ := k T locs hT hH hF
  exact ⟨s2, o, XS.aloadN (Stand.here hT) hx rfl (hb hby hd) (by rw [hi]; simpa using hl) hv st, r⟩
theorem setL0 {α : Type} {x z : α} {r : List α} : (z :: r).set 0 x = x :: r := rfl
theorem setLS {α : Type} {x z : α} {r r' : List α} {n : Nat} (h : r.set n x = r') : (z :: r).set (n + 1) x = z :: r' := by rw [List.set_cons_succ, h]
def okS : Slot → Bool
  | .unset => true
  | .val v => v.category == 1
  | .second => false
theorem okS_one {L : List Slot} {n : Nat} {v : Value} (ho : (L[n]?.map okS) = some true) (hv : v.category = 1) : storeLocals L.toArray n v = some (L.set n (.val v)).toArray := by
  cases hq : L[n]? with
  | none => simp [hq] at ho
  | some o =>
    rw [hq] at ho
    have h := XS.store1 (l := L.toArray) (i := n) (v := v) (o := o) (by simpa using hq) (by
      cases o with
      | unset => exact Or.inl rfl
      | second => simp [okS] at ho
      | val w => exact Or.inr ⟨w, rfl, by simpa [okS] using ho⟩) hv
    rw [h]; simp

theorem W.istore {n : Nat} {x : Int32} {L' : List Slot} (K : Ctx X l Z R y code maxL ret) (pc' : Nat) (hd : decode code pc = .ok (.istore n, 2)) (ho : (L[n]?.map okS) = some true) (hL : L.set n (.val (.int x)) = L') (k : WP X Z rc rs Q pc' L' S os ce sl) (hp : pc + 2 = pc' := by rfl) : WP X Z rc rs Q pc L (.int x :: S) os ce sl := by
  obtain ⟨p, l', e, R', s, m, args, below, meth, c⟩ := X
  obtain ⟨h1, h2, hx, hZ, hby, hml, hown, hnm, hret, hlk⟩ := K
  have h2' : R' = R := h2
  subst h2'
  subst hp
  intro T locs hT0 hH hF
  have hT : Stand p l' e R' s m args below meth c T locs ce sl := hT0
  obtain ⟨s2, o, st, r⟩ := k T locs hT hH hF
  exact ⟨s2, o, XS.istore (Stand.here hT) hx rfl (hb hby hd) rfl (okS_one ho rfl) (hL ▸ st), r⟩
theorem W.istoreN {n : Fin 4} {x : Int32} {L' : List Slot} (K : Ctx X l Z R y code maxL ret) (pc' : Nat) (hd : decode code pc = .ok (.istore_n n, 1)) (i : Nat) (hi : n.val = i) (ho : (L[i]?.map okS) = some true) (hL : L.set i (.val (.int x)) = L') (k : WP X Z rc rs Q pc' L' S os ce sl) (hp : pc + 1 = pc' := by rfl) : WP X Z rc rs Q pc L (.int x :: S) os ce sl := by
  obtain ⟨p, l', e, R', s, m, args, below, meth, c⟩ := X
  obtain ⟨h1, h2, hx, hZ, hby, hml, hown, hnm, hret, hlk⟩ := K
  have h2' : R' = R := h2
  subst h2'
  subst hp
  intro T locs hT0 hH hF
  have hT : Stand p l' e R' s m args below meth c T locs ce sl := hT0
  obtain ⟨s2, o, st, r⟩ := k T locs hT hH hF
  exact ⟨s2, o, XS.istoreN (Stand.here hT) hx rfl (hb hby hd) rfl (by rw [hi]; exact okS_one ho rfl) (hL ▸ st), r⟩
theorem W.astore {n : Nat} {x : Value} {L' : List Slot} (K : Ctx X l Z R y code maxL ret) (pc' : Nat) (hd : decode code pc = .ok (.astore n, 2)) (hv : x.isRef = true) (ho : (L[n]?.map okS) = some true) (hL : L.set n (.val x) = L') (k : WP X Z rc rs Q pc' L' S os ce sl) (hp : pc + 2 = pc' := by rfl) : WP X Z rc rs Q pc L (x :: S) os ce sl := by
  obtain ⟨p, l', e, R', s, m, args, below, meth, c⟩ := X
  obtain ⟨h1, h2, hx, hZ, hby, hml, hown, hnm, hret, hlk⟩ := K
  have h2' : R' = R := h2
  subst h2'
  subst hp
  intro T locs hT0 hH hF
  have hT : Stand p l' e R' s m args below meth c T locs ce sl := hT0
  obtain ⟨s2, o, st, r⟩ := k T locs hT hH hF
  exact ⟨s2, o, XS.astore (Stand.here hT) hx rfl (hb hby hd) rfl hv (okS_one ho (XT.cat1 hv)) (hL ▸ st), r⟩
theorem W.astoreN {n : Fin 4} {x : Value} {L' : List Slot} (K : Ctx X l Z R y code maxL ret) (pc' : Nat) (hd : decode code pc = .ok (.astore_n n, 1)) (i : Nat) (hi : n.val = i) (hv : x.isRef = true) (ho : (L[i]?.map okS) = some true) (hL : L.set i (.val x) = L') (k : WP X Z rc rs Q pc' L' S os ce sl) (hp : pc + 1 = pc' := by rfl) : WP X Z rc rs Q pc L (x :: S) os ce sl := by
  obtain ⟨p, l', e, R', s, m, args, below, meth, c⟩ := X
  obtain ⟨h1, h2, hx, hZ, hby, hml, hown, hnm, hret, hlk⟩ := K
  have h2' : R' = R := h2
  subst h2'
  subst hp
  intro T locs hT0 hH hF
  have hT : Stand p l' e R' s m args below meth c T locs ce sl := hT0
  obtain ⟨s2, o, st, r⟩ := k T locs hT hH hF
  exact ⟨s2, o, XS.astoreN (Stand.here hT) hx rfl (hb hby hd) rfl hv (by rw [hi]; exact okS_one ho (XT.cat1 hv)) (hL ▸ st), r⟩
theorem W.lstore {n : Nat} {x : Int64} {L1 L' : List Slot} (K : Ctx X l Z R y code maxL ret) (pc' : Nat) (hd : decode code pc = .ok (.lstore n, 2)) (hL1 : L.set n (.val (.long x)) = L1) (hL2 : L1.set (n + 1) .second = L') (k : WP X Z rc rs Q pc' L' S os ce sl) (ho : storeLocals L.toArray n (.long x) = some L'.toArray := by rfl) (hp : pc + 2 = pc' := by rfl) : WP X Z rc rs Q pc L (.long x :: S) os ce sl := by
  obtain ⟨p, l', e, R', s, m, args, below, meth, c⟩ := X
  obtain ⟨h1, h2, hx, hZ, hby, hml, hown, hnm, hret, hlk⟩ := K
  have h2' : R' = R := h2
  subst h2'
  subst hp
  intro T locs hT0 hH hF
  have hT : Stand p l' e R' s m args below meth c T locs ce sl := hT0
  obtain ⟨s2, o, st, r⟩ := k T locs hT hH hF
  exact ⟨s2, o, XS.lstore (Stand.here hT) hx rfl (hb hby hd) rfl ho st, r⟩
theorem W.lstoreN {n : Fin 4} {x : Int64} {L1 L' : List Slot} (K : Ctx X l Z R y code maxL ret) (pc' : Nat) (hd : decode code pc = .ok (.lstore_n n, 1)) (i : Nat) (hi : n.val = i) (hL1 : L.set i (.val (.long x)) = L1) (hL2 : L1.set (i + 1) .second = L') (k : WP X Z rc rs Q pc' L' S os ce sl) (ho : storeLocals L.toArray i (.long x) = some L'.toArray := by rfl) (hp : pc + 1 = pc' := by rfl) : WP X Z rc rs Q pc L (.long x :: S) os ce sl := by
  obtain ⟨p, l', e, R', s, m, args, below, meth, c⟩ := X
  obtain ⟨h1, h2, hx, hZ, hby, hml, hown, hnm, hret, hlk⟩ := K
  have h2' : R' = R := h2
  subst h2'
  subst hp
  intro T locs hT0 hH hF
  have hT : Stand p l' e R' s m args below meth c T locs ce sl := hT0
  obtain ⟨s2, o, st, r⟩ := k T locs hT hH hF
  exact ⟨s2, o, XS.lstoreN (Stand.here hT) hx rfl (hb hby hd) rfl (by rw [hi]; exact ho) st, r⟩
theorem W.iinc {n : Nat} {i : Int} {x : Int32} {L' : List Slot} (K : Ctx X l Z R y code maxL ret) (pc' : Nat) (hd : decode code pc = .ok (.iinc n i, 3)) (v : Int32) (hv : Int32.ofInt i = v) (hl : L[n]? = some (.val (.int x))) (hL : L.set n (.val (.int (x + v))) = L') (k : WP X Z rc rs Q pc' L' S os ce sl) (hp : pc + 3 = pc' := by rfl) : WP X Z rc rs Q pc L S os ce sl := by
  obtain ⟨p, l', e, R', s, m, args, below, meth, c⟩ := X
  obtain ⟨h1, h2, hx, hZ, hby, hml, hown, hnm, hret, hlk⟩ := K
  have h2' : R' = R := h2
  subst h2'
  subst hp
  intro T locs hT0 hH hF
  have hT : Stand p l' e R' s m args below meth c T locs ce sl := hT0
  obtain ⟨s2, o, st, r⟩ := k T locs hT hH hF
  exact ⟨s2, o, XS.iinc (Stand.here hT) hx rfl (hb hby hd) (by simpa using hl) (okS_one (by rw [hl]; rfl) rfl) (by subst hv; exact hL ▸ st), r⟩
theorem W.goto {o : Int} (K : Ctx X l Z R y code maxL ret) (pc' : Nat) (hd : decode code pc = .ok (.goto o, 3)) (k : WP X Z rc rs Q pc' L S os ce sl) (hp : (pc : Int) + o = (pc' : Int) := by decide) : WP X Z rc rs Q pc L S os ce sl := by
  obtain ⟨p, l', e, R', s, m, args, below, meth, c⟩ := X
  obtain ⟨h1, h2, hx, hZ, hby, hml, hown, hnm, hret, hlk⟩ := K
  have h2' : R' = R := h2
  subst h2'
  intro T locs hT0 hH hF
  have hT : Stand p l' e R' s m args below meth c T locs ce sl := hT0
  obtain ⟨s2, o', st, r⟩ := k T locs hT hH hF
  exact ⟨s2, o', XS.goto (Stand.here hT) hx rfl (pc0 := pc) rfl (hb hby hd) (by rw [hp]; exact Int.natCast_nonneg _) (by rw [hp]; rfl) st, r⟩
theorem W.icmp {cd : ClassFile.Cond} {o : Int} {x z : Int32} {F : Prop} (ht : F → if_icmp.holds cd x z = true) (hf : ¬ F → if_icmp.holds cd x z = false) (K : Ctx X l Z R y code maxL ret) (pt pf : Nat) (hd : decode code pc = .ok (.if_icmp cd o, 3)) (kt : F → WP X Z rc rs Q pt L S os ce sl) (kf : ¬ F → WP X Z rc rs Q pf L S os ce sl)
    (hp : (pc : Int) + o = (pt : Int)) (hq : pc + 3 = pf) : WP X Z rc rs Q pc L (.int z :: .int x :: S) os ce sl := by
  obtain ⟨p, l', e, R', s, m, args, below, meth, c⟩ := X
  obtain ⟨h1, h2, hx, hZ, hby, hml, hown, hnm, hret, hlk⟩ := K
  have h2' : R' = R := h2
  subst h2'
  subst hq
  intro T locs hT0 hH hF
  have hT : Stand p l' e R' s m args below meth c T locs ce sl := hT0
  by_cases h : F
  · obtain ⟨s2, o', st, r⟩ := kt h T locs hT hH hF
    exact ⟨s2, o', XS.icmpYes (Stand.here hT) hx rfl (pc0 := pc) rfl (hb hby hd) rfl (ht h) (by rw [hp]; exact Int.natCast_nonneg _) (by rw [hp]; rfl) st, r⟩
  · obtain ⟨s2, o', st, r⟩ := kf h T locs hT hH hF
    exact ⟨s2, o', XS.icmpNo (Stand.here hT) hx rfl (hb hby hd) rfl (hf h) st, r⟩
theorem W.ifc {cd : ClassFile.Cond} {o : Int} {x : Int32} {F : Prop} (ht : F → ifCond.holds cd x = true) (hf : ¬ F → ifCond.holds cd x = false) (K : Ctx X l Z R y code maxL ret) (pt pf : Nat) (hd : decode code pc = .ok (.ifCond cd o, 3)) (kt : F → WP X Z rc rs Q pt L S os ce sl) (kf : ¬ F → WP X Z rc rs Q pf L S os ce sl)
    (hp : (pc : Int) + o = (pt : Int)) (hq : pc + 3 = pf) : WP X Z rc rs Q pc L (.int x :: S) os ce sl := by
  obtain ⟨p, l', e, R', s, m, args, below, meth, c⟩ := X
  obtain ⟨h1, h2, hx, hZ, hby, hml, hown, hnm, hret, hlk⟩ := K
  have h2' : R' = R := h2
  subst h2'
  subst hq
  intro T locs hT0 hH hF
  have hT : Stand p l' e R' s m args below meth c T locs ce sl := hT0
  by_cases h : F
  · obtain ⟨s2, o', st, r⟩ := kt h T locs hT hH hF
    exact ⟨s2, o', XS.ifYes (Stand.here hT) hx rfl (pc0 := pc) rfl (hb hby hd) rfl (ht h) (by rw [hp]; exact Int.natCast_nonneg _) (by rw [hp]; rfl) st, r⟩
  · obtain ⟨s2, o', st, r⟩ := kf h T locs hT hH hF
    exact ⟨s2, o', XS.ifNo (Stand.here hT) hx rfl (hb hby hd) rfl (hf h) st, r⟩
theorem W.lcmpc {cd : ClassFile.Cond} {o : Int} {x z : Int64} {F : Prop} (ht : F → ifCond.holds cd (lcmpW x z) = true) (hf : ¬ F → ifCond.holds cd (lcmpW x z) = false) (K : Ctx X l Z R y code maxL ret) (pc1 pt pf : Nat) (hd0 : decode code pc = .ok (.lcmp, 1)) (hd : decode code pc1 = .ok (.ifCond cd o, 3)) (kt : F → WP X Z rc rs Q pt L S os ce sl) (kf : ¬ F → WP X Z rc rs Q pf L S os ce sl)
    (h1' : pc + 1 = pc1) (hp : (pc1 : Int) + o = (pt : Int)) (hq : pc1 + 3 = pf) : WP X Z rc rs Q pc L (.long z :: .long x :: S) os ce sl := by
  have k1 : WP X Z rc rs Q pc1 L (.int (lcmpW x z) :: S) os ce sl := W.ifc ht hf K pt pf hd kt kf hp hq
  obtain ⟨p, l', e, R', s, m, args, below, meth, c⟩ := X
  obtain ⟨h1, h2, hx, hZ, hby, hml, hown, hnm, hret, hlk⟩ := K
  have h2' : R' = R := h2
  subst h2'
  subst h1'
  intro T locs hT0 hH hF
  have hT : Stand p l' e R' s m args below meth c T locs ce sl := hT0
  obtain ⟨s2, o', st, r⟩ := k1 T locs hT hH hF
  exact ⟨s2, o', XS.lcmp (Stand.here hT) hx rfl (hb hby hd0) rfl st, r⟩
theorem W.icmp_eq {o : Int} {x z : Int32} (K : Ctx X l Z R y code maxL ret) (pt pf : Nat) (hd : decode code pc = .ok (.if_icmp .eq o, 3)) (kt : x = z → WP X Z rc rs Q pt L S os ce sl) (kf : ¬ (x = z) → WP X Z rc rs Q pf L S os ce sl) (hp : (pc : Int) + o = (pt : Int) := by decide) (hq : pc + 3 = pf := by rfl) : WP X Z rc rs Q pc L (.int z :: .int x :: S) os ce sl :=
  W.icmp (F := x = z) (fun h => XT.ii_eq_t h) (fun h => XT.ii_eq_f h) K pt pf hd kt (fun h => kf h) hp hq
theorem W.if_eq {o : Int} {x : Int32} (K : Ctx X l Z R y code maxL ret) (pt pf : Nat) (hd : decode code pc = .ok (.ifCond .eq o, 3)) (kt : x = 0 → WP X Z rc rs Q pt L S os ce sl) (kf : ¬ (x = 0) → WP X Z rc rs Q pf L S os ce sl) (hp : (pc : Int) + o = (pt : Int) := by decide) (hq : pc + 3 = pf := by rfl) : WP X Z rc rs Q pc L (.int x :: S) os ce sl :=
  W.ifc (F := x = 0) (fun h => XT.i0_eq_t h) (fun h => XT.i0_eq_f h) K pt pf hd kt (fun h => kf h) hp hq
theorem W.lcmp_eq {o : Int} {x z : Int64} (K : Ctx X l Z R y code maxL ret) (pc1 pt pf : Nat) (hd0 : decode code pc = .ok (.lcmp, 1)) (hd : decode code pc1 = .ok (.ifCond .eq o, 3)) (kt : x = z → WP X Z rc rs Q pt L S os ce sl) (kf : ¬ (x = z) → WP X Z rc rs Q pf L S os ce sl) (h1' : pc + 1 = pc1 := by rfl) (hp : (pc1 : Int) + o = (pt : Int) := by decide) (hq : pc1 + 3 = pf := by rfl) : WP X Z rc rs Q pc L (.long z :: .long x :: S) os ce sl :=
  W.lcmpc (F := x = z) (fun h => XT.ll_eq_t h) (fun h => XT.ll_eq_f h) K pc1 pt pf hd0 hd kt (fun h => kf h) h1' hp hq
theorem W.icmp_ne {o : Int} {x z : Int32} (K : Ctx X l Z R y code maxL ret) (pt pf : Nat) (hd : decode code pc = .ok (.if_icmp .ne o, 3)) (kt : ¬ (x = z) → WP X Z rc rs Q pt L S os ce sl) (kf : x = z → WP X Z rc rs Q pf L S os ce sl) (hp : (pc : Int) + o = (pt : Int) := by decide) (hq : pc + 3 = pf := by rfl) : WP X Z rc rs Q pc L (.int z :: .int x :: S) os ce sl :=
  W.icmp (F := ¬ (x = z)) (fun h => XT.ii_ne_t h) (fun h => XT.ii_ne_f (Classical.not_not.mp h)) K pt pf hd kt (fun h => kf (Classical.not_not.mp h)) hp hq
theorem W.if_ne {o : Int} {x : Int32} (K : Ctx X l Z R y code maxL ret) (pt pf : Nat) (hd : decode code pc = .ok (.ifCond .ne o, 3)) (kt : ¬ (x = 0) → WP X Z rc rs Q pt L S os ce sl) (kf : x = 0 → WP X Z rc rs Q pf L S os ce sl) (hp : (pc : Int) + o = (pt : Int) := by decide) (hq : pc + 3 = pf := by rfl) : WP X Z rc rs Q pc L (.int x :: S) os ce sl :=
  W.ifc (F := ¬ (x = 0)) (fun h => XT.i0_ne_t h) (fun h => XT.i0_ne_f (Classical.not_not.mp h)) K pt pf hd kt (fun h => kf (Classical.not_not.mp h)) hp hq
theorem W.lcmp_ne {o : Int} {x z : Int64} (K : Ctx X l Z R y code maxL ret) (pc1 pt pf : Nat) (hd0 : decode code pc = .ok (.lcmp, 1)) (hd : decode code pc1 = .ok (.ifCond .ne o, 3)) (kt : ¬ (x = z) → WP X Z rc rs Q pt L S os ce sl) (kf : x = z → WP X Z rc rs Q pf L S os ce sl) (h1' : pc + 1 = pc1 := by rfl) (hp : (pc1 : Int) + o = (pt : Int) := by decide) (hq : pc1 + 3 = pf := by rfl) : WP X Z rc rs Q pc L (.long z :: .long x :: S) os ce sl :=
  W.lcmpc (F := ¬ (x = z)) (fun h => XT.ll_ne_t h) (fun h => XT.ll_ne_f (Classical.not_not.mp h)) K pc1 pt pf hd0 hd kt (fun h => kf (Classical.not_not.mp h)) h1' hp hq
theorem W.icmp_lt {o : Int} {x z : Int32} (K : Ctx X l Z R y code maxL ret) (pt pf : Nat) (hd : decode code pc = .ok (.if_icmp .lt o, 3)) (kt : x.toInt < z.toInt → WP X Z rc rs Q pt L S os ce sl) (kf : ¬ (x.toInt < z.toInt) → WP X Z rc rs Q pf L S os ce sl) (hp : (pc : Int) + o = (pt : Int) := by decide) (hq : pc + 3 = pf := by rfl) : WP X Z rc rs Q pc L (.int z :: .int x :: S) os ce sl :=
  W.icmp (F := x.toInt < z.toInt) (fun h => XT.ii_lt_t (Int32.lt_iff_toInt_lt.mpr h)) (fun h => XT.ii_lt_f (fun q => h (Int32.lt_iff_toInt_lt.mp q))) K pt pf hd kt (fun h => kf h) hp hq
theorem W.if_lt {o : Int} {x : Int32} (K : Ctx X l Z R y code maxL ret) (pt pf : Nat) (hd : decode code pc = .ok (.ifCond .lt o, 3)) (kt : x.toInt < 0 → WP X Z rc rs Q pt L S os ce sl) (kf : ¬ (x.toInt < 0) → WP X Z rc rs Q pf L S os ce sl) (hp : (pc : Int) + o = (pt : Int) := by decide) (hq : pc + 3 = pf := by rfl) : WP X Z rc rs Q pc L (.int x :: S) os ce sl :=
  W.ifc (F := x.toInt < 0) (fun h => XT.i0_lt_t (Int32.lt_iff_toInt_lt.mpr (by simpa using h))) (fun h => XT.i0_lt_f (fun q => h (by have q2 := Int32.lt_iff_toInt_lt.mp q; simpa using q2))) K pt pf hd kt (fun h => kf h) hp hq
theorem W.lcmp_lt {o : Int} {x z : Int64} (K : Ctx X l Z R y code maxL ret) (pc1 pt pf : Nat) (hd0 : decode code pc = .ok (.lcmp, 1)) (hd : decode code pc1 = .ok (.ifCond .lt o, 3)) (kt : x.toInt < z.toInt → WP X Z rc rs Q pt L S os ce sl) (kf : ¬ (x.toInt < z.toInt) → WP X Z rc rs Q pf L S os ce sl) (h1' : pc + 1 = pc1 := by rfl) (hp : (pc1 : Int) + o = (pt : Int) := by decide) (hq : pc1 + 3 = pf := by rfl) : WP X Z rc rs Q pc L (.long z :: .long x :: S) os ce sl :=
  W.lcmpc (F := x.toInt < z.toInt) (fun h => XT.ll_lt_t (Int64.lt_iff_toInt_lt.mpr h)) (fun h => XT.ll_lt_f (fun q => h (Int64.lt_iff_toInt_lt.mp q))) K pc1 pt pf hd0 hd kt (fun h => kf h) h1' hp hq
theorem W.icmp_ge {o : Int} {x z : Int32} (K : Ctx X l Z R y code maxL ret) (pt pf : Nat) (hd : decode code pc = .ok (.if_icmp .ge o, 3)) (kt : ¬ (x.toInt < z.toInt) → WP X Z rc rs Q pt L S os ce sl) (kf : x.toInt < z.toInt → WP X Z rc rs Q pf L S os ce sl) (hp : (pc : Int) + o = (pt : Int) := by decide) (hq : pc + 3 = pf := by rfl) : WP X Z rc rs Q pc L (.int z :: .int x :: S) os ce sl :=
  W.icmp (F := ¬ (x.toInt < z.toInt)) (fun h => XT.ii_ge_t (fun q => h (Int32.lt_iff_toInt_lt.mp q))) (fun h => XT.ii_ge_f (Int32.lt_iff_toInt_lt.mpr (Classical.not_not.mp h))) K pt pf hd kt (fun h => kf (Classical.not_not.mp h)) hp hq
theorem W.if_ge {o : Int} {x : Int32} (K : Ctx X l Z R y code maxL ret) (pt pf : Nat) (hd : decode code pc = .ok (.ifCond .ge o, 3)) (kt : ¬ (x.toInt < 0) → WP X Z rc rs Q pt L S os ce sl) (kf : x.toInt < 0 → WP X Z rc rs Q pf L S os ce sl) (hp : (pc : Int) + o = (pt : Int) := by decide) (hq : pc + 3 = pf := by rfl) : WP X Z rc rs Q pc L (.int x :: S) os ce sl :=
  W.ifc (F := ¬ (x.toInt < 0)) (fun h => XT.i0_ge_t (fun q => h (by have q2 := Int32.lt_iff_toInt_lt.mp q; simpa using q2))) (fun h => XT.i0_ge_f (Int32.lt_iff_toInt_lt.mpr (by simpa using (Classical.not_not.mp h)))) K pt pf hd kt (fun h => kf (Classical.not_not.mp h)) hp hq
theorem W.lcmp_ge {o : Int} {x z : Int64} (K : Ctx X l Z R y code maxL ret) (pc1 pt pf : Nat) (hd0 : decode code pc = .ok (.lcmp, 1)) (hd : decode code pc1 = .ok (.ifCond .ge o, 3)) (kt : ¬ (x.toInt < z.toInt) → WP X Z rc rs Q pt L S os ce sl) (kf : x.toInt < z.toInt → WP X Z rc rs Q pf L S os ce sl) (h1' : pc + 1 = pc1 := by rfl) (hp : (pc1 : Int) + o = (pt : Int) := by decide) (hq : pc1 + 3 = pf := by rfl) : WP X Z rc rs Q pc L (.long z :: .long x :: S) os ce sl :=
  W.lcmpc (F := ¬ (x.toInt < z.toInt)) (fun h => XT.ll_ge_t (fun q => h (Int64.lt_iff_toInt_lt.mp q))) (fun h => XT.ll_ge_f (Int64.lt_iff_toInt_lt.mpr (Classical.not_not.mp h))) K pc1 pt pf hd0 hd kt (fun h => kf (Classical.not_not.mp h)) h1' hp hq
theorem W.icmp_gt {o : Int} {x z : Int32} (K : Ctx X l Z R y code maxL ret) (pt pf : Nat) (hd : decode code pc = .ok (.if_icmp .gt o, 3)) (kt : z.toInt < x.toInt → WP X Z rc rs Q pt L S os ce sl) (kf : ¬ (z.toInt < x.toInt) → WP X Z rc rs Q pf L S os ce sl) (hp : (pc : Int) + o = (pt : Int) := by decide) (hq : pc + 3 = pf := by rfl) : WP X Z rc rs Q pc L (.int z :: .int x :: S) os ce sl :=
  W.icmp (F := z.toInt < x.toInt) (fun h => XT.ii_gt_t (Int32.lt_iff_toInt_lt.mpr h)) (fun h => XT.ii_gt_f (fun q => h (Int32.lt_iff_toInt_lt.mp q))) K pt pf hd kt (fun h => kf h) hp hq
theorem W.if_gt {o : Int} {x : Int32} (K : Ctx X l Z R y code maxL ret) (pt pf : Nat) (hd : decode code pc = .ok (.ifCond .gt o, 3)) (kt : 0 < x.toInt → WP X Z rc rs Q pt L S os ce sl) (kf : ¬ (0 < x.toInt) → WP X Z rc rs Q pf L S os ce sl) (hp : (pc : Int) + o = (pt : Int) := by decide) (hq : pc + 3 = pf := by rfl) : WP X Z rc rs Q pc L (.int x :: S) os ce sl :=
  W.ifc (F := 0 < x.toInt) (fun h => XT.i0_gt_t (Int32.lt_iff_toInt_lt.mpr (by simpa using h))) (fun h => XT.i0_gt_f (fun q => h (by have q2 := Int32.lt_iff_toInt_lt.mp q; simpa using q2))) K pt pf hd kt (fun h => kf h) hp hq
theorem W.lcmp_gt {o : Int} {x z : Int64} (K : Ctx X l Z R y code maxL ret) (pc1 pt pf : Nat) (hd0 : decode code pc = .ok (.lcmp, 1)) (hd : decode code pc1 = .ok (.ifCond .gt o, 3)) (kt : z.toInt < x.toInt → WP X Z rc rs Q pt L S os ce sl) (kf : ¬ (z.toInt < x.toInt) → WP X Z rc rs Q pf L S os ce sl) (h1' : pc + 1 = pc1 := by rfl) (hp : (pc1 : Int) + o = (pt : Int) := by decide) (hq : pc1 + 3 = pf := by rfl) : WP X Z rc rs Q pc L (.long z :: .long x :: S) os ce sl :=
  W.lcmpc (F := z.toInt < x.toInt) (fun h => XT.ll_gt_t (Int64.lt_iff_toInt_lt.mpr h)) (fun h => XT.ll_gt_f (fun q => h (Int64.lt_iff_toInt_lt.mp q))) K pc1 pt pf hd0 hd kt (fun h => kf h) h1' hp hq
theorem W.icmp_le {o : Int} {x z : Int32} (K : Ctx X l Z R y code maxL ret) (pt pf : Nat) (hd : decode code pc = .ok (.if_icmp .le o, 3)) (kt : ¬ (z.toInt < x.toInt) → WP X Z rc rs Q pt L S os ce sl) (kf : z.toInt < x.toInt → WP X Z rc rs Q pf L S os ce sl) (hp : (pc : Int) + o = (pt : Int) := by decide) (hq : pc + 3 = pf := by rfl) : WP X Z rc rs Q pc L (.int z :: .int x :: S) os ce sl :=
  W.icmp (F := ¬ (z.toInt < x.toInt)) (fun h => XT.ii_le_t (fun q => h (Int32.lt_iff_toInt_lt.mp q))) (fun h => XT.ii_le_f (Int32.lt_iff_toInt_lt.mpr (Classical.not_not.mp h))) K pt pf hd kt (fun h => kf (Classical.not_not.mp h)) hp hq
theorem W.if_le {o : Int} {x : Int32} (K : Ctx X l Z R y code maxL ret) (pt pf : Nat) (hd : decode code pc = .ok (.ifCond .le o, 3)) (kt : ¬ (0 < x.toInt) → WP X Z rc rs Q pt L S os ce sl) (kf : 0 < x.toInt → WP X Z rc rs Q pf L S os ce sl) (hp : (pc : Int) + o = (pt : Int) := by decide) (hq : pc + 3 = pf := by rfl) : WP X Z rc rs Q pc L (.int x :: S) os ce sl :=
  W.ifc (F := ¬ (0 < x.toInt)) (fun h => XT.i0_le_t (fun q => h (by have q2 := Int32.lt_iff_toInt_lt.mp q; simpa using q2))) (fun h => XT.i0_le_f (Int32.lt_iff_toInt_lt.mpr (by simpa using (Classical.not_not.mp h)))) K pt pf hd kt (fun h => kf (Classical.not_not.mp h)) hp hq
theorem W.lcmp_le {o : Int} {x z : Int64} (K : Ctx X l Z R y code maxL ret) (pc1 pt pf : Nat) (hd0 : decode code pc = .ok (.lcmp, 1)) (hd : decode code pc1 = .ok (.ifCond .le o, 3)) (kt : ¬ (z.toInt < x.toInt) → WP X Z rc rs Q pt L S os ce sl) (kf : z.toInt < x.toInt → WP X Z rc rs Q pf L S os ce sl) (h1' : pc + 1 = pc1 := by rfl) (hp : (pc1 : Int) + o = (pt : Int) := by decide) (hq : pc1 + 3 = pf := by rfl) : WP X Z rc rs Q pc L (.long z :: .long x :: S) os ce sl :=
  W.lcmpc (F := ¬ (z.toInt < x.toInt)) (fun h => XT.ll_le_t (fun q => h (Int64.lt_iff_toInt_lt.mp q))) (fun h => XT.ll_le_f (Int64.lt_iff_toInt_lt.mpr (Classical.not_not.mp h))) K pc1 pt pf hd0 hd kt (fun h => kf (Classical.not_not.mp h)) h1' hp hq
theorem W.ifnullY {o : Int} (K : Ctx X l Z R y code maxL ret) (pt : Nat) (hd : decode code pc = .ok (.ifnull o, 3)) (k : WP X Z rc rs Q pt L S os ce sl) (hp : (pc : Int) + o = (pt : Int) := by decide) : WP X Z rc rs Q pc L (.null :: S) os ce sl := by
  obtain ⟨p, l', e, R', s, m, args, below, meth, c⟩ := X
  obtain ⟨h1, h2, hx, hZ, hby, hml, hown, hnm, hret, hlk⟩ := K
  have h2' : R' = R := h2
  subst h2'
  intro T locs hT0 hH hF
  have hT : Stand p l' e R' s m args below meth c T locs ce sl := hT0
  obtain ⟨s2, o', st, r⟩ := k T locs hT hH hF
  exact ⟨s2, o', XS.ifnullYes (Stand.here hT) hx rfl (pc0 := pc) rfl (hb hby hd) rfl (by rw [hp]; exact Int.natCast_nonneg _) (by rw [hp]; rfl) st, r⟩
theorem W.ifnonnullY {o : Int} {a : Addr} (K : Ctx X l Z R y code maxL ret) (pt : Nat) (hd : decode code pc = .ok (.ifnonnull o, 3)) (k : WP X Z rc rs Q pt L S os ce sl) (hp : (pc : Int) + o = (pt : Int) := by decide) : WP X Z rc rs Q pc L (.ref a :: S) os ce sl := by
  obtain ⟨p, l', e, R', s, m, args, below, meth, c⟩ := X
  obtain ⟨h1, h2, hx, hZ, hby, hml, hown, hnm, hret, hlk⟩ := K
  have h2' : R' = R := h2
  subst h2'
  intro T locs hT0 hH hF
  have hT : Stand p l' e R' s m args below meth c T locs ce sl := hT0
  obtain ⟨s2, o', st, r⟩ := k T locs hT hH hF
  exact ⟨s2, o', XT.nonnullYes (Stand.here hT) hx rfl (pc0 := pc) rfl (hb hby hd) rfl rfl (by simp) (by rw [hp]; exact Int.natCast_nonneg _) (by rw [hp]; rfl) st, r⟩
theorem W.ifnullN {o : Int} {a : Addr} (K : Ctx X l Z R y code maxL ret) (pc' : Nat) (hd : decode code pc = .ok (.ifnull o, 3)) (k : WP X Z rc rs Q pc' L S os ce sl) (hp : pc + 3 = pc' := by rfl) : WP X Z rc rs Q pc L (.ref a :: S) os ce sl := by
  obtain ⟨p, l', e, R', s, m, args, below, meth, c⟩ := X
  obtain ⟨h1, h2, hx, hZ, hby, hml, hown, hnm, hret, hlk⟩ := K
  have h2' : R' = R := h2
  subst h2'
  subst hp
  intro T locs hT0 hH hF
  have hT : Stand p l' e R' s m args below meth c T locs ce sl := hT0
  obtain ⟨s2, o, st, r⟩ := k T locs hT hH hF
  exact ⟨s2, o, XS.ifnullNo (Stand.here hT) hx rfl (hb hby hd) rfl st, r⟩
theorem W.ifnonnullN {o : Int} (K : Ctx X l Z R y code maxL ret) (pc' : Nat) (hd : decode code pc = .ok (.ifnonnull o, 3)) (k : WP X Z rc rs Q pc' L S os ce sl) (hp : pc + 3 = pc' := by rfl) : WP X Z rc rs Q pc L (.null :: S) os ce sl := by
  obtain ⟨p, l', e, R', s, m, args, below, meth, c⟩ := X
  obtain ⟨h1, h2, hx, hZ, hby, hml, hown, hnm, hret, hlk⟩ := K
  have h2' : R' = R := h2
  subst h2'
  subst hp
  intro T locs hT0 hH hF
  have hT : Stand p l' e R' s m args below meth c T locs ce sl := hT0
  obtain ⟨s2, o, st, r⟩ := k T locs hT hH hF
  exact ⟨s2, o, XT.nonnullNo (Stand.here hT) hx rfl (hb hby hd) rfl rfl st, r⟩
theorem W.acmp_eq {o : Int} {x z : Value} (K : Ctx X l Z R y code maxL ret) (pt pf : Nat) (hd : decode code pc = .ok (.if_acmp .eq o, 3)) (kt : x = z → WP X Z rc rs Q pt L S os ce sl) (kf : ¬ x = z → WP X Z rc rs Q pf L S os ce sl) (hr1 : x.isRef = true := by rfl) (hr2 : z.isRef = true := by rfl) (hp : (pc : Int) + o = (pt : Int) := by decide) (hq : pc + 3 = pf := by rfl) : WP X Z rc rs Q pc L (z :: x :: S) os ce sl := by
  obtain ⟨p, l', e, R', s, m, args, below, meth, c⟩ := X
  obtain ⟨h1, h2, hx, hZ, hby, hml, hown, hnm, hret, hlk⟩ := K
  have h2' : R' = R := h2
  subst h2'
  subst hq
  intro T locs hT0 hH hF
  have hT : Stand p l' e R' s m args below meth c T locs ce sl := hT0
  by_cases h : x = z
  · obtain ⟨s2, o', st, r⟩ := kt h T locs hT hH hF
    exact ⟨s2, o', XT.acmpYes (Stand.here hT) hx rfl (pc0 := pc) rfl (hb hby hd) rfl hr1 hr2 (XT.aa_eq_t h) (by rw [hp]; exact Int.natCast_nonneg _) (by rw [hp]; rfl) st, r⟩
  · obtain ⟨s2, o', st, r⟩ := kf h T locs hT hH hF
    exact ⟨s2, o', XT.acmpNo (Stand.here hT) hx rfl (hb hby hd) rfl hr1 hr2 (XT.aa_eq_f h) st, r⟩
theorem W.acmp_ne {o : Int} {x z : Value} (K : Ctx X l Z R y code maxL ret) (pt pf : Nat) (hd : decode code pc = .ok (.if_acmp .ne o, 3)) (kt : ¬ x = z → WP X Z rc rs Q pt L S os ce sl) (kf : x = z → WP X Z rc rs Q pf L S os ce sl) (hr1 : x.isRef = true := by rfl) (hr2 : z.isRef = true := by rfl) (hp : (pc : Int) + o = (pt : Int) := by decide) (hq : pc + 3 = pf := by rfl) : WP X Z rc rs Q pc L (z :: x :: S) os ce sl := by
  obtain ⟨p, l', e, R', s, m, args, below, meth, c⟩ := X
  obtain ⟨h1, h2, hx, hZ, hby, hml, hown, hnm, hret, hlk⟩ := K
  have h2' : R' = R := h2
  subst h2'
  subst hq
  intro T locs hT0 hH hF
  have hT : Stand p l' e R' s m args below meth c T locs ce sl := hT0
  by_cases h : x = z
  · obtain ⟨s2, o', st, r⟩ := kf h T locs hT hH hF
    exact ⟨s2, o', XT.acmpNo (Stand.here hT) hx rfl (hb hby hd) rfl hr1 hr2 (XT.aa_ne_f h) st, r⟩
  · obtain ⟨s2, o', st, r⟩ := kt h T locs hT hH hF
    exact ⟨s2, o', XT.acmpYes (Stand.here hT) hx rfl (pc0 := pc) rfl (hb hby hd) rfl hr1 hr2 (XT.aa_ne_t h) (by rw [hp]; exact Int.natCast_nonneg _) (by rw [hp]; rfl) st, r⟩
theorem W.bool {A B : Prop} [Decidable A] {o : Int} {i1 i0 : Int} {pt pf pg : Nat} {S0 : List Value} (pj : Nat) (v1 v0 : Int32) (K : Ctx X l Z R y code maxL ret) (br : (A → WP X Z rc rs Q pt L S os ce sl) → (B → WP X Z rc rs Q pf L S os ce sl) → WP X Z rc rs Q pc L S0 os ce sl)
    (d1 : decode code pf = .ok (.iconst i1, 1)) (d2 : decode code pg = .ok (.goto o, 3)) (d3 : decode code pt = .ok (.iconst i0, 1)) (k : WP X Z rc rs Q pj L (.int (if A then v0 else v1) :: S) os ce sl)
    (hAB : B → ¬ A := by first | exact id | exact fun h h' => h' h) (e1 : Int32.ofInt i1 = v1 := by rfl) (e0 : Int32.ofInt i0 = v0 := by rfl) (q1 : pf + 1 = pg := by rfl) (q2 : (pg : Int) + o = (pj : Int) := by decide) (q3 : pt + 1 = pj := by rfl) : WP X Z rc rs Q pc L S0 os ce sl := by
  refine br (fun h => ?_) (fun h => ?_)
  · refine W.iconst K pj d3 v0 e0 ?_ q3
    rw [if_pos h] at k; exact k
  · refine W.iconst K pg d1 v1 e1 ?_ q1
    refine W.goto K pj d2 ?_ q2
    rw [if_neg (hAB h)] at k; exact k
theorem W.sel {A B : Prop} [Decidable A] {pt pf : Nat} {S0 : List Value} {vt vf : Value} (pj : Nat) (br : (A → WP X Z rc rs Q pt L S os ce sl) → (B → WP X Z rc rs Q pf L S os ce sl) → WP X Z rc rs Q pc L S0 os ce sl)
    (kt : WP X Z rc rs Q pj L (vt :: S) os ce sl → WP X Z rc rs Q pt L S os ce sl) (kf : WP X Z rc rs Q pj L (vf :: S) os ce sl → WP X Z rc rs Q pf L S os ce sl) (k : WP X Z rc rs Q pj L ((if A then vt else vf) :: S) os ce sl) (hAB : B → ¬ A := by first | exact id | exact fun h h' => h' h) : WP X Z rc rs Q pc L S0 os ce sl :=
  br (fun h => kt (by rw [if_pos h] at k; exact k)) (fun h => kf (by rw [if_neg (hAB h)] at k; exact k))
theorem W.selI {A B : Prop} [Decidable A] {pt pf : Nat} {S0 : List Value} {vt vf : Int32} (pj : Nat) (br : (A → WP X Z rc rs Q pt L S os ce sl) → (B → WP X Z rc rs Q pf L S os ce sl) → WP X Z rc rs Q pc L S0 os ce sl)
    (kt : WP X Z rc rs Q pj L (.int vt :: S) os ce sl → WP X Z rc rs Q pt L S os ce sl) (kf : WP X Z rc rs Q pj L (.int vf :: S) os ce sl → WP X Z rc rs Q pf L S os ce sl) (k : WP X Z rc rs Q pj L (.int (if A then vt else vf) :: S) os ce sl) (hAB : B → ¬ A := by first | exact id | exact fun h h' => h' h) : WP X Z rc rs Q pc L S0 os ce sl :=
  br (fun h => kt (by rw [if_pos h] at k; exact k)) (fun h => kf (by rw [if_neg (hAB h)] at k; exact k))
theorem W.selL {A B : Prop} [Decidable A] {pt pf : Nat} {S0 : List Value} {vt vf : Int64} (pj : Nat) (br : (A → WP X Z rc rs Q pt L S os ce sl) → (B → WP X Z rc rs Q pf L S os ce sl) → WP X Z rc rs Q pc L S0 os ce sl)
    (kt : WP X Z rc rs Q pj L (.long vt :: S) os ce sl → WP X Z rc rs Q pt L S os ce sl) (kf : WP X Z rc rs Q pj L (.long vf :: S) os ce sl → WP X Z rc rs Q pf L S os ce sl) (k : WP X Z rc rs Q pj L (.long (if A then vt else vf) :: S) os ce sl) (hAB : B → ¬ A := by first | exact id | exact fun h h' => h' h) : WP X Z rc rs Q pc L S0 os ce sl :=
  br (fun h => kt (by rw [if_pos h] at k; exact k)) (fun h => kf (by rw [if_neg (hAB h)] at k; exact k))
theorem W.joinI {F : Prop} [Decidable F] {S0 : List Value} (pj : Nat) (tree : (F → WP X Z rc rs Q pj L (.int 1 :: S) os ce sl) → (¬ F → WP X Z rc rs Q pj L (.int 0 :: S) os ce sl) → WP X Z rc rs Q pc L S0 os ce sl) (k : WP X Z rc rs Q pj L (.int (if F then 1 else 0) :: S) os ce sl) : WP X Z rc rs Q pc L S0 os ce sl :=
  tree (fun h => by rw [if_pos h] at k; exact k) (fun h => by rw [if_neg h] at k; exact k)
theorem W.cutI {G : Int32 → Prop} {S0 : List Value} (pj n : Nat) (tree : (∀ v, G v → WP X Z rc rs Q pj (L.set n (.val (.int v))) S os ce sl) → WP X Z rc rs Q pc L S0 os ce sl) (k : ∀ v, G v → WP X Z rc rs Q pj (L.set n (.val (.int v))) S os ce sl) : WP X Z rc rs Q pc L S0 os ce sl := tree k
theorem W.cutV {G : Value → Prop} {S0 : List Value} (pj n : Nat) (tree : (∀ v, G v → WP X Z rc rs Q pj (L.set n (.val v)) S os ce sl) → WP X Z rc rs Q pc L S0 os ce sl) (k : ∀ v, G v → WP X Z rc rs Q pj (L.set n (.val v)) S os ce sl) : WP X Z rc rs Q pc L S0 os ce sl := tree k
theorem W.cutO {G : OS → Prop} {S0 : List Value} (pj : Nat) (tree : (∀ os', G os' → WP X Z rc rs Q pj L S os' ce sl) → WP X Z rc rs Q pc L S0 os ce sl) (k : ∀ os', G os' → WP X Z rc rs Q pj L S os' ce sl) : WP X Z rc rs Q pc L S0 os ce sl := tree k
theorem W.cutIO {G : Int32 → OS → Prop} {S0 : List Value} (pj n : Nat) (tree : (∀ v os', G v os' → WP X Z rc rs Q pj (L.set n (.val (.int v))) S os' ce sl) → WP X Z rc rs Q pc L S0 os ce sl) (k : ∀ v os', G v os' → WP X Z rc rs Q pj (L.set n (.val (.int v))) S os' ce sl) : WP X Z rc rs Q pc L S0 os ce sl := tree k
theorem W.cutL {G : List Slot → Prop} {S0 : List Value} (pj : Nat) (tree : (∀ L', G L' → WP X Z rc rs Q pj L' S os ce sl) → WP X Z rc rs Q pc L S0 os ce sl) (k : ∀ L', G L' → WP X Z rc rs Q pj L' S os ce sl) : WP X Z rc rs Q pc L S0 os ce sl := tree k
theorem W.cutLO {G : List Slot → OS → Prop} {S0 : List Value} (pj : Nat) (tree : (∀ L' os', G L' os' → WP X Z rc rs Q pj L' S os' ce sl) → WP X Z rc rs Q pc L S0 os ce sl) (k : ∀ L' os', G L' os' → WP X Z rc rs Q pj L' S os' ce sl) : WP X Z rc rs Q pc L S0 os ce sl := tree k
theorem W.cut0 {S0 : List Value} (pj : Nat) (tree : WP X Z rc rs Q pj L S os ce sl → WP X Z rc rs Q pc L S0 os ce sl) (k : WP X Z rc rs Q pj L S os ce sl) : WP X Z rc rs Q pc L S0 os ce sl := tree k
theorem W.cutS {G : Value → Prop} {S0 : List Value} (pj : Nat) (tree : (∀ v, G v → WP X Z rc rs Q pj L (v :: S) os ce sl) → WP X Z rc rs Q pc L S0 os ce sl) (k : ∀ v, G v → WP X Z rc rs Q pj L (v :: S) os ce sl) : WP X Z rc rs Q pc L S0 os ce sl := tree k
theorem W.ldcI {idx : Nat} {v : Int32} (K : Ctx X l Z R y code maxL ret) (pc' : Nat) (hd : decode code pc = .ok (.ldc idx, 2)) (w : (Jvm.Cond.constant y.cls idx v).before a0 Z = true) (k : WP X Z rc rs Q pc' L (.int v :: S) os ce sl) (hp : pc + 2 = pc' := by rfl) : WP X Z rc rs Q pc L S os ce sl := by
  obtain ⟨p, l', e, R', s, m, args, below, meth, c⟩ := X
  obtain ⟨h1, h2, hx, hZ, hby, hml, hown, hnm, hret, hlk⟩ := K
  have h2' : R' = R := h2
  subst h2'
  subst hp
  intro T locs hT0 hH hF
  have hT : Stand p l' e R' s m args below meth c T locs ce sl := hT0
  obtain ⟨s2, o, st, r⟩ := k T locs hT hH hF
  exact ⟨s2, o, Stand.ldcInt hT hx hown (mvT hZ w) (g := mkF m pc L.toArray S) rfl (hb hby hd) _ st, r⟩
theorem W.ldc2 {idx : Nat} {v : Int64} (K : Ctx X l Z R y code maxL ret) (pc' : Nat) (hd : decode code pc = .ok (.ldc2_w idx, 3)) (w : (Jvm.Cond.constantLong y.cls idx v).before a0 Z = true) (k : WP X Z rc rs Q pc' L (.long v :: S) os ce sl) (hp : pc + 3 = pc' := by rfl) : WP X Z rc rs Q pc L S os ce sl := by
  obtain ⟨p, l', e, R', s, m, args, below, meth, c⟩ := X
  obtain ⟨h1, h2, hx, hZ, hby, hml, hown, hnm, hret, hlk⟩ := K
  have h2' : R' = R := h2
  subst h2'
  subst hp
  intro T locs hT0 hH hF
  have hT : Stand p l' e R' s m args below meth c T locs ce sl := hT0
  obtain ⟨s2, o, st, r⟩ := k T locs hT hH hF
  exact ⟨s2, o, Stand.ldc2Long hT hx hown (mvT hZ w) (g := mkF m pc L.toArray S) rfl (hb hby hd) _ st, r⟩
theorem idx_ok {vs : List Value} {c : Cell} {j : Int32} {k : Nat} {v : Value} (hs : c.slots = vs.toArray) (hj : j.toInt = (k : Int)) (hv : vs[k]? = some v) : ¬ (j < 0 ∨ c.slots.size ≤ j.toNatClampNeg) ∧ j.toNatClampNeg = k ∧ c.slots[j.toNatClampNeg]? = some v := by
  have e : j.toNatClampNeg = k := by show j.toInt.toNat = k; rw [hj]; rfl
  have hk := (List.getElem?_eq_some_iff.mp hv).1
  refine ⟨?_, e, by rw [e, hs]; simpa using hv⟩
  rw [Int32.lt_iff_toInt_lt, e, hs]
  simp only [List.size_toArray]
  intro q
  rcases q with q | q
  · rw [hj] at q
    exact absurd q (Int.not_lt.mpr (Int.natCast_nonneg k))
  · omega
theorem W.iaload {a : Addr} {vs : List Value} {j : Int32} {v : Value} (i : Nat) (K : Ctx X l Z R y code maxL ret) (pc' : Nat) (hd : decode code pc = .ok (.iaload, 1)) (hm : (a, ARR Z .int vs) ∈ os) (hj : j.toInt = (i : Int)) (hv : vs[i]? = some v) (k : WP X Z rc rs Q pc' L (v :: S) os ce sl) (hp : pc + 1 = pc' := by rfl) : WP X Z rc rs Q pc L (.int j :: .ref a :: S) os ce sl := by
  obtain ⟨p, l', e, R', s, m, args, below, meth, c⟩ := X
  obtain ⟨h1, h2, hx, hZ, hby, hml, hown, hnm, hret, hlk⟩ := K
  have h2' : R' = R := h2
  subst h2'
  subst hp
  intro T locs hT0 hH hF
  have hT : Stand p l' e R' s m args below meth c T locs ce sl := hT0
  obtain ⟨s2, o, st, r⟩ := k T locs hT hH hF
  obtain ⟨-, cl, hcl, q1, q2, q3, q4, q5⟩ := hH.get hm
  obtain ⟨e1, e2, e3⟩ := idx_ok q3 hj hv
  exact ⟨s2, o, Stand.iaload hT hx hcl (State.isArrayOf_alike hZ.alike q1) q2 e1 e3 (g := mkF m pc L.toArray (.int j :: .ref a :: S)) rfl rfl (hb hby hd) _ st, r⟩
theorem W.laload {a : Addr} {vs : List Value} {j : Int32} {v : Value} (i : Nat) (K : Ctx X l Z R y code maxL ret) (pc' : Nat) (hd : decode code pc = .ok (.laload, 1)) (hm : (a, ARR Z .long vs) ∈ os) (hj : j.toInt = (i : Int)) (hv : vs[i]? = some v) (k : WP X Z rc rs Q pc' L (v :: S) os ce sl) (hp : pc + 1 = pc' := by rfl) : WP X Z rc rs Q pc L (.int j :: .ref a :: S) os ce sl := by
  obtain ⟨p, l', e, R', s, m, args, below, meth, c⟩ := X
  obtain ⟨h1, h2, hx, hZ, hby, hml, hown, hnm, hret, hlk⟩ := K
  have h2' : R' = R := h2
  subst h2'
  subst hp
  intro T locs hT0 hH hF
  have hT : Stand p l' e R' s m args below meth c T locs ce sl := hT0
  obtain ⟨s2, o, st, r⟩ := k T locs hT hH hF
  obtain ⟨-, cl, hcl, q1, q2, q3, q4, q5⟩ := hH.get hm
  obtain ⟨e1, e2, e3⟩ := idx_ok q3 hj hv
  exact ⟨s2, o, Stand.laload hT hx hcl (State.isArrayOf_alike hZ.alike q1) q2 e1 e3 (g := mkF m pc L.toArray (.int j :: .ref a :: S)) rfl rfl (hb hby hd) _ st, r⟩
theorem W.caload {a : Addr} {vs : List Value} {j : Int32} {v : Value} (i : Nat) (K : Ctx X l Z R y code maxL ret) (pc' : Nat) (hd : decode code pc = .ok (.caload, 1)) (hm : (a, ARR Z .char vs) ∈ os) (hj : j.toInt = (i : Int)) (hv : vs[i]? = some v) (k : WP X Z rc rs Q pc' L (v :: S) os ce sl) (hp : pc + 1 = pc' := by rfl) : WP X Z rc rs Q pc L (.int j :: .ref a :: S) os ce sl := by
  obtain ⟨p, l', e, R', s, m, args, below, meth, c⟩ := X
  obtain ⟨h1, h2, hx, hZ, hby, hml, hown, hnm, hret, hlk⟩ := K
  have h2' : R' = R := h2
  subst h2'
  subst hp
  intro T locs hT0 hH hF
  have hT : Stand p l' e R' s m args below meth c T locs ce sl := hT0
  obtain ⟨s2, o, st, r⟩ := k T locs hT hH hF
  obtain ⟨-, cl, hcl, q1, q2, q3, q4, q5⟩ := hH.get hm
  obtain ⟨e1, e2, e3⟩ := idx_ok q3 hj hv
  exact ⟨s2, o, Stand.caload hT hx hcl (State.isArrayOf_alike hZ.alike q1) q2 e1 e3 (g := mkF m pc L.toArray (.int j :: .ref a :: S)) rfl rfl (hb hby hd) _ st, r⟩
theorem W.baload {a : Addr} {vs : List Value} {j : Int32} {v : Value} (i : Nat) (K : Ctx X l Z R y code maxL ret) (pc' : Nat) (hd : decode code pc = .ok (.baload, 1)) (hm : (a, ARR Z .byte vs) ∈ os) (hj : j.toInt = (i : Int)) (hv : vs[i]? = some v) (k : WP X Z rc rs Q pc' L (v :: S) os ce sl) (hp : pc + 1 = pc' := by rfl) : WP X Z rc rs Q pc L (.int j :: .ref a :: S) os ce sl := by
  obtain ⟨p, l', e, R', s, m, args, below, meth, c⟩ := X
  obtain ⟨h1, h2, hx, hZ, hby, hml, hown, hnm, hret, hlk⟩ := K
  have h2' : R' = R := h2
  subst h2'
  subst hp
  intro T locs hT0 hH hF
  have hT : Stand p l' e R' s m args below meth c T locs ce sl := hT0
  obtain ⟨s2, o, st, r⟩ := k T locs hT hH hF
  obtain ⟨-, cl, hcl, q1, q2, q3, q4, q5⟩ := hH.get hm
  obtain ⟨e1, e2, e3⟩ := idx_ok q3 hj hv
  exact ⟨s2, o, Stand.baloadBytes hT hx hcl (State.isArrayOf_alike hZ.alike q1) q2 e1 e3 (g := mkF m pc L.toArray (.int j :: .ref a :: S)) rfl rfl (hb hby hd) _ st, r⟩
theorem W.aaload {a : Addr} {vs : List Value} {j : Int32} {v : Value} {ty : FieldType} (i : Nat) (K : Ctx X l Z R y code maxL ret) (pc' : Nat) (hd : decode code pc = .ok (.aaload, 1)) (hm : (a, ARR Z ty vs) ∈ os) (hj : j.toInt = (i : Int)) (hv : vs[i]? = some v) (hty : ty.isReference = true) (k : WP X Z rc rs Q pc' L (v :: S) os ce sl) (hp : pc + 1 = pc' := by rfl) : WP X Z rc rs Q pc L (.int j :: .ref a :: S) os ce sl := by
  obtain ⟨p, l', e, R', s, m, args, below, meth, c⟩ := X
  obtain ⟨h1, h2, hx, hZ, hby, hml, hown, hnm, hret, hlk⟩ := K
  have h2' : R' = R := h2
  subst h2'
  subst hp
  intro T locs hT0 hH hF
  have hT : Stand p l' e R' s m args below meth c T locs ce sl := hT0
  obtain ⟨s2, o, st, r⟩ := k T locs hT hH hF
  obtain ⟨-, cl, hcl, q1, q2, q3, q4, q5⟩ := hH.get hm
  obtain ⟨e1, e2, e3⟩ := idx_ok q3 hj hv
  exact ⟨s2, o, Stand.aaload hT hx hcl (State.isArrayOf_alike hZ.alike q1) hty q2 e1 e3 (g := mkF m pc L.toArray (.int j :: .ref a :: S)) rfl rfl (hb hby hd) _ st, r⟩
theorem W.arraylength {a : Addr} {vs : List Value} {ty : FieldType} (z : Int32) (K : Ctx X l Z R y code maxL ret) (pc' : Nat) (hd : decode code pc = .ok (.arraylength, 1)) (hm : (a, ARR Z ty vs) ∈ os) (hz : vs.length.toInt32 = z) (k : WP X Z rc rs Q pc' L (.int z :: S) os ce sl) (hp : pc + 1 = pc' := by rfl) : WP X Z rc rs Q pc L (.ref a :: S) os ce sl := by
  obtain ⟨p, l', e, R', s, m, args, below, meth, c⟩ := X
  obtain ⟨h1, h2, hx, hZ, hby, hml, hown, hnm, hret, hlk⟩ := K
  have h2' : R' = R := h2
  subst h2'
  subst hp
  intro T locs hT0 hH hF
  have hT : Stand p l' e R' s m args below meth c T locs ce sl := hT0
  obtain ⟨s2, o, st, r⟩ := k T locs hT hH hF
  obtain ⟨-, cl, hcl, q1, q2, q3, q4, q5⟩ := hH.get hm
  have e : cl.slots.size.toInt32 = z := by rw [q3]; simpa using hz
  rw [← e] at st
  exact ⟨s2, o, Stand.arraylength hT hx hcl (State.isArrayOf_alike hZ.alike q1) (g := mkF m pc L.toArray (.ref a :: S)) rfl rfl (hb hby hd) _ st, r⟩
theorem W.iastore {a : Addr} {vs : List Value} {j : Int32} {x : Int32} {w : Value} (i : Nat) (K : Ctx X l Z R y code maxL ret) (pc' : Nat) (hd : decode code pc = .ok (.iastore, 1)) (hm : Upd os a (ARR Z .int vs) (ARR Z .int (vs.set i (.int x))) os') (hj : j.toInt = (i : Int)) (hv : vs[i]? = some w) (k : WP X Z rc rs Q pc' L S os' ce sl) (hp : pc + 1 = pc' := by rfl) : WP X Z rc rs Q pc L (.int x :: .int j :: .ref a :: S) os ce sl := by
  obtain ⟨p, l', e, R', s, m, args, below, meth, c⟩ := X
  obtain ⟨h1, h2, hx, hZ, hby, hml, hown, hnm, hret, hlk⟩ := K
  have h2' : R' = R := h2
  subst h2'
  subst hp
  intro T locs hT0 hH hF
  have hT : Stand p l' e R' s m args below meth c T locs ce sl := hT0
  obtain ⟨ii, hm, rfl⟩ := hm
  obtain ⟨ha, cl, hcl, q1, q2, q3, q4, q5⟩ := hH.2.2 ii _ hm
  obtain ⟨e1, e2, e3⟩ := idx_ok q3 hj hv
  obtain ⟨T', h', X', e', W', st'⟩ := RoadKit.stI hT hx hZ rfl ⟨hcl, q1, q2⟩ (x := x) e1 (g := mkF m pc L.toArray (.int x :: .int j :: .ref a :: S)) rfl rfl (hb hby hd)
  rw [e2] at W'
  obtain ⟨s2, o, st, r⟩ := k T' _ X' (by rw [e']; exact hH.upd hm W' (fun c c' g1 g2 g3 g4 => by rw [g4]; exact ARR.put g2 (rfl))) (Fr.snoc X' hF ha)
  exact ⟨s2, o, st' _ st, r⟩
theorem W.lastore {a : Addr} {vs : List Value} {j : Int32} {x : Int64} {w : Value} (i : Nat) (K : Ctx X l Z R y code maxL ret) (pc' : Nat) (hd : decode code pc = .ok (.lastore, 1)) (hm : Upd os a (ARR Z .long vs) (ARR Z .long (vs.set i (.long x))) os') (hj : j.toInt = (i : Int)) (hv : vs[i]? = some w) (k : WP X Z rc rs Q pc' L S os' ce sl) (hp : pc + 1 = pc' := by rfl) : WP X Z rc rs Q pc L (.long x :: .int j :: .ref a :: S) os ce sl := by
  obtain ⟨p, l', e, R', s, m, args, below, meth, c⟩ := X
  obtain ⟨h1, h2, hx, hZ, hby, hml, hown, hnm, hret, hlk⟩ := K
  have h2' : R' = R := h2
  subst h2'
  subst hp
  intro T locs hT0 hH hF
  have hT : Stand p l' e R' s m args below meth c T locs ce sl := hT0
  obtain ⟨ii, hm, rfl⟩ := hm
  obtain ⟨ha, cl, hcl, q1, q2, q3, q4, q5⟩ := hH.2.2 ii _ hm
  obtain ⟨e1, e2, e3⟩ := idx_ok q3 hj hv
  obtain ⟨T', h', X', e', W', st'⟩ := RoadKit.stJ hT hx hZ rfl ⟨hcl, q1, q2⟩ (x := x) e1 (g := mkF m pc L.toArray (.long x :: .int j :: .ref a :: S)) rfl rfl (hb hby hd)
  rw [e2] at W'
  obtain ⟨s2, o, st, r⟩ := k T' _ X' (by rw [e']; exact hH.upd hm W' (fun c c' g1 g2 g3 g4 => by rw [g4]; exact ARR.put g2 (rfl))) (Fr.snoc X' hF ha)
  exact ⟨s2, o, st' _ st, r⟩
theorem W.bastore {a : Addr} {vs : List Value} {j : Int32} {x : Int32} {w : Value} (i : Nat) (K : Ctx X l Z R y code maxL ret) (pc' : Nat) (hd : decode code pc = .ok (.bastore, 1)) (hm : Upd os a (ARR Z .byte vs) (ARR Z .byte (vs.set i (.int x.toInt8.toInt32))) os') (hj : j.toInt = (i : Int)) (hv : vs[i]? = some w) (k : WP X Z rc rs Q pc' L S os' ce sl) (hp : pc + 1 = pc' := by rfl) : WP X Z rc rs Q pc L (.int x :: .int j :: .ref a :: S) os ce sl := by
  obtain ⟨p, l', e, R', s, m, args, below, meth, c⟩ := X
  obtain ⟨h1, h2, hx, hZ, hby, hml, hown, hnm, hret, hlk⟩ := K
  have h2' : R' = R := h2
  subst h2'
  subst hp
  intro T locs hT0 hH hF
  have hT : Stand p l' e R' s m args below meth c T locs ce sl := hT0
  obtain ⟨ii, hm, rfl⟩ := hm
  obtain ⟨ha, cl, hcl, q1, q2, q3, q4, q5⟩ := hH.2.2 ii _ hm
  obtain ⟨e1, e2, e3⟩ := idx_ok q3 hj hv
  obtain ⟨T', h', X', e', W', st'⟩ := RoadKit.stB hT hx hZ rfl ⟨hcl, q1, q2⟩ (x := x) e1 (g := mkF m pc L.toArray (.int x :: .int j :: .ref a :: S)) rfl rfl (hb hby hd)
  rw [e2] at W'
  obtain ⟨s2, o, st, r⟩ := k T' _ X' (by rw [e']; exact hH.upd hm W' (fun c c' g1 g2 g3 g4 => by rw [g4]; exact ARR.put g2 (fits_nar_byte x))) (Fr.snoc X' hF ha)
  exact ⟨s2, o, st' _ st, r⟩
theorem W.castore {a : Addr} {vs : List Value} {j : Int32} {x : Int32} {w : Value} (i : Nat) (K : Ctx X l Z R y code maxL ret) (pc' : Nat) (hd : decode code pc = .ok (.castore, 1)) (hm : Upd os a (ARR Z .char vs) (ARR Z .char (vs.set i (.int x.toUInt32.toUInt16.toUInt32.toInt32))) os') (hj : j.toInt = (i : Int)) (hv : vs[i]? = some w) (k : WP X Z rc rs Q pc' L S os' ce sl) (hp : pc + 1 = pc' := by rfl) : WP X Z rc rs Q pc L (.int x :: .int j :: .ref a :: S) os ce sl := by
  obtain ⟨p, l', e, R', s, m, args, below, meth, c⟩ := X
  obtain ⟨h1, h2, hx, hZ, hby, hml, hown, hnm, hret, hlk⟩ := K
  have h2' : R' = R := h2
  subst h2'
  subst hp
  intro T locs hT0 hH hF
  have hT : Stand p l' e R' s m args below meth c T locs ce sl := hT0
  obtain ⟨ii, hm, rfl⟩ := hm
  obtain ⟨ha, cl, hcl, q1, q2, q3, q4, q5⟩ := hH.2.2 ii _ hm
  obtain ⟨e1, e2, e3⟩ := idx_ok q3 hj hv
  obtain ⟨T', h', X', e', W', st'⟩ := RoadKit.stC hT hx hZ rfl ⟨hcl, q1, q2⟩ (x := x) e1 (g := mkF m pc L.toArray (.int x :: .int j :: .ref a :: S)) rfl rfl (hb hby hd)
  rw [e2] at W'
  obtain ⟨s2, o, st, r⟩ := k T' _ X' (by rw [e']; exact hH.upd hm W' (fun c c' g1 g2 g3 g4 => by rw [g4]; exact ARR.put g2 (fits_nar_char x))) (Fr.snoc X' hF ha)
  exact ⟨s2, o, st' _ st, r⟩
theorem W.getF {a : Addr} {O n d C : String} {v : Value} {fs : List FV} {idx : Nat} (K : Ctx X l Z R y code maxL ret) (pc' : Nat) (hd : decode code pc = .ok (.getfield idx, 3)) (w : (Jvm.Cond.fieldLink y.cls idx O n d).before a0 Z = true) (hm : (a, OBJ Z C fs) ∈ os) (hf : (O, n, d, v) ∈ fs) (k : WP X Z rc rs Q pc' L (v :: S) os ce sl) (hp : pc + 3 = pc' := by rfl) : WP X Z rc rs Q pc L (.ref a :: S) os ce sl := by
  obtain ⟨p, l', e, R', s, m, args, below, meth, c⟩ := X
  obtain ⟨h1, h2, hx, hZ, hby, hml, hown, hnm, hret, hlk⟩ := K
  have h2' : R' = R := h2
  subst h2'
  subst hp
  intro T locs hT0 hH hF
  have hT : Stand p l' e R' s m args below meth c T locs ce sl := hT0
  obtain ⟨-, cl, hcl, hO⟩ := hH.get hm
  obtain ⟨T', X', e', st'⟩ := RoadKit.getF hT hx hZ hown (host := "") (Or.inl w) Via.refl rfl (hO.fld hcl hf) (g := mkF m pc L.toArray (.ref a :: S)) rfl rfl (hb hby hd)
  obtain ⟨s2, o, st, r⟩ := k T' locs X' (by rw [e']; exact hH) hF
  exact ⟨s2, o, st' _ st, r⟩
theorem W.getFN {a : Addr} {O n d C host : String} {v : Value} {fs : List FV} {idx : Nat} (K : Ctx X l Z R y code maxL ret) (pc' : Nat) (hd : decode code pc = .ok (.getfield idx, 3)) (w : (Jvm.Cond.fieldLinkNest y.cls idx O n d host).before a0 Z = true) (hm : (a, OBJ Z C fs) ∈ os) (hf : (O, n, d, v) ∈ fs) (k : WP X Z rc rs Q pc' L (v :: S) os ce sl) (hp : pc + 3 = pc' := by rfl) : WP X Z rc rs Q pc L (.ref a :: S) os ce sl := by
  obtain ⟨p, l', e, R', s, m, args, below, meth, c⟩ := X
  obtain ⟨h1, h2, hx, hZ, hby, hml, hown, hnm, hret, hlk⟩ := K
  have h2' : R' = R := h2
  subst h2'
  subst hp
  intro T locs hT0 hH hF
  have hT : Stand p l' e R' s m args below meth c T locs ce sl := hT0
  obtain ⟨-, cl, hcl, hO⟩ := hH.get hm
  obtain ⟨T', X', e', st'⟩ := RoadKit.getF hT hx hZ hown (host := host) (Or.inr w) Via.refl rfl (hO.fld hcl hf) (g := mkF m pc L.toArray (.ref a :: S)) rfl rfl (hb hby hd)
  obtain ⟨s2, o, st, r⟩ := k T' locs X' (by rw [e']; exact hH) hF
  exact ⟨s2, o, st' _ st, r⟩
theorem W.getFo {a : Addr} {O n d : String} {v : Value} {idx : Nat} (K : Ctx X l Z R y code maxL ret) (pc' : Nat) (hd : decode code pc = .ok (.getfield idx, 3)) (w : (Jvm.Cond.fieldLink y.cls idx O n d).before a0 Z = true) (F : Fld Z Z.heap a O n d v) (k : WP X Z rc rs Q pc' L (v :: S) os ce sl) (hp : pc + 3 = pc' := by rfl) : WP X Z rc rs Q pc L (.ref a :: S) os ce sl := by
  obtain ⟨p, l', e, R', s, m, args, below, meth, c⟩ := X
  obtain ⟨h1, h2, hx, hZ, hby, hml, hown, hnm, hret, hlk⟩ := K
  have h2' : R' = R := h2
  subst h2'
  subst hp
  intro T locs hT0 hH hF
  have hT : Stand p l' e R' s m args below meth c T locs ce sl := hT0
  obtain ⟨T', X', e', st'⟩ := RoadKit.getF hT hx hZ hown (host := "") (Or.inl w) Via.refl rfl (F.ext hH.1) (g := mkF m pc L.toArray (.ref a :: S)) rfl rfl (hb hby hd)
  obtain ⟨s2, o, st, r⟩ := k T' locs X' (by rw [e']; exact hH) hF
  exact ⟨s2, o, st' _ st, r⟩
theorem W.getFR {a : Addr} {O n d C : String} {v : Value} {fs : List FV} {idx : Nat} (K : Ctx X l Z R y code maxL ret) (pc' : Nat) (hd : decode code pc = .ok (.getfield idx, 3)) (w : (Jvm.Cond.fieldRef y.cls idx O n d).before a0 Z = true) (hm : (a, OBJ Z C fs) ∈ os) (hf : (O, n, d, v) ∈ fs) (k : WP X Z rc rs Q pc' L (v :: S) os ce sl) (hp : pc + 3 = pc' := by rfl) : WP X Z rc rs Q pc L (.ref a :: S) os ce sl := by
  obtain ⟨p, l', e, R', s, m, args, below, meth, c⟩ := X
  obtain ⟨h1, h2, hx, hZ, hby, hml, hown, hnm, hret, hlk⟩ := K
  have h2' : R' = R := h2
  subst h2'
  subst hp
  intro T locs hT0 hH hF
  have hT : Stand p l' e R' s m args below meth c T locs ce sl := hT0
  obtain ⟨-, cl, hcl, hO⟩ := hH.get hm
  obtain ⟨s2, o, st, r⟩ := k T locs hT hH hF
  obtain ⟨cell, cf, kf, i, f, f1, f2, f3, f4, f5, f6, f7⟩ := hO.fld hcl hf
  cases hcl.symm.trans f1
  have hZT : Z.Warmed39 T.vm := wtrans hZ (Stand.warmed hT)
  have w1 := Cond.fieldRef_warmed39 hZT w
  have hcur : (Z.setVm T.vm).vm.findClass y.cls = some m.cls := by
    have q := (Stand.warmed hT).alike.findClass y.cls
    show T.vm.findClass y.cls = some m.cls
    rw [q]; exact hown
  obtain ⟨c1, k1, i1, fd1, g1, g2⟩ := Cond.fieldRef_spec hcur w1
  obtain ⟨k2, g3, -⟩ := State.fieldFound?_setVm (s := Z) hZT.alike f2
  cases g1.symm.trans g3
  refine ⟨s2, o, ?_, r⟩
  have hX := Stand.here hT
  have hdg := hb hby hd
  jvm_step hX [hX.top, hx, hdg, getfield.wp_ready (e := e) (s := T) (f := mkF m pc L.toArray (.ref a :: S)) hX.top g2 f3 rfl f1 f4 f7]
  exact st
theorem W.putFg {a : Addr} {O n d C host : String} {v old : Value} {fs fs' : List FV} {idx kk : Nat} {ty : FieldType} (K : Ctx X l Z R y code maxL ret) (pc' : Nat) (hd : decode code pc = .ok (.putfield idx, 3)) (w : (Jvm.Cond.fieldLink y.cls idx O n d).before a0 Z = true ∨ (Jvm.Cond.fieldLinkNest y.cls idx O n d host).before a0 Z = true)
    (hL : (Jvm.Cond.lays C O n d).before a0 Z = true ∨ ((Jvm.Cond.laysFinal C O n d).before a0 Z = true ∧ y.cls = O ∧ y.name = "<init>")) (wi : (Jvm.Cond.instantiable C kk).before a0 Z = true) (hty : parseFieldDescriptor d = some ty) (hn : narrow ty v = v) (hfit : fits ty v = true)
    (hm : Upd os a (OBJ Z C fs) (OBJ Z C fs') os') (hf : UpdF fs O n d old v fs') (k : WP X Z rc rs Q pc' L S os' ce sl) (hp : pc + 3 = pc' := by rfl) : WP X Z rc rs Q pc L (v :: .ref a :: S) os ce sl := by
  obtain ⟨p, l', e, R', s, m, args, below, meth, c⟩ := X
  obtain ⟨h1, h2, hx, hZ, hby, hml, hown, hnm, hret, hlk⟩ := K
  have h2' : R' = R := h2
  subst h2'
  subst hp
  intro T locs hT0 hH hF
  have hT : Stand p l' e R' s m args below meth c T locs ce sl := hT0
  obtain ⟨ii, hm, rfl⟩ := hm
  obtain ⟨ha, cl, hcl, hO⟩ := hH.2.2 ii _ hm
  have hmem : (O, n, d, old) ∈ fs := by obtain ⟨jj, hj, -⟩ := hf; exact List.mem_of_getElem? hj
  obtain ⟨T', h', X', e', W', st'⟩ := RoadKit.putF hT hx hZ hown w Via.refl rfl (hO.fld hcl hmem) (hO.exa hcl) (hL.imp id (fun q => ⟨q.1, q.2.1, by rw [hnm]; exact q.2.2⟩)) wi hty hn hfit (g := mkF m pc L.toArray (v :: .ref a :: S)) rfl rfl (hb hby hd)
  obtain ⟨s2, o, st, r⟩ := k T' _ X' (by rw [e']; exact hH.upd hm W' (fun c c' g1 g2 g3 g4 => by rw [g4]; exact OBJ.put g2 hf)) (Fr.snoc X' hF ha)
  exact ⟨s2, o, st' _ st, r⟩
theorem W.putF {a : Addr} {O n d C : String} {v old : Value} {fs fs' : List FV} {idx kk : Nat} {ty : FieldType} (K : Ctx X l Z R y code maxL ret) (pc' : Nat) (hd : decode code pc = .ok (.putfield idx, 3)) (w : (Jvm.Cond.fieldLink y.cls idx O n d).before a0 Z = true)
    (hL : (Jvm.Cond.lays C O n d).before a0 Z = true) (wi : (Jvm.Cond.instantiable C kk).before a0 Z = true) (hty : parseFieldDescriptor d = some ty) (hm : Upd os a (OBJ Z C fs) (OBJ Z C fs') os') (hf : UpdF fs O n d old v fs') (k : WP X Z rc rs Q pc' L S os' ce sl) (hn : narrow ty v = v := by rfl) (hfit : fits ty v = true := by rfl)
    (hp : pc + 3 = pc' := by rfl) : WP X Z rc rs Q pc L (v :: .ref a :: S) os ce sl := W.putFg (host := "") K pc' hd (Or.inl w) (Or.inl hL) wi hty hn hfit hm hf k hp
theorem W.putFf {a : Addr} {O n d C : String} {v old : Value} {fs fs' : List FV} {idx kk : Nat} {ty : FieldType} (K : Ctx X l Z R y code maxL ret) (pc' : Nat) (hd : decode code pc = .ok (.putfield idx, 3)) (w : (Jvm.Cond.fieldLink y.cls idx O n d).before a0 Z = true)
    (hL : (Jvm.Cond.laysFinal C O n d).before a0 Z = true) (wi : (Jvm.Cond.instantiable C kk).before a0 Z = true) (hty : parseFieldDescriptor d = some ty) (hm : Upd os a (OBJ Z C fs) (OBJ Z C fs') os') (hf : UpdF fs O n d old v fs') (k : WP X Z rc rs Q pc' L S os' ce sl) (hn : narrow ty v = v := by rfl) (hfit : fits ty v = true := by rfl)
    (hy1 : y.cls = O := by rfl) (hy2 : y.name = "<init>" := by rfl) (hp : pc + 3 = pc' := by rfl) : WP X Z rc rs Q pc L (v :: .ref a :: S) os ce sl := W.putFg (host := "") K pc' hd (Or.inl w) (Or.inr ⟨hL, hy1, hy2⟩) wi hty hn hfit hm hf k hp
theorem W.getS {O n d : String} {v : Value} {idx : Nat} (K : Ctx X l Z R y code maxL ret) (pc' : Nat) (hd : decode code pc = .ok (.getstatic idx, 3)) (w : (Jvm.Cond.fieldLink y.cls idx O n d).before a0 Z = true) (F : Sta Z Z.heap O n d v) (k : WP X Z rc rs Q pc' L (v :: S) os ce sl) (hp : pc + 3 = pc' := by rfl) : WP X Z rc rs Q pc L S os ce sl := by
  obtain ⟨p, l', e, R', s, m, args, below, meth, c⟩ := X
  obtain ⟨h1, h2, hx, hZ, hby, hml, hown, hnm, hret, hlk⟩ := K
  have h2' : R' = R := h2
  subst h2'
  subst hp
  intro T locs hT0 hH hF
  have hT : Stand p l' e R' s m args below meth c T locs ce sl := hT0
  obtain ⟨T', X', e', st'⟩ := RoadKit.getS hT hx hZ (host := "") hown w Via.refl rfl (F.ext hH.1) (g := mkF m pc L.toArray S) rfl (hb hby hd)
  obtain ⟨s2, o, st, r⟩ := k T' locs X' (by rw [e']; exact hH) hF
  exact ⟨s2, o, st' _ st, r⟩
theorem W.new {C : String} {idx n : Nat} (fs : List FV) (K : Ctx X l Z R y code maxL ret) (pc' : Nat) (hd : decode code pc = .ok (.new idx, 3)) (w : (Jvm.Cond.classLink y.cls idx C).before a0 Z = true) (wi : (Jvm.Cond.instantiable C n).before a0 Z = true) (wz : (Jvm.Cond.initialized C).before a0 Z = true)
    (q : Laids Z a0 C fs) (k : ∀ a, WP X Z rc rs Q pc' L (.ref a :: S) ((a, OBJ Z C fs) :: os) (ce + 1) (sl + n)) (hc : ce + 1 ≤ R.cells := by decide) (hl : sl + n ≤ R.slots := by decide) (nd : (fs.map (fun f => f.2.1)).Nodup := by decide) (hp : pc + 3 = pc' := by rfl) : WP X Z rc rs Q pc L S os ce sl := by
  obtain ⟨p, l', e, R', s, m, args, below, meth, c⟩ := X
  obtain ⟨h1, h2, hx, hZ, hby, hml, hown, hnm, hret, hlk⟩ := K
  have h2' : R' = R := h2
  subst h2'
  subst hp
  intro T locs hT0 hH hF
  have hT : Stand p l' e R' s m args below meth c T locs ce sl := hT0
  obtain ⟨T', h', X', e', E', A', D', -, st'⟩ := RoadKit.newO hT hx hZ hown w wi wz rfl (g := mkF m pc L.toArray S) rfl (hb hby hd) (hc) (hl)
  obtain ⟨c0, hc0, hO⟩ := OBJ.new A' D' q nd
  obtain ⟨s2, o, st, r⟩ := k T.heap.size T' locs X' (by rw [e']; exact hH.new E' hc0 hO) hF
  exact ⟨s2, o, st' _ st, r⟩
theorem fits_dflt {ty : FieldType} (h : ty = .int ∨ ty = .long ∨ ty = .byte ∨ ty = .char ∨ ty = .boolean ∨ ty = .short) : fits ty (defaultValue ty) = true := by
  rcases h with rfl | rfl | rfl | rfl | rfl | rfl <;> rfl
theorem W.newarray {aty : ArrayType} {ty : FieldType} {z : Int32} (i cap : Nat) (K : Ctx X l Z R y code maxL ret) (pc' : Nat) (hd : decode code pc = .ok (.newarray aty, 2)) (w : (Jvm.Cond.arrayClass ty).before a0 Z = true) (hz : z.toInt = (i : Int)) (hi : i ≤ cap)
    (k : ∀ a, WP X Z rc rs Q pc' L (.ref a :: S) ((a, ARR Z ty (List.replicate i (defaultValue ty))) :: os) (ce + 1) (sl + cap)) (ht : newarray.typeOf aty = ty := by rfl) (htt : ty = .int ∨ ty = .long ∨ ty = .byte ∨ ty = .char ∨ ty = .boolean ∨ ty = .short := by simp) (hb8 : cap * 8 ≤ 536870912 := by decide) (hc : ce + 1 ≤ R.cells := by decide) (hl : sl + cap ≤ R.slots := by decide) (hp : pc + 2 = pc' := by rfl) :
    WP X Z rc rs Q pc L (.int z :: S) os ce sl := by
  obtain ⟨p, l', e, R', s, m, args, below, meth, c⟩ := X
  obtain ⟨h1, h2, hx, hZ, hby, hml, hown, hnm, hret, hlk⟩ := K
  have h2' : R' = R := h2
  subst h2'
  subst hp
  intro T locs hT0 hH hF
  have hT : Stand p l' e R' s m args below meth c T locs ce sl := hT0
  subst ht
  have ez : z.toNatClampNeg = i := by show z.toInt.toNat = i; rw [hz]; rfl
  obtain ⟨T', h', cA, X', e', E', A', st'⟩ := RoadKit.newP hT hx hZ w rfl (g := mkF m pc L.toArray (.int z :: S)) rfl (hb hby hd) rfl (by rw [Int32.lt_iff_toInt_lt, hz]; exact Int.not_lt.mpr (Int.natCast_nonneg i)) (cap := cap) (by rw [ez]; exact hi) hb8 (hc) (hl)
  have hA : ARR Z (newarray.typeOf aty) (List.replicate i (defaultValue (newarray.typeOf aty))) (newA cA (newarray.typeOf aty) z) := by
    refine ⟨A'.2.1, A'.2.2, by simp [newA, ez], fun v hv => ?_, by simp; omega⟩
    rw [(List.mem_replicate.mp hv).2]; exact fits_dflt htt
  obtain ⟨s2, o, st, r⟩ := k T.heap.size T' locs X' (by rw [e']; exact hH.new E' A'.1 hA) hF
  exact ⟨s2, o, st' _ st, r⟩
theorem W.initO {a : Addr} {idx : Nat} (K : Ctx X l Z R y code maxL ret) (pc' : Nat) (hd : decode code pc = .ok (.invokespecial idx, 3)) (w1 : (Jvm.Cond.methodLink y.cls idx Lib.objectInit).before a0 Z = true) (w2 : (Jvm.Cond.instanceMethod Lib.objectInit).before a0 Z = true) (w3 : (Jvm.Cond.code Lib.objectInit ⟨#[0xb1]⟩ 1 none).before a0 Z = true)
    (k : WP X Z rc rs Q pc' L S os ce sl) (hsz : L.length = maxL := by rfl) (hf : 1 ≤ R.frames := by decide) (hl : (S.map fun v => v.category).sum + 12 ≤ R.locals := by exact Nat.le_of_ble_eq_true rfl) (hp : pc + 3 = pc' := by rfl) : WP X Z rc rs Q pc L (.ref a :: S) os ce sl := by
  obtain ⟨p, l', e, R', s, m, args, below, meth, c⟩ := X
  obtain ⟨h1, h2, hx, hZ, hby, hml, hown, hnm, hret, hlk⟩ := K
  have h2' : R' = R := h2
  subst h2'
  subst hp
  intro T locs hT0 hH hF
  have hT : Stand p l' e R' s m args below meth c T locs ce sl := hT0
  obtain ⟨T', X', e', st'⟩ := RoadKit.initO hT hx hZ hown w1 w2 w3 rfl (g := mkF m pc L.toArray (.ref a :: S)) rfl (by rw [hml]; simpa using hsz) rfl (hb hby hd) (hf) (W := (S.map fun v => v.category).sum) (by show 2 * 0 + _ ≤ _; omega) (hl)
  obtain ⟨s2, o, st, r⟩ := k T' locs X' (by rw [e']; exact hH) hF
  exact ⟨s2, o, st' _ st, r⟩

theorem W.retG {w : Value} {t : FieldType} {i : Instr} (K : Ctx X l Z R y code maxL (some t)) (hn : narrow t w = w)
    (hi : (i = .ireturn ∧ (t = .int ∨ t = .boolean ∨ t = .byte ∨ t = .char ∨ t = .short) ∧ ∃ z, w = .int z) ∨ (i = .lreturn ∧ t = .long ∧ ∃ z, w = .long z) ∨ (i = .dreturn ∧ t = .double ∧ ∃ z, w = .double z) ∨ (i = .freturn ∧ t = .float ∧ ∃ z, w = .float z) ∨ (i = .areturn ∧ t.isReference = true ∧ w.isRef = true))
    (hd : decode code pc = .ok (i, 1)) (q : Q (some w) os) (hc : ce ≤ rc) (hs : sl ≤ rs) : WP X Z rc rs Q pc L (w :: S) os ce sl := by
  obtain ⟨p, l', e, R', s, m, args, below, meth, c⟩ := X
  obtain ⟨h1, h2, hx, hZ, hby, hml, hown, hnm, hret, hlk⟩ := K
  have h2' : R' = R := h2
  subst h2'
  intro T locs hT0 hH hF
  have hT : Stand p l' e R' s m args below meth c T locs ce sl := hT0
  have hret' : meth.sig.returnType = some t := hret
  obtain ⟨fs, hr, hrun, hended, hW, hsame⟩ := Stand.leave hT (v := some w) (fun h => by rw [hret'] at h; cases h) hlk
  exact ⟨_, _, retOut hT hx hret hn hi (hb hby hd) hr, hrun, hended, _, _, rfl, ⟨os, q, hH, hF⟩, ⟨_, rfl⟩, hW, hsame.mono hc hs⟩
theorem W.ireturn {z : Int32} (K : Ctx X l Z R y code maxL (some .int)) (hd : decode code pc = .ok (.ireturn, 1)) (q : Q (some (.int z)) os) (hc : ce ≤ rc := by decide) (hs : sl ≤ rs := by decide) : WP X Z rc rs Q pc L (.int z :: S) os ce sl := W.retG K rfl (Or.inl ⟨rfl, Or.inl rfl, z, rfl⟩) hd q hc hs
theorem W.lreturn {z : Int64} (K : Ctx X l Z R y code maxL (some .long)) (hd : decode code pc = .ok (.lreturn, 1)) (q : Q (some (.long z)) os) (hc : ce ≤ rc := by decide) (hs : sl ≤ rs := by decide) : WP X Z rc rs Q pc L (.long z :: S) os ce sl := W.retG K rfl (Or.inr (Or.inl ⟨rfl, rfl, z, rfl⟩)) hd q hc hs
theorem W.areturn {w : Value} {t : FieldType} (K : Ctx X l Z R y code maxL (some t)) (hd : decode code pc = .ok (.areturn, 1)) (q : Q (some w) os) (hw : w.isRef = true := by rfl) (ht : t.isReference = true := by rfl) (hc : ce ≤ rc := by decide) (hs : sl ≤ rs := by decide) : WP X Z rc rs Q pc L (w :: S) os ce sl :=
  W.retG K (by cases t <;> first | rfl | (cases w <;> first | rfl | cases ht | cases hw)) (Or.inr (Or.inr (Or.inr (Or.inr ⟨rfl, ht, hw⟩)))) hd q hc hs
theorem W.zreturn {z : Int32} (K : Ctx X l Z R y code maxL (some .boolean)) (hd : decode code pc = .ok (.ireturn, 1)) (hz : z = 0 ∨ z = 1) (q : Q (some (.int z)) os) (hc : ce ≤ rc := by decide) (hs : sl ≤ rs := by decide) : WP X Z rc rs Q pc L (.int z :: S) os ce sl :=
  W.retG K (by rcases hz with rfl | rfl <;> rfl) (Or.inl ⟨rfl, Or.inr (Or.inl rfl), z, rfl⟩) hd q hc hs
theorem W.creturn {z : Int32} (K : Ctx X l Z R y code maxL (some .char)) (hd : decode code pc = .ok (.ireturn, 1)) (hz : narrow .char (.int z) = .int z) (q : Q (some (.int z)) os) (hc : ce ≤ rc := by decide) (hs : sl ≤ rs := by decide) : WP X Z rc rs Q pc L (.int z :: S) os ce sl :=
  W.retG K hz (Or.inl ⟨rfl, Or.inr (Or.inr (Or.inr (Or.inl rfl))), z, rfl⟩) hd q hc hs
theorem W.breturn {z : Int32} (K : Ctx X l Z R y code maxL (some .byte)) (hd : decode code pc = .ok (.ireturn, 1)) (hz : narrow .byte (.int z) = .int z) (q : Q (some (.int z)) os) (hc : ce ≤ rc := by decide) (hs : sl ≤ rs := by decide) : WP X Z rc rs Q pc L (.int z :: S) os ce sl :=
  W.retG K hz (Or.inl ⟨rfl, Or.inr (Or.inr (Or.inl rfl)), z, rfl⟩) hd q hc hs
theorem W.return (K : Ctx X l Z R y code maxL none) (hd : decode code pc = .ok (.return_, 1)) (q : Q none os) (hc : ce ≤ rc := by decide) (hs : sl ≤ rs := by decide) : WP X Z rc rs Q pc L [] os ce sl := by
  obtain ⟨p, l', e, R', s, m, args, below, meth, c⟩ := X
  obtain ⟨h1, h2, hx, hZ, hby, hml, hown, hnm, hret, hlk⟩ := K
  have h2' : R' = R := h2
  subst h2'
  intro T locs hT0 hH hF
  have hT : Stand p l' e R' s m args below meth c T locs ce sl := hT0
  obtain ⟨fs, hr, hrun, hended, hW, hsame⟩ := Stand.leave hT (v := none) (fun _ => rfl) hlk
  exact ⟨_, _, Stand.returnOut hT hx hret (hb hby hd) hr, hrun, hended, _, _, rfl, ⟨os, q, hH, hF⟩, ⟨_, rfl⟩, hW, hsame.mono hc hs⟩

theorem W.callS {idx mx : Nat} {z : MethodName} {bytes : ByteArray} {rt : Option FieldType} {rm : Room} {argsL : List Value} {S0 : List Value} {ps : List FieldType} {rr : Option FieldType} {Q' : Option Value → OS → Prop} (K : Ctx X l Z R y code maxL ret) (pc' : Nat) (hd : decode code pc = .ok (.invokestatic idx, 3)) (w1 : (Jvm.Cond.methodLink y.cls idx z).before a0 Z = true) (w2 : (Jvm.Cond.static z).before a0 Z = true) (w3 : (Jvm.Cond.initialized z.cls).before a0 Z = true) (w4 : (Jvm.Cond.code z bytes mx rt).before a0 Z = true)
    (hsig : parseMethodDescriptor z.desc = some ⟨ps, rr⟩) (hM : OMeets l Z z bytes mx rt rm argsL os Q') (k : ∀ v os', Q' v os' → WP X Z rc rs Q pc' L (v.toList ++ S) os' (ce + rm.cells) (sl + rm.slots)) (hst : S0 = argsL.reverse ++ S := by rfl) (hlen : argsL.length = ps.length := by rfl) (hsz : L.length = maxL := by rfl) (hf : rm.frames + 1 ≤ R.frames := by decide) (hl : (S.map fun v => v.category).sum + (mx + 11) + rm.locals ≤ R.locals := by exact Nat.le_of_ble_eq_true rfl)
    (hc : ce + rm.cells ≤ R.cells := by decide) (hs : sl + rm.slots ≤ R.slots := by decide) (hy : z.cls ≠ "java/lang/invoke/MethodHandle" ∧ z.cls ≠ "java/lang/invoke/VarHandle" := by decide) (hp : pc + 3 = pc' := by rfl) : WP X Z rc rs Q pc L S0 os ce sl := by
  obtain ⟨p, l', e, R', s, m, args, below, meth, c⟩ := X
  obtain ⟨rfl, h2, hx, hZ, hby, hml, hown, hnm, hret, hlk⟩ := K
  have h2' : R' = R := h2
  subst h2'
  subst hp
  intro T locs hT0 hH hF
  have hT : Stand p l' e R' s m args below meth c T locs ce sl := hT0
  obtain ⟨v, vm1, ⟨T', L', k', n'⟩, -, X', ⟨Lc, ⟨os1, hQ1, hH1, hF1⟩, e1, e2, e3⟩, st'⟩ := Jvm.LawKit.callS hT hx (y := z) hown (mvT hZ w1) (mvT hZ w2) (mvT hZ w3) (mvT hZ w4) hy (backOf (W := (S.map fun v => v.category).sum) (Q := fun v h L => ∃ os', Q' v os' ∧ Hp Z h os' ∧ Fr Z.heap.size L) (hM _ hH []) hZ w4 w3 (hf) (hl)) (g := mkF m pc L.toArray S0) rfl (by rw [hml]; simpa using hsz) (argsL := argsL) (rest := S) (lenOf hsig hlen) hst (by show 2 * 0 + _ ≤ _; omega) (hb hby hd) (fun _ _ => ⟨rfl, rfl, hc, hs⟩)
  dsimp only [Pt.U, Pt.locs, Pt.cells, Pt.slots] at X' e1 e2 e3 st' hH1
  subst e1 e2 e3
  obtain ⟨s2, o, st, r⟩ := k v os1 hQ1 T' _ X' hH1 (Fr.app hF hF1)
  exact ⟨s2, o, st' _ st, r⟩
theorem W.callSv {idx mx : Nat} {z : MethodName} {bytes : ByteArray} {rt : Option FieldType} {rm : Room} {argsL : List Value} {S0 : List Value} {ps : List FieldType} {rr : Option FieldType} {q : Value → OS → Prop} (K : Ctx X l Z R y code maxL ret) (pc' : Nat) (hd : decode code pc = .ok (.invokestatic idx, 3)) (w1 : (Jvm.Cond.methodLink y.cls idx z).before a0 Z = true) (w2 : (Jvm.Cond.static z).before a0 Z = true) (w3 : (Jvm.Cond.initialized z.cls).before a0 Z = true) (w4 : (Jvm.Cond.code z bytes mx rt).before a0 Z = true)
    (hsig : parseMethodDescriptor z.desc = some ⟨ps, rr⟩) (hM : OMeets l Z z bytes mx rt rm argsL os (RetV q)) (k : ∀ v os', q v os' → WP X Z rc rs Q pc' L (v :: S) os' (ce + rm.cells) (sl + rm.slots)) (hst : S0 = argsL.reverse ++ S := by rfl) (hlen : argsL.length = ps.length := by rfl) (hsz : L.length = maxL := by rfl) (hf : rm.frames + 1 ≤ R.frames := by decide) (hl : (S.map fun v => v.category).sum + (mx + 11) + rm.locals ≤ R.locals := by exact Nat.le_of_ble_eq_true rfl)
    (hc : ce + rm.cells ≤ R.cells := by decide) (hs : sl + rm.slots ≤ R.slots := by decide) (hy : z.cls ≠ "java/lang/invoke/MethodHandle" ∧ z.cls ≠ "java/lang/invoke/VarHandle" := by decide) (hp : pc + 3 = pc' := by rfl) : WP X Z rc rs Q pc L S0 os ce sl :=
  W.callS K pc' hd w1 w2 w3 w4 hsig hM (fun v os' hq => by obtain ⟨x, rfl, hq⟩ := hq; exact k x os' hq) hst hlen hsz hf hl hc hs hy hp
theorem W.callSn {idx mx : Nat} {z : MethodName} {bytes : ByteArray} {rt : Option FieldType} {rm : Room} {argsL : List Value} {S0 : List Value} {ps : List FieldType} {rr : Option FieldType} {q : OS → Prop} (K : Ctx X l Z R y code maxL ret) (pc' : Nat) (hd : decode code pc = .ok (.invokestatic idx, 3)) (w1 : (Jvm.Cond.methodLink y.cls idx z).before a0 Z = true) (w2 : (Jvm.Cond.static z).before a0 Z = true) (w3 : (Jvm.Cond.initialized z.cls).before a0 Z = true) (w4 : (Jvm.Cond.code z bytes mx rt).before a0 Z = true)
    (hsig : parseMethodDescriptor z.desc = some ⟨ps, rr⟩) (hM : OMeets l Z z bytes mx rt rm argsL os (RetN q)) (k : ∀ os', q os' → WP X Z rc rs Q pc' L S os' (ce + rm.cells) (sl + rm.slots)) (hst : S0 = argsL.reverse ++ S := by rfl) (hlen : argsL.length = ps.length := by rfl) (hsz : L.length = maxL := by rfl) (hf : rm.frames + 1 ≤ R.frames := by decide) (hl : (S.map fun v => v.category).sum + (mx + 11) + rm.locals ≤ R.locals := by exact Nat.le_of_ble_eq_true rfl)
    (hc : ce + rm.cells ≤ R.cells := by decide) (hs : sl + rm.slots ≤ R.slots := by decide) (hy : z.cls ≠ "java/lang/invoke/MethodHandle" ∧ z.cls ≠ "java/lang/invoke/VarHandle" := by decide) (hp : pc + 3 = pc' := by rfl) : WP X Z rc rs Q pc L S0 os ce sl :=
  W.callS K pc' hd w1 w2 w3 w4 hsig hM (fun v os' hq => by obtain ⟨rfl, hq⟩ := hq; exact k os' hq) hst hlen hsz hf hl hc hs hy hp
theorem W.callI {idx mx : Nat} {z : MethodName} {bytes : ByteArray}  {rm : Room} {argsL : List Value} {S0 : List Value} {ps : List FieldType} {rr : Option FieldType} {b : Addr} {Q' : Option Value → OS → Prop} (K : Ctx X l Z R y code maxL ret) (pc' : Nat) (hd : decode code pc = .ok (.invokespecial idx, 3)) (w1 : (Jvm.Cond.methodLink y.cls idx z).before a0 Z = true) (w2 : (Jvm.Cond.instanceMethod z).before a0 Z = true) (w3 : (Jvm.Cond.initialized z.cls).before a0 Z = true) (w4 : (Jvm.Cond.code z bytes mx none).before a0 Z = true)
    (hsig : parseMethodDescriptor z.desc = some ⟨ps, rr⟩) (hM : OMeets l Z z bytes mx none rm (.ref b :: argsL) os Q') (k : ∀ v os', Q' v os' → WP X Z rc rs Q pc' L (v.toList ++ S) os' (ce + rm.cells) (sl + rm.slots)) (hz1 : z.name = "<init>" := by rfl) (hst : S0 = argsL.reverse ++ .ref b :: S := by rfl) (hlen : argsL.length = ps.length := by rfl) (hsz : L.length = maxL := by rfl) (hf : rm.frames + 1 ≤ R.frames := by decide) (hl : (S.map fun v => v.category).sum + (mx + 11) + rm.locals ≤ R.locals := by exact Nat.le_of_ble_eq_true rfl)
    (hc : ce + rm.cells ≤ R.cells := by decide) (hs : sl + rm.slots ≤ R.slots := by decide) (hy : z.cls ≠ "java/lang/invoke/MethodHandle" ∧ z.cls ≠ "java/lang/invoke/VarHandle" := by decide) (hp : pc + 3 = pc' := by rfl) : WP X Z rc rs Q pc L S0 os ce sl := by
  obtain ⟨p, l', e, R', s, m, args, below, meth, c⟩ := X
  obtain ⟨rfl, h2, hx, hZ, hby, hml, hown, hnm, hret, hlk⟩ := K
  have h2' : R' = R := h2
  subst h2'
  subst hp
  intro T locs hT0 hH hF
  have hT : Stand p l' e R' s m args below meth c T locs ce sl := hT0
  obtain ⟨v, vm1, ⟨T', L', k', n'⟩, -, X', ⟨Lc, ⟨os1, hQ1, hH1, hF1⟩, e1, e2, e3⟩, st'⟩ := Stand.specialBack hT hx (y := z) hz1 hown (mvT hZ w1) (mvT hZ w2) (mvT hZ w4) hy (backOf (W := (S.map fun v => v.category).sum) (Q := fun v h L => ∃ os', Q' v os' ∧ Hp Z h os' ∧ Fr Z.heap.size L) (hM _ hH []) hZ w4 w3 (hf) (hl)) (g := mkF m pc L.toArray S0) rfl (by rw [hml]; simpa using hsz) (Steps.refl _) (a := b) (argsL := argsL) (rest := S) (lenOf hsig hlen) hst (by show 2 * 0 + _ ≤ _; omega) (hb hby hd) (fun _ _ => ⟨rfl, rfl, hc, hs⟩)
  dsimp only [Pt.U, Pt.locs, Pt.cells, Pt.slots] at X' e1 e2 e3 st' hH1
  subst e1 e2 e3
  obtain ⟨s2, o, st, r⟩ := k v os1 hQ1 T' _ X' hH1 (Fr.app hF hF1)
  exact ⟨s2, o, st'.trans st, r⟩
theorem W.callIn {idx mx : Nat} {z : MethodName} {bytes : ByteArray}  {rm : Room} {argsL : List Value} {S0 : List Value} {ps : List FieldType} {rr : Option FieldType} {b : Addr} {q : OS → Prop} (K : Ctx X l Z R y code maxL ret) (pc' : Nat) (hd : decode code pc = .ok (.invokespecial idx, 3)) (w1 : (Jvm.Cond.methodLink y.cls idx z).before a0 Z = true) (w2 : (Jvm.Cond.instanceMethod z).before a0 Z = true) (w3 : (Jvm.Cond.initialized z.cls).before a0 Z = true) (w4 : (Jvm.Cond.code z bytes mx none).before a0 Z = true)
    (hsig : parseMethodDescriptor z.desc = some ⟨ps, rr⟩) (hM : OMeets l Z z bytes mx none rm (.ref b :: argsL) os (RetN q)) (k : ∀ os', q os' → WP X Z rc rs Q pc' L S os' (ce + rm.cells) (sl + rm.slots)) (hz1 : z.name = "<init>" := by rfl) (hst : S0 = argsL.reverse ++ .ref b :: S := by rfl) (hlen : argsL.length = ps.length := by rfl) (hsz : L.length = maxL := by rfl) (hf : rm.frames + 1 ≤ R.frames := by decide) (hl : (S.map fun v => v.category).sum + (mx + 11) + rm.locals ≤ R.locals := by exact Nat.le_of_ble_eq_true rfl)
    (hc : ce + rm.cells ≤ R.cells := by decide) (hs : sl + rm.slots ≤ R.slots := by decide) (hy : z.cls ≠ "java/lang/invoke/MethodHandle" ∧ z.cls ≠ "java/lang/invoke/VarHandle" := by decide) (hp : pc + 3 = pc' := by rfl) : WP X Z rc rs Q pc L S0 os ce sl :=
  W.callI K pc' hd w1 w2 w3 w4 hsig hM (fun v os' hq => by obtain ⟨rfl, hq⟩ := hq; exact k os' hq) hz1 hst hlen hsz hf hl hc hs hy hp
theorem W.callV {idx mx : Nat} {z : MethodName} {bytes : ByteArray} {rt : Option FieldType} {C : String} {rm : Room} {argsL : List Value} {S0 : List Value} {ps : List FieldType} {rr : Option FieldType} {b : Addr} {Q' : Option Value → OS → Prop} (K : Ctx X l Z R y code maxL ret) (pc' : Nat) (hd : decode code pc = .ok (.invokevirtual idx, 3)) (w1 : (Jvm.Cond.methodLink y.cls idx z).before a0 Z = true) (w2 : (Jvm.Cond.declares z).before a0 Z = true) (w5 : (Jvm.Cond.selects C z z).before a0 Z = true) (w6 : (Jvm.Cond.instanceMethod z).before a0 Z = true) (w3 : (Jvm.Cond.initialized z.cls).before a0 Z = true) (w4 : (Jvm.Cond.code z bytes mx rt).before a0 Z = true)
    (hsig : parseMethodDescriptor z.desc = some ⟨ps, rr⟩) (hrc : ∀ h, Hp Z h os → Exa Z h b C) (hM : OMeets l Z z bytes mx rt rm (.ref b :: argsL) os Q') (k : ∀ v os', Q' v os' → WP X Z rc rs Q pc' L (v.toList ++ S) os' (ce + rm.cells) (sl + rm.slots)) (hst : S0 = argsL.reverse ++ .ref b :: S := by rfl) (hlen : argsL.length = ps.length := by rfl) (hsz : L.length = maxL := by rfl) (hf : rm.frames + 1 ≤ R.frames := by decide) (hl : (S.map fun v => v.category).sum + (mx + 11) + rm.locals ≤ R.locals := by exact Nat.le_of_ble_eq_true rfl)
    (hc : ce + rm.cells ≤ R.cells := by decide) (hs : sl + rm.slots ≤ R.slots := by decide) (hy : z.cls ≠ "java/lang/invoke/MethodHandle" ∧ z.cls ≠ "java/lang/invoke/VarHandle" := by decide) (hp : pc + 3 = pc' := by rfl) : WP X Z rc rs Q pc L S0 os ce sl := by
  obtain ⟨p, l', e, R', s, m, args, below, meth, c⟩ := X
  obtain ⟨rfl, h2, hx, hZ, hby, hml, hown, hnm, hret, hlk⟩ := K
  have h2' : R' = R := h2
  subst h2'
  subst hp
  intro T locs hT0 hH hF
  have hT : Stand p l' e R' s m args below meth c T locs ce sl := hT0
  obtain ⟨cq7, kq7, q7a, q7b, q7c⟩ := isOf (T := T) hZ rfl (hrc T.heap hH)
  obtain ⟨v, vm1, ⟨T', L', k', n'⟩, -, X', ⟨Lc, ⟨os1, hQ1, hH1, hF1⟩, e1, e2, e3⟩, st'⟩ := Stand.virtualBack hT hx (y := z) (z := z) hown (mvT hZ w1) (mvT hZ w2) (notFace_of_selects (args := #[]) (mvT hZ w5)) (mvT hZ w5) (mvT hZ w6) hy (backOf (W := (S.map fun v => v.category).sum) (Q := fun v h L => ∃ os', Q' v os' ∧ Hp Z h os' ∧ Fr Z.heap.size L) (hM _ hH []) hZ w4 w3 (hf) (hl)) q7a q7c (g := mkF m pc L.toArray S0) rfl (by rw [hml]; simpa using hsz) (Steps.refl _) (argsL := argsL) (rest := S) (lenOf hsig hlen) hst (by show 2 * 0 + _ ≤ _; omega) (hb hby hd) (fun _ _ => ⟨rfl, rfl, hc, hs⟩)
  dsimp only [Pt.U, Pt.locs, Pt.cells, Pt.slots] at X' e1 e2 e3 st' hH1
  subst e1 e2 e3
  obtain ⟨s2, o, st, r⟩ := k v os1 hQ1 T' _ X' hH1 (Fr.app hF hF1)
  exact ⟨s2, o, st'.trans st, r⟩
theorem W.callVv {idx mx : Nat} {z : MethodName} {bytes : ByteArray} {rt : Option FieldType} {C : String} {rm : Room} {argsL : List Value} {S0 : List Value} {ps : List FieldType} {rr : Option FieldType} {b : Addr} {q : Value → OS → Prop} (K : Ctx X l Z R y code maxL ret) (pc' : Nat) (hd : decode code pc = .ok (.invokevirtual idx, 3)) (w1 : (Jvm.Cond.methodLink y.cls idx z).before a0 Z = true) (w2 : (Jvm.Cond.declares z).before a0 Z = true) (w5 : (Jvm.Cond.selects C z z).before a0 Z = true) (w6 : (Jvm.Cond.instanceMethod z).before a0 Z = true) (w3 : (Jvm.Cond.initialized z.cls).before a0 Z = true) (w4 : (Jvm.Cond.code z bytes mx rt).before a0 Z = true)
    (hsig : parseMethodDescriptor z.desc = some ⟨ps, rr⟩) (hrc : ∀ h, Hp Z h os → Exa Z h b C) (hM : OMeets l Z z bytes mx rt rm (.ref b :: argsL) os (RetV q)) (k : ∀ v os', q v os' → WP X Z rc rs Q pc' L (v :: S) os' (ce + rm.cells) (sl + rm.slots)) (hst : S0 = argsL.reverse ++ .ref b :: S := by rfl) (hlen : argsL.length = ps.length := by rfl) (hsz : L.length = maxL := by rfl) (hf : rm.frames + 1 ≤ R.frames := by decide) (hl : (S.map fun v => v.category).sum + (mx + 11) + rm.locals ≤ R.locals := by exact Nat.le_of_ble_eq_true rfl)
    (hc : ce + rm.cells ≤ R.cells := by decide) (hs : sl + rm.slots ≤ R.slots := by decide) (hy : z.cls ≠ "java/lang/invoke/MethodHandle" ∧ z.cls ≠ "java/lang/invoke/VarHandle" := by decide) (hp : pc + 3 = pc' := by rfl) : WP X Z rc rs Q pc L S0 os ce sl :=
  W.callV K pc' hd w1 w2 w5 w6 w3 w4 hsig hrc hM (fun v os' hq => by obtain ⟨x, rfl, hq⟩ := hq; exact k x os' hq) hst hlen hsz hf hl hc hs hy hp
theorem W.callVn {idx mx : Nat} {z : MethodName} {bytes : ByteArray} {rt : Option FieldType} {C : String} {rm : Room} {argsL : List Value} {S0 : List Value} {ps : List FieldType} {rr : Option FieldType} {b : Addr} {q : OS → Prop} (K : Ctx X l Z R y code maxL ret) (pc' : Nat) (hd : decode code pc = .ok (.invokevirtual idx, 3)) (w1 : (Jvm.Cond.methodLink y.cls idx z).before a0 Z = true) (w2 : (Jvm.Cond.declares z).before a0 Z = true) (w5 : (Jvm.Cond.selects C z z).before a0 Z = true) (w6 : (Jvm.Cond.instanceMethod z).before a0 Z = true) (w3 : (Jvm.Cond.initialized z.cls).before a0 Z = true) (w4 : (Jvm.Cond.code z bytes mx rt).before a0 Z = true)
    (hsig : parseMethodDescriptor z.desc = some ⟨ps, rr⟩) (hrc : ∀ h, Hp Z h os → Exa Z h b C) (hM : OMeets l Z z bytes mx rt rm (.ref b :: argsL) os (RetN q)) (k : ∀ os', q os' → WP X Z rc rs Q pc' L S os' (ce + rm.cells) (sl + rm.slots)) (hst : S0 = argsL.reverse ++ .ref b :: S := by rfl) (hlen : argsL.length = ps.length := by rfl) (hsz : L.length = maxL := by rfl) (hf : rm.frames + 1 ≤ R.frames := by decide) (hl : (S.map fun v => v.category).sum + (mx + 11) + rm.locals ≤ R.locals := by exact Nat.le_of_ble_eq_true rfl)
    (hc : ce + rm.cells ≤ R.cells := by decide) (hs : sl + rm.slots ≤ R.slots := by decide) (hy : z.cls ≠ "java/lang/invoke/MethodHandle" ∧ z.cls ≠ "java/lang/invoke/VarHandle" := by decide) (hp : pc + 3 = pc' := by rfl) : WP X Z rc rs Q pc L S0 os ce sl :=
  W.callV K pc' hd w1 w2 w5 w6 w3 w4 hsig hrc hM (fun v os' hq => by obtain ⟨rfl, hq⟩ := hq; exact k os' hq) hst hlen hsz hf hl hc hs hy hp
theorem W.callSv0 {idx mx : Nat} {z : MethodName} {bytes : ByteArray} {rt : Option FieldType} {rm : Room} {ps : List FieldType} {rr : Option FieldType} {q : Value → OS → Prop} (K : Ctx X l Z R y code maxL ret) (pc' : Nat) (hd : decode code pc = .ok (.invokestatic idx, 3)) (w1 : (Jvm.Cond.methodLink y.cls idx z).before a0 Z = true) (w2 : (Jvm.Cond.static z).before a0 Z = true) (w3 : (Jvm.Cond.initialized z.cls).before a0 Z = true) (w4 : (Jvm.Cond.code z bytes mx rt).before a0 Z = true)
    (hsig : parseMethodDescriptor z.desc = some ⟨ps, rr⟩) (hM : OMeets l Z z bytes mx rt rm [] os (RetV q)) (k : ∀ v os', q v os' → WP X Z rc rs Q pc' L (v :: S) os' (ce + rm.cells) (sl + rm.slots)) (hlen : ([] : List Value).length = ps.length := by rfl) (hsz : L.length = maxL := by rfl) (hf : rm.frames + 1 ≤ R.frames := by decide) (hl : (S.map fun v => v.category).sum + (mx + 11) + rm.locals ≤ R.locals := by exact Nat.le_of_ble_eq_true rfl)
    (hc : ce + rm.cells ≤ R.cells := by decide) (hs : sl + rm.slots ≤ R.slots := by decide) (hy : z.cls ≠ "java/lang/invoke/MethodHandle" ∧ z.cls ≠ "java/lang/invoke/VarHandle" := by decide) (hp : pc + 3 = pc' := by rfl) : WP X Z rc rs Q pc L (S) os ce sl :=
  W.callSv (argsL := []) (S := S) K pc' hd w1 w2 w3 w4 hsig hM k rfl hlen hsz hf hl hc hs hy hp
theorem W.callSv1 {idx mx : Nat} {z : MethodName} {bytes : ByteArray} {rt : Option FieldType} {rm : Room} {ps : List FieldType} {rr : Option FieldType} {x1 : Value} {q : Value → OS → Prop} (K : Ctx X l Z R y code maxL ret) (pc' : Nat) (hd : decode code pc = .ok (.invokestatic idx, 3)) (w1 : (Jvm.Cond.methodLink y.cls idx z).before a0 Z = true) (w2 : (Jvm.Cond.static z).before a0 Z = true) (w3 : (Jvm.Cond.initialized z.cls).before a0 Z = true) (w4 : (Jvm.Cond.code z bytes mx rt).before a0 Z = true)
    (hsig : parseMethodDescriptor z.desc = some ⟨ps, rr⟩) (hM : OMeets l Z z bytes mx rt rm [x1] os (RetV q)) (k : ∀ v os', q v os' → WP X Z rc rs Q pc' L (v :: S) os' (ce + rm.cells) (sl + rm.slots)) (hlen : ([x1] : List Value).length = ps.length := by rfl) (hsz : L.length = maxL := by rfl) (hf : rm.frames + 1 ≤ R.frames := by decide) (hl : (S.map fun v => v.category).sum + (mx + 11) + rm.locals ≤ R.locals := by exact Nat.le_of_ble_eq_true rfl)
    (hc : ce + rm.cells ≤ R.cells := by decide) (hs : sl + rm.slots ≤ R.slots := by decide) (hy : z.cls ≠ "java/lang/invoke/MethodHandle" ∧ z.cls ≠ "java/lang/invoke/VarHandle" := by decide) (hp : pc + 3 = pc' := by rfl) : WP X Z rc rs Q pc L (x1 :: S) os ce sl :=
  W.callSv (argsL := [x1]) (S := S) K pc' hd w1 w2 w3 w4 hsig hM k rfl hlen hsz hf hl hc hs hy hp
theorem W.callSv2 {idx mx : Nat} {z : MethodName} {bytes : ByteArray} {rt : Option FieldType} {rm : Room} {ps : List FieldType} {rr : Option FieldType} {x1 x2 : Value} {q : Value → OS → Prop} (K : Ctx X l Z R y code maxL ret) (pc' : Nat) (hd : decode code pc = .ok (.invokestatic idx, 3)) (w1 : (Jvm.Cond.methodLink y.cls idx z).before a0 Z = true) (w2 : (Jvm.Cond.static z).before a0 Z = true) (w3 : (Jvm.Cond.initialized z.cls).before a0 Z = true) (w4 : (Jvm.Cond.code z bytes mx rt).before a0 Z = true)
    (hsig : parseMethodDescriptor z.desc = some ⟨ps, rr⟩) (hM : OMeets l Z z bytes mx rt rm [x1, x2] os (RetV q)) (k : ∀ v os', q v os' → WP X Z rc rs Q pc' L (v :: S) os' (ce + rm.cells) (sl + rm.slots)) (hlen : ([x1, x2] : List Value).length = ps.length := by rfl) (hsz : L.length = maxL := by rfl) (hf : rm.frames + 1 ≤ R.frames := by decide) (hl : (S.map fun v => v.category).sum + (mx + 11) + rm.locals ≤ R.locals := by exact Nat.le_of_ble_eq_true rfl)
    (hc : ce + rm.cells ≤ R.cells := by decide) (hs : sl + rm.slots ≤ R.slots := by decide) (hy : z.cls ≠ "java/lang/invoke/MethodHandle" ∧ z.cls ≠ "java/lang/invoke/VarHandle" := by decide) (hp : pc + 3 = pc' := by rfl) : WP X Z rc rs Q pc L (x2 :: x1 :: S) os ce sl :=
  W.callSv (argsL := [x1, x2]) (S := S) K pc' hd w1 w2 w3 w4 hsig hM k rfl hlen hsz hf hl hc hs hy hp
theorem W.callSv3 {idx mx : Nat} {z : MethodName} {bytes : ByteArray} {rt : Option FieldType} {rm : Room} {ps : List FieldType} {rr : Option FieldType} {x1 x2 x3 : Value} {q : Value → OS → Prop} (K : Ctx X l Z R y code maxL ret) (pc' : Nat) (hd : decode code pc = .ok (.invokestatic idx, 3)) (w1 : (Jvm.Cond.methodLink y.cls idx z).before a0 Z = true) (w2 : (Jvm.Cond.static z).before a0 Z = true) (w3 : (Jvm.Cond.initialized z.cls).before a0 Z = true) (w4 : (Jvm.Cond.code z bytes mx rt).before a0 Z = true)
    (hsig : parseMethodDescriptor z.desc = some ⟨ps, rr⟩) (hM : OMeets l Z z bytes mx rt rm [x1, x2, x3] os (RetV q)) (k : ∀ v os', q v os' → WP X Z rc rs Q pc' L (v :: S) os' (ce + rm.cells) (sl + rm.slots)) (hlen : ([x1, x2, x3] : List Value).length = ps.length := by rfl) (hsz : L.length = maxL := by rfl) (hf : rm.frames + 1 ≤ R.frames := by decide) (hl : (S.map fun v => v.category).sum + (mx + 11) + rm.locals ≤ R.locals := by exact Nat.le_of_ble_eq_true rfl)
    (hc : ce + rm.cells ≤ R.cells := by decide) (hs : sl + rm.slots ≤ R.slots := by decide) (hy : z.cls ≠ "java/lang/invoke/MethodHandle" ∧ z.cls ≠ "java/lang/invoke/VarHandle" := by decide) (hp : pc + 3 = pc' := by rfl) : WP X Z rc rs Q pc L (x3 :: x2 :: x1 :: S) os ce sl :=
  W.callSv (argsL := [x1, x2, x3]) (S := S) K pc' hd w1 w2 w3 w4 hsig hM k rfl hlen hsz hf hl hc hs hy hp
theorem W.callSv4 {idx mx : Nat} {z : MethodName} {bytes : ByteArray} {rt : Option FieldType} {rm : Room} {ps : List FieldType} {rr : Option FieldType} {x1 x2 x3 x4 : Value} {q : Value → OS → Prop} (K : Ctx X l Z R y code maxL ret) (pc' : Nat) (hd : decode code pc = .ok (.invokestatic idx, 3)) (w1 : (Jvm.Cond.methodLink y.cls idx z).before a0 Z = true) (w2 : (Jvm.Cond.static z).before a0 Z = true) (w3 : (Jvm.Cond.initialized z.cls).before a0 Z = true) (w4 : (Jvm.Cond.code z bytes mx rt).before a0 Z = true)
    (hsig : parseMethodDescriptor z.desc = some ⟨ps, rr⟩) (hM : OMeets l Z z bytes mx rt rm [x1, x2, x3, x4] os (RetV q)) (k : ∀ v os', q v os' → WP X Z rc rs Q pc' L (v :: S) os' (ce + rm.cells) (sl + rm.slots)) (hlen : ([x1, x2, x3, x4] : List Value).length = ps.length := by rfl) (hsz : L.length = maxL := by rfl) (hf : rm.frames + 1 ≤ R.frames := by decide) (hl : (S.map fun v => v.category).sum + (mx + 11) + rm.locals ≤ R.locals := by exact Nat.le_of_ble_eq_true rfl)
    (hc : ce + rm.cells ≤ R.cells := by decide) (hs : sl + rm.slots ≤ R.slots := by decide) (hy : z.cls ≠ "java/lang/invoke/MethodHandle" ∧ z.cls ≠ "java/lang/invoke/VarHandle" := by decide) (hp : pc + 3 = pc' := by rfl) : WP X Z rc rs Q pc L (x4 :: x3 :: x2 :: x1 :: S) os ce sl :=
  W.callSv (argsL := [x1, x2, x3, x4]) (S := S) K pc' hd w1 w2 w3 w4 hsig hM k rfl hlen hsz hf hl hc hs hy hp
theorem W.callSv5 {idx mx : Nat} {z : MethodName} {bytes : ByteArray} {rt : Option FieldType} {rm : Room} {ps : List FieldType} {rr : Option FieldType} {x1 x2 x3 x4 x5 : Value} {q : Value → OS → Prop} (K : Ctx X l Z R y code maxL ret) (pc' : Nat) (hd : decode code pc = .ok (.invokestatic idx, 3)) (w1 : (Jvm.Cond.methodLink y.cls idx z).before a0 Z = true) (w2 : (Jvm.Cond.static z).before a0 Z = true) (w3 : (Jvm.Cond.initialized z.cls).before a0 Z = true) (w4 : (Jvm.Cond.code z bytes mx rt).before a0 Z = true)
    (hsig : parseMethodDescriptor z.desc = some ⟨ps, rr⟩) (hM : OMeets l Z z bytes mx rt rm [x1, x2, x3, x4, x5] os (RetV q)) (k : ∀ v os', q v os' → WP X Z rc rs Q pc' L (v :: S) os' (ce + rm.cells) (sl + rm.slots)) (hlen : ([x1, x2, x3, x4, x5] : List Value).length = ps.length := by rfl) (hsz : L.length = maxL := by rfl) (hf : rm.frames + 1 ≤ R.frames := by decide) (hl : (S.map fun v => v.category).sum + (mx + 11) + rm.locals ≤ R.locals := by exact Nat.le_of_ble_eq_true rfl)
    (hc : ce + rm.cells ≤ R.cells := by decide) (hs : sl + rm.slots ≤ R.slots := by decide) (hy : z.cls ≠ "java/lang/invoke/MethodHandle" ∧ z.cls ≠ "java/lang/invoke/VarHandle" := by decide) (hp : pc + 3 = pc' := by rfl) : WP X Z rc rs Q pc L (x5 :: x4 :: x3 :: x2 :: x1 :: S) os ce sl :=
  W.callSv (argsL := [x1, x2, x3, x4, x5]) (S := S) K pc' hd w1 w2 w3 w4 hsig hM k rfl hlen hsz hf hl hc hs hy hp
theorem W.callSv6 {idx mx : Nat} {z : MethodName} {bytes : ByteArray} {rt : Option FieldType} {rm : Room} {ps : List FieldType} {rr : Option FieldType} {x1 x2 x3 x4 x5 x6 : Value} {q : Value → OS → Prop} (K : Ctx X l Z R y code maxL ret) (pc' : Nat) (hd : decode code pc = .ok (.invokestatic idx, 3)) (w1 : (Jvm.Cond.methodLink y.cls idx z).before a0 Z = true) (w2 : (Jvm.Cond.static z).before a0 Z = true) (w3 : (Jvm.Cond.initialized z.cls).before a0 Z = true) (w4 : (Jvm.Cond.code z bytes mx rt).before a0 Z = true)
    (hsig : parseMethodDescriptor z.desc = some ⟨ps, rr⟩) (hM : OMeets l Z z bytes mx rt rm [x1, x2, x3, x4, x5, x6] os (RetV q)) (k : ∀ v os', q v os' → WP X Z rc rs Q pc' L (v :: S) os' (ce + rm.cells) (sl + rm.slots)) (hlen : ([x1, x2, x3, x4, x5, x6] : List Value).length = ps.length := by rfl) (hsz : L.length = maxL := by rfl) (hf : rm.frames + 1 ≤ R.frames := by decide) (hl : (S.map fun v => v.category).sum + (mx + 11) + rm.locals ≤ R.locals := by exact Nat.le_of_ble_eq_true rfl)
    (hc : ce + rm.cells ≤ R.cells := by decide) (hs : sl + rm.slots ≤ R.slots := by decide) (hy : z.cls ≠ "java/lang/invoke/MethodHandle" ∧ z.cls ≠ "java/lang/invoke/VarHandle" := by decide) (hp : pc + 3 = pc' := by rfl) : WP X Z rc rs Q pc L (x6 :: x5 :: x4 :: x3 :: x2 :: x1 :: S) os ce sl :=
  W.callSv (argsL := [x1, x2, x3, x4, x5, x6]) (S := S) K pc' hd w1 w2 w3 w4 hsig hM k rfl hlen hsz hf hl hc hs hy hp
theorem W.callSv7 {idx mx : Nat} {z : MethodName} {bytes : ByteArray} {rt : Option FieldType} {rm : Room} {ps : List FieldType} {rr : Option FieldType} {x1 x2 x3 x4 x5 x6 x7 : Value} {q : Value → OS → Prop} (K : Ctx X l Z R y code maxL ret) (pc' : Nat) (hd : decode code pc = .ok (.invokestatic idx, 3)) (w1 : (Jvm.Cond.methodLink y.cls idx z).before a0 Z = true) (w2 : (Jvm.Cond.static z).before a0 Z = true) (w3 : (Jvm.Cond.initialized z.cls).before a0 Z = true) (w4 : (Jvm.Cond.code z bytes mx rt).before a0 Z = true)
    (hsig : parseMethodDescriptor z.desc = some ⟨ps, rr⟩) (hM : OMeets l Z z bytes mx rt rm [x1, x2, x3, x4, x5, x6, x7] os (RetV q)) (k : ∀ v os', q v os' → WP X Z rc rs Q pc' L (v :: S) os' (ce + rm.cells) (sl + rm.slots)) (hlen : ([x1, x2, x3, x4, x5, x6, x7] : List Value).length = ps.length := by rfl) (hsz : L.length = maxL := by rfl) (hf : rm.frames + 1 ≤ R.frames := by decide) (hl : (S.map fun v => v.category).sum + (mx + 11) + rm.locals ≤ R.locals := by exact Nat.le_of_ble_eq_true rfl)
    (hc : ce + rm.cells ≤ R.cells := by decide) (hs : sl + rm.slots ≤ R.slots := by decide) (hy : z.cls ≠ "java/lang/invoke/MethodHandle" ∧ z.cls ≠ "java/lang/invoke/VarHandle" := by decide) (hp : pc + 3 = pc' := by rfl) : WP X Z rc rs Q pc L (x7 :: x6 :: x5 :: x4 :: x3 :: x2 :: x1 :: S) os ce sl :=
  W.callSv (argsL := [x1, x2, x3, x4, x5, x6, x7]) (S := S) K pc' hd w1 w2 w3 w4 hsig hM k rfl hlen hsz hf hl hc hs hy hp
theorem W.callSn0 {idx mx : Nat} {z : MethodName} {bytes : ByteArray} {rt : Option FieldType} {rm : Room} {ps : List FieldType} {rr : Option FieldType} {q : OS → Prop} (K : Ctx X l Z R y code maxL ret) (pc' : Nat) (hd : decode code pc = .ok (.invokestatic idx, 3)) (w1 : (Jvm.Cond.methodLink y.cls idx z).before a0 Z = true) (w2 : (Jvm.Cond.static z).before a0 Z = true) (w3 : (Jvm.Cond.initialized z.cls).before a0 Z = true) (w4 : (Jvm.Cond.code z bytes mx rt).before a0 Z = true)
    (hsig : parseMethodDescriptor z.desc = some ⟨ps, rr⟩) (hM : OMeets l Z z bytes mx rt rm [] os (RetN q)) (k : ∀ os', q os' → WP X Z rc rs Q pc' L S os' (ce + rm.cells) (sl + rm.slots)) (hlen : ([] : List Value).length = ps.length := by rfl) (hsz : L.length = maxL := by rfl) (hf : rm.frames + 1 ≤ R.frames := by decide) (hl : (S.map fun v => v.category).sum + (mx + 11) + rm.locals ≤ R.locals := by exact Nat.le_of_ble_eq_true rfl)
    (hc : ce + rm.cells ≤ R.cells := by decide) (hs : sl + rm.slots ≤ R.slots := by decide) (hy : z.cls ≠ "java/lang/invoke/MethodHandle" ∧ z.cls ≠ "java/lang/invoke/VarHandle" := by decide) (hp : pc + 3 = pc' := by rfl) : WP X Z rc rs Q pc L (S) os ce sl :=
  W.callSn (argsL := []) (S := S) K pc' hd w1 w2 w3 w4 hsig hM k rfl hlen hsz hf hl hc hs hy hp
theorem W.callSn1 {idx mx : Nat} {z : MethodName} {bytes : ByteArray} {rt : Option FieldType} {rm : Room} {ps : List FieldType} {rr : Option FieldType} {x1 : Value} {q : OS → Prop} (K : Ctx X l Z R y code maxL ret) (pc' : Nat) (hd : decode code pc = .ok (.invokestatic idx, 3)) (w1 : (Jvm.Cond.methodLink y.cls idx z).before a0 Z = true) (w2 : (Jvm.Cond.static z).before a0 Z = true) (w3 : (Jvm.Cond.initialized z.cls).before a0 Z = true) (w4 : (Jvm.Cond.code z bytes mx rt).before a0 Z = true)
    (hsig : parseMethodDescriptor z.desc = some ⟨ps, rr⟩) (hM : OMeets l Z z bytes mx rt rm [x1] os (RetN q)) (k : ∀ os', q os' → WP X Z rc rs Q pc' L S os' (ce + rm.cells) (sl + rm.slots)) (hlen : ([x1] : List Value).length = ps.length := by rfl) (hsz : L.length = maxL := by rfl) (hf : rm.frames + 1 ≤ R.frames := by decide) (hl : (S.map fun v => v.category).sum + (mx + 11) + rm.locals ≤ R.locals := by exact Nat.le_of_ble_eq_true rfl)
    (hc : ce + rm.cells ≤ R.cells := by decide) (hs : sl + rm.slots ≤ R.slots := by decide) (hy : z.cls ≠ "java/lang/invoke/MethodHandle" ∧ z.cls ≠ "java/lang/invoke/VarHandle" := by decide) (hp : pc + 3 = pc' := by rfl) : WP X Z rc rs Q pc L (x1 :: S) os ce sl :=
  W.callSn (argsL := [x1]) (S := S) K pc' hd w1 w2 w3 w4 hsig hM k rfl hlen hsz hf hl hc hs hy hp
theorem W.callSn2 {idx mx : Nat} {z : MethodName} {bytes : ByteArray} {rt : Option FieldType} {rm : Room} {ps : List FieldType} {rr : Option FieldType} {x1 x2 : Value} {q : OS → Prop} (K : Ctx X l Z R y code maxL ret) (pc' : Nat) (hd : decode code pc = .ok (.invokestatic idx, 3)) (w1 : (Jvm.Cond.methodLink y.cls idx z).before a0 Z = true) (w2 : (Jvm.Cond.static z).before a0 Z = true) (w3 : (Jvm.Cond.initialized z.cls).before a0 Z = true) (w4 : (Jvm.Cond.code z bytes mx rt).before a0 Z = true)
    (hsig : parseMethodDescriptor z.desc = some ⟨ps, rr⟩) (hM : OMeets l Z z bytes mx rt rm [x1, x2] os (RetN q)) (k : ∀ os', q os' → WP X Z rc rs Q pc' L S os' (ce + rm.cells) (sl + rm.slots)) (hlen : ([x1, x2] : List Value).length = ps.length := by rfl) (hsz : L.length = maxL := by rfl) (hf : rm.frames + 1 ≤ R.frames := by decide) (hl : (S.map fun v => v.category).sum + (mx + 11) + rm.locals ≤ R.locals := by exact Nat.le_of_ble_eq_true rfl)
    (hc : ce + rm.cells ≤ R.cells := by decide) (hs : sl + rm.slots ≤ R.slots := by decide) (hy : z.cls ≠ "java/lang/invoke/MethodHandle" ∧ z.cls ≠ "java/lang/invoke/VarHandle" := by decide) (hp : pc + 3 = pc' := by rfl) : WP X Z rc rs Q pc L (x2 :: x1 :: S) os ce sl :=
  W.callSn (argsL := [x1, x2]) (S := S) K pc' hd w1 w2 w3 w4 hsig hM k rfl hlen hsz hf hl hc hs hy hp
theorem W.callSn3 {idx mx : Nat} {z : MethodName} {bytes : ByteArray} {rt : Option FieldType} {rm : Room} {ps : List FieldType} {rr : Option FieldType} {x1 x2 x3 : Value} {q : OS → Prop} (K : Ctx X l Z R y code maxL ret) (pc' : Nat) (hd : decode code pc = .ok (.invokestatic idx, 3)) (w1 : (Jvm.Cond.methodLink y.cls idx z).before a0 Z = true) (w2 : (Jvm.Cond.static z).before a0 Z = true) (w3 : (Jvm.Cond.initialized z.cls).before a0 Z = true) (w4 : (Jvm.Cond.code z bytes mx rt).before a0 Z = true)
    (hsig : parseMethodDescriptor z.desc = some ⟨ps, rr⟩) (hM : OMeets l Z z bytes mx rt rm [x1, x2, x3] os (RetN q)) (k : ∀ os', q os' → WP X Z rc rs Q pc' L S os' (ce + rm.cells) (sl + rm.slots)) (hlen : ([x1, x2, x3] : List Value).length = ps.length := by rfl) (hsz : L.length = maxL := by rfl) (hf : rm.frames + 1 ≤ R.frames := by decide) (hl : (S.map fun v => v.category).sum + (mx + 11) + rm.locals ≤ R.locals := by exact Nat.le_of_ble_eq_true rfl)
    (hc : ce + rm.cells ≤ R.cells := by decide) (hs : sl + rm.slots ≤ R.slots := by decide) (hy : z.cls ≠ "java/lang/invoke/MethodHandle" ∧ z.cls ≠ "java/lang/invoke/VarHandle" := by decide) (hp : pc + 3 = pc' := by rfl) : WP X Z rc rs Q pc L (x3 :: x2 :: x1 :: S) os ce sl :=
  W.callSn (argsL := [x1, x2, x3]) (S := S) K pc' hd w1 w2 w3 w4 hsig hM k rfl hlen hsz hf hl hc hs hy hp
theorem W.callSn4 {idx mx : Nat} {z : MethodName} {bytes : ByteArray} {rt : Option FieldType} {rm : Room} {ps : List FieldType} {rr : Option FieldType} {x1 x2 x3 x4 : Value} {q : OS → Prop} (K : Ctx X l Z R y code maxL ret) (pc' : Nat) (hd : decode code pc = .ok (.invokestatic idx, 3)) (w1 : (Jvm.Cond.methodLink y.cls idx z).before a0 Z = true) (w2 : (Jvm.Cond.static z).before a0 Z = true) (w3 : (Jvm.Cond.initialized z.cls).before a0 Z = true) (w4 : (Jvm.Cond.code z bytes mx rt).before a0 Z = true)
    (hsig : parseMethodDescriptor z.desc = some ⟨ps, rr⟩) (hM : OMeets l Z z bytes mx rt rm [x1, x2, x3, x4] os (RetN q)) (k : ∀ os', q os' → WP X Z rc rs Q pc' L S os' (ce + rm.cells) (sl + rm.slots)) (hlen : ([x1, x2, x3, x4] : List Value).length = ps.length := by rfl) (hsz : L.length = maxL := by rfl) (hf : rm.frames + 1 ≤ R.frames := by decide) (hl : (S.map fun v => v.category).sum + (mx + 11) + rm.locals ≤ R.locals := by exact Nat.le_of_ble_eq_true rfl)
    (hc : ce + rm.cells ≤ R.cells := by decide) (hs : sl + rm.slots ≤ R.slots := by decide) (hy : z.cls ≠ "java/lang/invoke/MethodHandle" ∧ z.cls ≠ "java/lang/invoke/VarHandle" := by decide) (hp : pc + 3 = pc' := by rfl) : WP X Z rc rs Q pc L (x4 :: x3 :: x2 :: x1 :: S) os ce sl :=
  W.callSn (argsL := [x1, x2, x3, x4]) (S := S) K pc' hd w1 w2 w3 w4 hsig hM k rfl hlen hsz hf hl hc hs hy hp
theorem W.callSn5 {idx mx : Nat} {z : MethodName} {bytes : ByteArray} {rt : Option FieldType} {rm : Room} {ps : List FieldType} {rr : Option FieldType} {x1 x2 x3 x4 x5 : Value} {q : OS → Prop} (K : Ctx X l Z R y code maxL ret) (pc' : Nat) (hd : decode code pc = .ok (.invokestatic idx, 3)) (w1 : (Jvm.Cond.methodLink y.cls idx z).before a0 Z = true) (w2 : (Jvm.Cond.static z).before a0 Z = true) (w3 : (Jvm.Cond.initialized z.cls).before a0 Z = true) (w4 : (Jvm.Cond.code z bytes mx rt).before a0 Z = true)
    (hsig : parseMethodDescriptor z.desc = some ⟨ps, rr⟩) (hM : OMeets l Z z bytes mx rt rm [x1, x2, x3, x4, x5] os (RetN q)) (k : ∀ os', q os' → WP X Z rc rs Q pc' L S os' (ce + rm.cells) (sl + rm.slots)) (hlen : ([x1, x2, x3, x4, x5] : List Value).length = ps.length := by rfl) (hsz : L.length = maxL := by rfl) (hf : rm.frames + 1 ≤ R.frames := by decide) (hl : (S.map fun v => v.category).sum + (mx + 11) + rm.locals ≤ R.locals := by exact Nat.le_of_ble_eq_true rfl)
    (hc : ce + rm.cells ≤ R.cells := by decide) (hs : sl + rm.slots ≤ R.slots := by decide) (hy : z.cls ≠ "java/lang/invoke/MethodHandle" ∧ z.cls ≠ "java/lang/invoke/VarHandle" := by decide) (hp : pc + 3 = pc' := by rfl) : WP X Z rc rs Q pc L (x5 :: x4 :: x3 :: x2 :: x1 :: S) os ce sl :=
  W.callSn (argsL := [x1, x2, x3, x4, x5]) (S := S) K pc' hd w1 w2 w3 w4 hsig hM k rfl hlen hsz hf hl hc hs hy hp
theorem W.callSn6 {idx mx : Nat} {z : MethodName} {bytes : ByteArray} {rt : Option FieldType} {rm : Room} {ps : List FieldType} {rr : Option FieldType} {x1 x2 x3 x4 x5 x6 : Value} {q : OS → Prop} (K : Ctx X l Z R y code maxL ret) (pc' : Nat) (hd : decode code pc = .ok (.invokestatic idx, 3)) (w1 : (Jvm.Cond.methodLink y.cls idx z).before a0 Z = true) (w2 : (Jvm.Cond.static z).before a0 Z = true) (w3 : (Jvm.Cond.initialized z.cls).before a0 Z = true) (w4 : (Jvm.Cond.code z bytes mx rt).before a0 Z = true)
    (hsig : parseMethodDescriptor z.desc = some ⟨ps, rr⟩) (hM : OMeets l Z z bytes mx rt rm [x1, x2, x3, x4, x5, x6] os (RetN q)) (k : ∀ os', q os' → WP X Z rc rs Q pc' L S os' (ce + rm.cells) (sl + rm.slots)) (hlen : ([x1, x2, x3, x4, x5, x6] : List Value).length = ps.length := by rfl) (hsz : L.length = maxL := by rfl) (hf : rm.frames + 1 ≤ R.frames := by decide) (hl : (S.map fun v => v.category).sum + (mx + 11) + rm.locals ≤ R.locals := by exact Nat.le_of_ble_eq_true rfl)
    (hc : ce + rm.cells ≤ R.cells := by decide) (hs : sl + rm.slots ≤ R.slots := by decide) (hy : z.cls ≠ "java/lang/invoke/MethodHandle" ∧ z.cls ≠ "java/lang/invoke/VarHandle" := by decide) (hp : pc + 3 = pc' := by rfl) : WP X Z rc rs Q pc L (x6 :: x5 :: x4 :: x3 :: x2 :: x1 :: S) os ce sl :=
  W.callSn (argsL := [x1, x2, x3, x4, x5, x6]) (S := S) K pc' hd w1 w2 w3 w4 hsig hM k rfl hlen hsz hf hl hc hs hy hp
theorem W.callSn7 {idx mx : Nat} {z : MethodName} {bytes : ByteArray} {rt : Option FieldType} {rm : Room} {ps : List FieldType} {rr : Option FieldType} {x1 x2 x3 x4 x5 x6 x7 : Value} {q : OS → Prop} (K : Ctx X l Z R y code maxL ret) (pc' : Nat) (hd : decode code pc = .ok (.invokestatic idx, 3)) (w1 : (Jvm.Cond.methodLink y.cls idx z).before a0 Z = true) (w2 : (Jvm.Cond.static z).before a0 Z = true) (w3 : (Jvm.Cond.initialized z.cls).before a0 Z = true) (w4 : (Jvm.Cond.code z bytes mx rt).before a0 Z = true)
    (hsig : parseMethodDescriptor z.desc = some ⟨ps, rr⟩) (hM : OMeets l Z z bytes mx rt rm [x1, x2, x3, x4, x5, x6, x7] os (RetN q)) (k : ∀ os', q os' → WP X Z rc rs Q pc' L S os' (ce + rm.cells) (sl + rm.slots)) (hlen : ([x1, x2, x3, x4, x5, x6, x7] : List Value).length = ps.length := by rfl) (hsz : L.length = maxL := by rfl) (hf : rm.frames + 1 ≤ R.frames := by decide) (hl : (S.map fun v => v.category).sum + (mx + 11) + rm.locals ≤ R.locals := by exact Nat.le_of_ble_eq_true rfl)
    (hc : ce + rm.cells ≤ R.cells := by decide) (hs : sl + rm.slots ≤ R.slots := by decide) (hy : z.cls ≠ "java/lang/invoke/MethodHandle" ∧ z.cls ≠ "java/lang/invoke/VarHandle" := by decide) (hp : pc + 3 = pc' := by rfl) : WP X Z rc rs Q pc L (x7 :: x6 :: x5 :: x4 :: x3 :: x2 :: x1 :: S) os ce sl :=
  W.callSn (argsL := [x1, x2, x3, x4, x5, x6, x7]) (S := S) K pc' hd w1 w2 w3 w4 hsig hM k rfl hlen hsz hf hl hc hs hy hp
theorem W.callIn0 {idx mx : Nat} {z : MethodName} {bytes : ByteArray} {rm : Room} {ps : List FieldType} {rr : Option FieldType} {b : Addr} {q : OS → Prop} (K : Ctx X l Z R y code maxL ret) (pc' : Nat) (hd : decode code pc = .ok (.invokespecial idx, 3)) (w1 : (Jvm.Cond.methodLink y.cls idx z).before a0 Z = true) (w2 : (Jvm.Cond.instanceMethod z).before a0 Z = true) (w3 : (Jvm.Cond.initialized z.cls).before a0 Z = true) (w4 : (Jvm.Cond.code z bytes mx none).before a0 Z = true)
    (hsig : parseMethodDescriptor z.desc = some ⟨ps, rr⟩) (hM : OMeets l Z z bytes mx none rm [.ref b] os (RetN q)) (k : ∀ os', q os' → WP X Z rc rs Q pc' L S os' (ce + rm.cells) (sl + rm.slots)) (hz1 : z.name = "<init>" := by rfl) (hlen : ([] : List Value).length = ps.length := by rfl) (hsz : L.length = maxL := by rfl) (hf : rm.frames + 1 ≤ R.frames := by decide) (hl : (S.map fun v => v.category).sum + (mx + 11) + rm.locals ≤ R.locals := by exact Nat.le_of_ble_eq_true rfl)
    (hc : ce + rm.cells ≤ R.cells := by decide) (hs : sl + rm.slots ≤ R.slots := by decide) (hy : z.cls ≠ "java/lang/invoke/MethodHandle" ∧ z.cls ≠ "java/lang/invoke/VarHandle" := by decide) (hp : pc + 3 = pc' := by rfl) : WP X Z rc rs Q pc L (.ref b :: S) os ce sl :=
  W.callIn (argsL := []) (S := S) K pc' hd w1 w2 w3 w4 hsig hM k hz1 rfl hlen hsz hf hl hc hs hy hp
theorem W.callIn1 {idx mx : Nat} {z : MethodName} {bytes : ByteArray} {rm : Room} {ps : List FieldType} {rr : Option FieldType} {b : Addr} {x1 : Value} {q : OS → Prop} (K : Ctx X l Z R y code maxL ret) (pc' : Nat) (hd : decode code pc = .ok (.invokespecial idx, 3)) (w1 : (Jvm.Cond.methodLink y.cls idx z).before a0 Z = true) (w2 : (Jvm.Cond.instanceMethod z).before a0 Z = true) (w3 : (Jvm.Cond.initialized z.cls).before a0 Z = true) (w4 : (Jvm.Cond.code z bytes mx none).before a0 Z = true)
    (hsig : parseMethodDescriptor z.desc = some ⟨ps, rr⟩) (hM : OMeets l Z z bytes mx none rm [.ref b, x1] os (RetN q)) (k : ∀ os', q os' → WP X Z rc rs Q pc' L S os' (ce + rm.cells) (sl + rm.slots)) (hz1 : z.name = "<init>" := by rfl) (hlen : ([x1] : List Value).length = ps.length := by rfl) (hsz : L.length = maxL := by rfl) (hf : rm.frames + 1 ≤ R.frames := by decide) (hl : (S.map fun v => v.category).sum + (mx + 11) + rm.locals ≤ R.locals := by exact Nat.le_of_ble_eq_true rfl)
    (hc : ce + rm.cells ≤ R.cells := by decide) (hs : sl + rm.slots ≤ R.slots := by decide) (hy : z.cls ≠ "java/lang/invoke/MethodHandle" ∧ z.cls ≠ "java/lang/invoke/VarHandle" := by decide) (hp : pc + 3 = pc' := by rfl) : WP X Z rc rs Q pc L (x1 :: .ref b :: S) os ce sl :=
  W.callIn (argsL := [x1]) (S := S) K pc' hd w1 w2 w3 w4 hsig hM k hz1 rfl hlen hsz hf hl hc hs hy hp
theorem W.callIn2 {idx mx : Nat} {z : MethodName} {bytes : ByteArray} {rm : Room} {ps : List FieldType} {rr : Option FieldType} {b : Addr} {x1 x2 : Value} {q : OS → Prop} (K : Ctx X l Z R y code maxL ret) (pc' : Nat) (hd : decode code pc = .ok (.invokespecial idx, 3)) (w1 : (Jvm.Cond.methodLink y.cls idx z).before a0 Z = true) (w2 : (Jvm.Cond.instanceMethod z).before a0 Z = true) (w3 : (Jvm.Cond.initialized z.cls).before a0 Z = true) (w4 : (Jvm.Cond.code z bytes mx none).before a0 Z = true)
    (hsig : parseMethodDescriptor z.desc = some ⟨ps, rr⟩) (hM : OMeets l Z z bytes mx none rm [.ref b, x1, x2] os (RetN q)) (k : ∀ os', q os' → WP X Z rc rs Q pc' L S os' (ce + rm.cells) (sl + rm.slots)) (hz1 : z.name = "<init>" := by rfl) (hlen : ([x1, x2] : List Value).length = ps.length := by rfl) (hsz : L.length = maxL := by rfl) (hf : rm.frames + 1 ≤ R.frames := by decide) (hl : (S.map fun v => v.category).sum + (mx + 11) + rm.locals ≤ R.locals := by exact Nat.le_of_ble_eq_true rfl)
    (hc : ce + rm.cells ≤ R.cells := by decide) (hs : sl + rm.slots ≤ R.slots := by decide) (hy : z.cls ≠ "java/lang/invoke/MethodHandle" ∧ z.cls ≠ "java/lang/invoke/VarHandle" := by decide) (hp : pc + 3 = pc' := by rfl) : WP X Z rc rs Q pc L (x2 :: x1 :: .ref b :: S) os ce sl :=
  W.callIn (argsL := [x1, x2]) (S := S) K pc' hd w1 w2 w3 w4 hsig hM k hz1 rfl hlen hsz hf hl hc hs hy hp
theorem W.callIn3 {idx mx : Nat} {z : MethodName} {bytes : ByteArray} {rm : Room} {ps : List FieldType} {rr : Option FieldType} {b : Addr} {x1 x2 x3 : Value} {q : OS → Prop} (K : Ctx X l Z R y code maxL ret) (pc' : Nat) (hd : decode code pc = .ok (.invokespecial idx, 3)) (w1 : (Jvm.Cond.methodLink y.cls idx z).before a0 Z = true) (w2 : (Jvm.Cond.instanceMethod z).before a0 Z = true) (w3 : (Jvm.Cond.initialized z.cls).before a0 Z = true) (w4 : (Jvm.Cond.code z bytes mx none).before a0 Z = true)
    (hsig : parseMethodDescriptor z.desc = some ⟨ps, rr⟩) (hM : OMeets l Z z bytes mx none rm [.ref b, x1, x2, x3] os (RetN q)) (k : ∀ os', q os' → WP X Z rc rs Q pc' L S os' (ce + rm.cells) (sl + rm.slots)) (hz1 : z.name = "<init>" := by rfl) (hlen : ([x1, x2, x3] : List Value).length = ps.length := by rfl) (hsz : L.length = maxL := by rfl) (hf : rm.frames + 1 ≤ R.frames := by decide) (hl : (S.map fun v => v.category).sum + (mx + 11) + rm.locals ≤ R.locals := by exact Nat.le_of_ble_eq_true rfl)
    (hc : ce + rm.cells ≤ R.cells := by decide) (hs : sl + rm.slots ≤ R.slots := by decide) (hy : z.cls ≠ "java/lang/invoke/MethodHandle" ∧ z.cls ≠ "java/lang/invoke/VarHandle" := by decide) (hp : pc + 3 = pc' := by rfl) : WP X Z rc rs Q pc L (x3 :: x2 :: x1 :: .ref b :: S) os ce sl :=
  W.callIn (argsL := [x1, x2, x3]) (S := S) K pc' hd w1 w2 w3 w4 hsig hM k hz1 rfl hlen hsz hf hl hc hs hy hp
theorem W.callIn4 {idx mx : Nat} {z : MethodName} {bytes : ByteArray} {rm : Room} {ps : List FieldType} {rr : Option FieldType} {b : Addr} {x1 x2 x3 x4 : Value} {q : OS → Prop} (K : Ctx X l Z R y code maxL ret) (pc' : Nat) (hd : decode code pc = .ok (.invokespecial idx, 3)) (w1 : (Jvm.Cond.methodLink y.cls idx z).before a0 Z = true) (w2 : (Jvm.Cond.instanceMethod z).before a0 Z = true) (w3 : (Jvm.Cond.initialized z.cls).before a0 Z = true) (w4 : (Jvm.Cond.code z bytes mx none).before a0 Z = true)
    (hsig : parseMethodDescriptor z.desc = some ⟨ps, rr⟩) (hM : OMeets l Z z bytes mx none rm [.ref b, x1, x2, x3, x4] os (RetN q)) (k : ∀ os', q os' → WP X Z rc rs Q pc' L S os' (ce + rm.cells) (sl + rm.slots)) (hz1 : z.name = "<init>" := by rfl) (hlen : ([x1, x2, x3, x4] : List Value).length = ps.length := by rfl) (hsz : L.length = maxL := by rfl) (hf : rm.frames + 1 ≤ R.frames := by decide) (hl : (S.map fun v => v.category).sum + (mx + 11) + rm.locals ≤ R.locals := by exact Nat.le_of_ble_eq_true rfl)
    (hc : ce + rm.cells ≤ R.cells := by decide) (hs : sl + rm.slots ≤ R.slots := by decide) (hy : z.cls ≠ "java/lang/invoke/MethodHandle" ∧ z.cls ≠ "java/lang/invoke/VarHandle" := by decide) (hp : pc + 3 = pc' := by rfl) : WP X Z rc rs Q pc L (x4 :: x3 :: x2 :: x1 :: .ref b :: S) os ce sl :=
  W.callIn (argsL := [x1, x2, x3, x4]) (S := S) K pc' hd w1 w2 w3 w4 hsig hM k hz1 rfl hlen hsz hf hl hc hs hy hp
theorem W.callIn5 {idx mx : Nat} {z : MethodName} {bytes : ByteArray} {rm : Room} {ps : List FieldType} {rr : Option FieldType} {b : Addr} {x1 x2 x3 x4 x5 : Value} {q : OS → Prop} (K : Ctx X l Z R y code maxL ret) (pc' : Nat) (hd : decode code pc = .ok (.invokespecial idx, 3)) (w1 : (Jvm.Cond.methodLink y.cls idx z).before a0 Z = true) (w2 : (Jvm.Cond.instanceMethod z).before a0 Z = true) (w3 : (Jvm.Cond.initialized z.cls).before a0 Z = true) (w4 : (Jvm.Cond.code z bytes mx none).before a0 Z = true)
    (hsig : parseMethodDescriptor z.desc = some ⟨ps, rr⟩) (hM : OMeets l Z z bytes mx none rm [.ref b, x1, x2, x3, x4, x5] os (RetN q)) (k : ∀ os', q os' → WP X Z rc rs Q pc' L S os' (ce + rm.cells) (sl + rm.slots)) (hz1 : z.name = "<init>" := by rfl) (hlen : ([x1, x2, x3, x4, x5] : List Value).length = ps.length := by rfl) (hsz : L.length = maxL := by rfl) (hf : rm.frames + 1 ≤ R.frames := by decide) (hl : (S.map fun v => v.category).sum + (mx + 11) + rm.locals ≤ R.locals := by exact Nat.le_of_ble_eq_true rfl)
    (hc : ce + rm.cells ≤ R.cells := by decide) (hs : sl + rm.slots ≤ R.slots := by decide) (hy : z.cls ≠ "java/lang/invoke/MethodHandle" ∧ z.cls ≠ "java/lang/invoke/VarHandle" := by decide) (hp : pc + 3 = pc' := by rfl) : WP X Z rc rs Q pc L (x5 :: x4 :: x3 :: x2 :: x1 :: .ref b :: S) os ce sl :=
  W.callIn (argsL := [x1, x2, x3, x4, x5]) (S := S) K pc' hd w1 w2 w3 w4 hsig hM k hz1 rfl hlen hsz hf hl hc hs hy hp
theorem W.callIn6 {idx mx : Nat} {z : MethodName} {bytes : ByteArray} {rm : Room} {ps : List FieldType} {rr : Option FieldType} {b : Addr} {x1 x2 x3 x4 x5 x6 : Value} {q : OS → Prop} (K : Ctx X l Z R y code maxL ret) (pc' : Nat) (hd : decode code pc = .ok (.invokespecial idx, 3)) (w1 : (Jvm.Cond.methodLink y.cls idx z).before a0 Z = true) (w2 : (Jvm.Cond.instanceMethod z).before a0 Z = true) (w3 : (Jvm.Cond.initialized z.cls).before a0 Z = true) (w4 : (Jvm.Cond.code z bytes mx none).before a0 Z = true)
    (hsig : parseMethodDescriptor z.desc = some ⟨ps, rr⟩) (hM : OMeets l Z z bytes mx none rm [.ref b, x1, x2, x3, x4, x5, x6] os (RetN q)) (k : ∀ os', q os' → WP X Z rc rs Q pc' L S os' (ce + rm.cells) (sl + rm.slots)) (hz1 : z.name = "<init>" := by rfl) (hlen : ([x1, x2, x3, x4, x5, x6] : List Value).length = ps.length := by rfl) (hsz : L.length = maxL := by rfl) (hf : rm.frames + 1 ≤ R.frames := by decide) (hl : (S.map fun v => v.category).sum + (mx + 11) + rm.locals ≤ R.locals := by exact Nat.le_of_ble_eq_true rfl)
    (hc : ce + rm.cells ≤ R.cells := by decide) (hs : sl + rm.slots ≤ R.slots := by decide) (hy : z.cls ≠ "java/lang/invoke/MethodHandle" ∧ z.cls ≠ "java/lang/invoke/VarHandle" := by decide) (hp : pc + 3 = pc' := by rfl) : WP X Z rc rs Q pc L (x6 :: x5 :: x4 :: x3 :: x2 :: x1 :: .ref b :: S) os ce sl :=
  W.callIn (argsL := [x1, x2, x3, x4, x5, x6]) (S := S) K pc' hd w1 w2 w3 w4 hsig hM k hz1 rfl hlen hsz hf hl hc hs hy hp
theorem W.callIn7 {idx mx : Nat} {z : MethodName} {bytes : ByteArray} {rm : Room} {ps : List FieldType} {rr : Option FieldType} {b : Addr} {x1 x2 x3 x4 x5 x6 x7 : Value} {q : OS → Prop} (K : Ctx X l Z R y code maxL ret) (pc' : Nat) (hd : decode code pc = .ok (.invokespecial idx, 3)) (w1 : (Jvm.Cond.methodLink y.cls idx z).before a0 Z = true) (w2 : (Jvm.Cond.instanceMethod z).before a0 Z = true) (w3 : (Jvm.Cond.initialized z.cls).before a0 Z = true) (w4 : (Jvm.Cond.code z bytes mx none).before a0 Z = true)
    (hsig : parseMethodDescriptor z.desc = some ⟨ps, rr⟩) (hM : OMeets l Z z bytes mx none rm [.ref b, x1, x2, x3, x4, x5, x6, x7] os (RetN q)) (k : ∀ os', q os' → WP X Z rc rs Q pc' L S os' (ce + rm.cells) (sl + rm.slots)) (hz1 : z.name = "<init>" := by rfl) (hlen : ([x1, x2, x3, x4, x5, x6, x7] : List Value).length = ps.length := by rfl) (hsz : L.length = maxL := by rfl) (hf : rm.frames + 1 ≤ R.frames := by decide) (hl : (S.map fun v => v.category).sum + (mx + 11) + rm.locals ≤ R.locals := by exact Nat.le_of_ble_eq_true rfl)
    (hc : ce + rm.cells ≤ R.cells := by decide) (hs : sl + rm.slots ≤ R.slots := by decide) (hy : z.cls ≠ "java/lang/invoke/MethodHandle" ∧ z.cls ≠ "java/lang/invoke/VarHandle" := by decide) (hp : pc + 3 = pc' := by rfl) : WP X Z rc rs Q pc L (x7 :: x6 :: x5 :: x4 :: x3 :: x2 :: x1 :: .ref b :: S) os ce sl :=
  W.callIn (argsL := [x1, x2, x3, x4, x5, x6, x7]) (S := S) K pc' hd w1 w2 w3 w4 hsig hM k hz1 rfl hlen hsz hf hl hc hs hy hp
theorem W.callVv0 {idx mx : Nat} {z : MethodName} {bytes : ByteArray} {rt : Option FieldType} {C : String} {rm : Room} {ps : List FieldType} {rr : Option FieldType} {b : Addr} {q : Value → OS → Prop} (K : Ctx X l Z R y code maxL ret) (pc' : Nat) (hd : decode code pc = .ok (.invokevirtual idx, 3)) (w1 : (Jvm.Cond.methodLink y.cls idx z).before a0 Z = true) (w2 : (Jvm.Cond.declares z).before a0 Z = true) (w5 : (Jvm.Cond.selects C z z).before a0 Z = true) (w6 : (Jvm.Cond.instanceMethod z).before a0 Z = true) (w3 : (Jvm.Cond.initialized z.cls).before a0 Z = true) (w4 : (Jvm.Cond.code z bytes mx rt).before a0 Z = true)
    (hsig : parseMethodDescriptor z.desc = some ⟨ps, rr⟩) (hrc : ∀ h, Hp Z h os → Exa Z h b C) (hM : OMeets l Z z bytes mx rt rm [.ref b] os (RetV q)) (k : ∀ v os', q v os' → WP X Z rc rs Q pc' L (v :: S) os' (ce + rm.cells) (sl + rm.slots)) (hlen : ([] : List Value).length = ps.length := by rfl) (hsz : L.length = maxL := by rfl) (hf : rm.frames + 1 ≤ R.frames := by decide) (hl : (S.map fun v => v.category).sum + (mx + 11) + rm.locals ≤ R.locals := by exact Nat.le_of_ble_eq_true rfl)
    (hc : ce + rm.cells ≤ R.cells := by decide) (hs : sl + rm.slots ≤ R.slots := by decide) (hy : z.cls ≠ "java/lang/invoke/MethodHandle" ∧ z.cls ≠ "java/lang/invoke/VarHandle" := by decide) (hp : pc + 3 = pc' := by rfl) : WP X Z rc rs Q pc L (.ref b :: S) os ce sl :=
  W.callVv (argsL := []) (S := S) K pc' hd w1 w2 w5 w6 w3 w4 hsig hrc hM k rfl hlen hsz hf hl hc hs hy hp
theorem W.callVv1 {idx mx : Nat} {z : MethodName} {bytes : ByteArray} {rt : Option FieldType} {C : String} {rm : Room} {ps : List FieldType} {rr : Option FieldType} {b : Addr} {x1 : Value} {q : Value → OS → Prop} (K : Ctx X l Z R y code maxL ret) (pc' : Nat) (hd : decode code pc = .ok (.invokevirtual idx, 3)) (w1 : (Jvm.Cond.methodLink y.cls idx z).before a0 Z = true) (w2 : (Jvm.Cond.declares z).before a0 Z = true) (w5 : (Jvm.Cond.selects C z z).before a0 Z = true) (w6 : (Jvm.Cond.instanceMethod z).before a0 Z = true) (w3 : (Jvm.Cond.initialized z.cls).before a0 Z = true) (w4 : (Jvm.Cond.code z bytes mx rt).before a0 Z = true)
    (hsig : parseMethodDescriptor z.desc = some ⟨ps, rr⟩) (hrc : ∀ h, Hp Z h os → Exa Z h b C) (hM : OMeets l Z z bytes mx rt rm [.ref b, x1] os (RetV q)) (k : ∀ v os', q v os' → WP X Z rc rs Q pc' L (v :: S) os' (ce + rm.cells) (sl + rm.slots)) (hlen : ([x1] : List Value).length = ps.length := by rfl) (hsz : L.length = maxL := by rfl) (hf : rm.frames + 1 ≤ R.frames := by decide) (hl : (S.map fun v => v.category).sum + (mx + 11) + rm.locals ≤ R.locals := by exact Nat.le_of_ble_eq_true rfl)
    (hc : ce + rm.cells ≤ R.cells := by decide) (hs : sl + rm.slots ≤ R.slots := by decide) (hy : z.cls ≠ "java/lang/invoke/MethodHandle" ∧ z.cls ≠ "java/lang/invoke/VarHandle" := by decide) (hp : pc + 3 = pc' := by rfl) : WP X Z rc rs Q pc L (x1 :: .ref b :: S) os ce sl :=
  W.callVv (argsL := [x1]) (S := S) K pc' hd w1 w2 w5 w6 w3 w4 hsig hrc hM k rfl hlen hsz hf hl hc hs hy hp
theorem W.callVv2 {idx mx : Nat} {z : MethodName} {bytes : ByteArray} {rt : Option FieldType} {C : String} {rm : Room} {ps : List FieldType} {rr : Option FieldType} {b : Addr} {x1 x2 : Value} {q : Value → OS → Prop} (K : Ctx X l Z R y code maxL ret) (pc' : Nat) (hd : decode code pc = .ok (.invokevirtual idx, 3)) (w1 : (Jvm.Cond.methodLink y.cls idx z).before a0 Z = true) (w2 : (Jvm.Cond.declares z).before a0 Z = true) (w5 : (Jvm.Cond.selects C z z).before a0 Z = true) (w6 : (Jvm.Cond.instanceMethod z).before a0 Z = true) (w3 : (Jvm.Cond.initialized z.cls).before a0 Z = true) (w4 : (Jvm.Cond.code z bytes mx rt).before a0 Z = true)
    (hsig : parseMethodDescriptor z.desc = some ⟨ps, rr⟩) (hrc : ∀ h, Hp Z h os → Exa Z h b C) (hM : OMeets l Z z bytes mx rt rm [.ref b, x1, x2] os (RetV q)) (k : ∀ v os', q v os' → WP X Z rc rs Q pc' L (v :: S) os' (ce + rm.cells) (sl + rm.slots)) (hlen : ([x1, x2] : List Value).length = ps.length := by rfl) (hsz : L.length = maxL := by rfl) (hf : rm.frames + 1 ≤ R.frames := by decide) (hl : (S.map fun v => v.category).sum + (mx + 11) + rm.locals ≤ R.locals := by exact Nat.le_of_ble_eq_true rfl)
    (hc : ce + rm.cells ≤ R.cells := by decide) (hs : sl + rm.slots ≤ R.slots := by decide) (hy : z.cls ≠ "java/lang/invoke/MethodHandle" ∧ z.cls ≠ "java/lang/invoke/VarHandle" := by decide) (hp : pc + 3 = pc' := by rfl) : WP X Z rc rs Q pc L (x2 :: x1 :: .ref b :: S) os ce sl :=
  W.callVv (argsL := [x1, x2]) (S := S) K pc' hd w1 w2 w5 w6 w3 w4 hsig hrc hM k rfl hlen hsz hf hl hc hs hy hp
theorem W.callVv3 {idx mx : Nat} {z : MethodName} {bytes : ByteArray} {rt : Option FieldType} {C : String} {rm : Room} {ps : List FieldType} {rr : Option FieldType} {b : Addr} {x1 x2 x3 : Value} {q : Value → OS → Prop} (K : Ctx X l Z R y code maxL ret) (pc' : Nat) (hd : decode code pc = .ok (.invokevirtual idx, 3)) (w1 : (Jvm.Cond.methodLink y.cls idx z).before a0 Z = true) (w2 : (Jvm.Cond.declares z).before a0 Z = true) (w5 : (Jvm.Cond.selects C z z).before a0 Z = true) (w6 : (Jvm.Cond.instanceMethod z).before a0 Z = true) (w3 : (Jvm.Cond.initialized z.cls).before a0 Z = true) (w4 : (Jvm.Cond.code z bytes mx rt).before a0 Z = true)
    (hsig : parseMethodDescriptor z.desc = some ⟨ps, rr⟩) (hrc : ∀ h, Hp Z h os → Exa Z h b C) (hM : OMeets l Z z bytes mx rt rm [.ref b, x1, x2, x3] os (RetV q)) (k : ∀ v os', q v os' → WP X Z rc rs Q pc' L (v :: S) os' (ce + rm.cells) (sl + rm.slots)) (hlen : ([x1, x2, x3] : List Value).length = ps.length := by rfl) (hsz : L.length = maxL := by rfl) (hf : rm.frames + 1 ≤ R.frames := by decide) (hl : (S.map fun v => v.category).sum + (mx + 11) + rm.locals ≤ R.locals := by exact Nat.le_of_ble_eq_true rfl)
    (hc : ce + rm.cells ≤ R.cells := by decide) (hs : sl + rm.slots ≤ R.slots := by decide) (hy : z.cls ≠ "java/lang/invoke/MethodHandle" ∧ z.cls ≠ "java/lang/invoke/VarHandle" := by decide) (hp : pc + 3 = pc' := by rfl) : WP X Z rc rs Q pc L (x3 :: x2 :: x1 :: .ref b :: S) os ce sl :=
  W.callVv (argsL := [x1, x2, x3]) (S := S) K pc' hd w1 w2 w5 w6 w3 w4 hsig hrc hM k rfl hlen hsz hf hl hc hs hy hp
theorem W.callVv4 {idx mx : Nat} {z : MethodName} {bytes : ByteArray} {rt : Option FieldType} {C : String} {rm : Room} {ps : List FieldType} {rr : Option FieldType} {b : Addr} {x1 x2 x3 x4 : Value} {q : Value → OS → Prop} (K : Ctx X l Z R y code maxL ret) (pc' : Nat) (hd : decode code pc = .ok (.invokevirtual idx, 3)) (w1 : (Jvm.Cond.methodLink y.cls idx z).before a0 Z = true) (w2 : (Jvm.Cond.declares z).before a0 Z = true) (w5 : (Jvm.Cond.selects C z z).before a0 Z = true) (w6 : (Jvm.Cond.instanceMethod z).before a0 Z = true) (w3 : (Jvm.Cond.initialized z.cls).before a0 Z = true) (w4 : (Jvm.Cond.code z bytes mx rt).before a0 Z = true)
    (hsig : parseMethodDescriptor z.desc = some ⟨ps, rr⟩) (hrc : ∀ h, Hp Z h os → Exa Z h b C) (hM : OMeets l Z z bytes mx rt rm [.ref b, x1, x2, x3, x4] os (RetV q)) (k : ∀ v os', q v os' → WP X Z rc rs Q pc' L (v :: S) os' (ce + rm.cells) (sl + rm.slots)) (hlen : ([x1, x2, x3, x4] : List Value).length = ps.length := by rfl) (hsz : L.length = maxL := by rfl) (hf : rm.frames + 1 ≤ R.frames := by decide) (hl : (S.map fun v => v.category).sum + (mx + 11) + rm.locals ≤ R.locals := by exact Nat.le_of_ble_eq_true rfl)
    (hc : ce + rm.cells ≤ R.cells := by decide) (hs : sl + rm.slots ≤ R.slots := by decide) (hy : z.cls ≠ "java/lang/invoke/MethodHandle" ∧ z.cls ≠ "java/lang/invoke/VarHandle" := by decide) (hp : pc + 3 = pc' := by rfl) : WP X Z rc rs Q pc L (x4 :: x3 :: x2 :: x1 :: .ref b :: S) os ce sl :=
  W.callVv (argsL := [x1, x2, x3, x4]) (S := S) K pc' hd w1 w2 w5 w6 w3 w4 hsig hrc hM k rfl hlen hsz hf hl hc hs hy hp
theorem W.callVv5 {idx mx : Nat} {z : MethodName} {bytes : ByteArray} {rt : Option FieldType} {C : String} {rm : Room} {ps : List FieldType} {rr : Option FieldType} {b : Addr} {x1 x2 x3 x4 x5 : Value} {q : Value → OS → Prop} (K : Ctx X l Z R y code maxL ret) (pc' : Nat) (hd : decode code pc = .ok (.invokevirtual idx, 3)) (w1 : (Jvm.Cond.methodLink y.cls idx z).before a0 Z = true) (w2 : (Jvm.Cond.declares z).before a0 Z = true) (w5 : (Jvm.Cond.selects C z z).before a0 Z = true) (w6 : (Jvm.Cond.instanceMethod z).before a0 Z = true) (w3 : (Jvm.Cond.initialized z.cls).before a0 Z = true) (w4 : (Jvm.Cond.code z bytes mx rt).before a0 Z = true)
    (hsig : parseMethodDescriptor z.desc = some ⟨ps, rr⟩) (hrc : ∀ h, Hp Z h os → Exa Z h b C) (hM : OMeets l Z z bytes mx rt rm [.ref b, x1, x2, x3, x4, x5] os (RetV q)) (k : ∀ v os', q v os' → WP X Z rc rs Q pc' L (v :: S) os' (ce + rm.cells) (sl + rm.slots)) (hlen : ([x1, x2, x3, x4, x5] : List Value).length = ps.length := by rfl) (hsz : L.length = maxL := by rfl) (hf : rm.frames + 1 ≤ R.frames := by decide) (hl : (S.map fun v => v.category).sum + (mx + 11) + rm.locals ≤ R.locals := by exact Nat.le_of_ble_eq_true rfl)
    (hc : ce + rm.cells ≤ R.cells := by decide) (hs : sl + rm.slots ≤ R.slots := by decide) (hy : z.cls ≠ "java/lang/invoke/MethodHandle" ∧ z.cls ≠ "java/lang/invoke/VarHandle" := by decide) (hp : pc + 3 = pc' := by rfl) : WP X Z rc rs Q pc L (x5 :: x4 :: x3 :: x2 :: x1 :: .ref b :: S) os ce sl :=
  W.callVv (argsL := [x1, x2, x3, x4, x5]) (S := S) K pc' hd w1 w2 w5 w6 w3 w4 hsig hrc hM k rfl hlen hsz hf hl hc hs hy hp
theorem W.callVv6 {idx mx : Nat} {z : MethodName} {bytes : ByteArray} {rt : Option FieldType} {C : String} {rm : Room} {ps : List FieldType} {rr : Option FieldType} {b : Addr} {x1 x2 x3 x4 x5 x6 : Value} {q : Value → OS → Prop} (K : Ctx X l Z R y code maxL ret) (pc' : Nat) (hd : decode code pc = .ok (.invokevirtual idx, 3)) (w1 : (Jvm.Cond.methodLink y.cls idx z).before a0 Z = true) (w2 : (Jvm.Cond.declares z).before a0 Z = true) (w5 : (Jvm.Cond.selects C z z).before a0 Z = true) (w6 : (Jvm.Cond.instanceMethod z).before a0 Z = true) (w3 : (Jvm.Cond.initialized z.cls).before a0 Z = true) (w4 : (Jvm.Cond.code z bytes mx rt).before a0 Z = true)
    (hsig : parseMethodDescriptor z.desc = some ⟨ps, rr⟩) (hrc : ∀ h, Hp Z h os → Exa Z h b C) (hM : OMeets l Z z bytes mx rt rm [.ref b, x1, x2, x3, x4, x5, x6] os (RetV q)) (k : ∀ v os', q v os' → WP X Z rc rs Q pc' L (v :: S) os' (ce + rm.cells) (sl + rm.slots)) (hlen : ([x1, x2, x3, x4, x5, x6] : List Value).length = ps.length := by rfl) (hsz : L.length = maxL := by rfl) (hf : rm.frames + 1 ≤ R.frames := by decide) (hl : (S.map fun v => v.category).sum + (mx + 11) + rm.locals ≤ R.locals := by exact Nat.le_of_ble_eq_true rfl)
    (hc : ce + rm.cells ≤ R.cells := by decide) (hs : sl + rm.slots ≤ R.slots := by decide) (hy : z.cls ≠ "java/lang/invoke/MethodHandle" ∧ z.cls ≠ "java/lang/invoke/VarHandle" := by decide) (hp : pc + 3 = pc' := by rfl) : WP X Z rc rs Q pc L (x6 :: x5 :: x4 :: x3 :: x2 :: x1 :: .ref b :: S) os ce sl :=
  W.callVv (argsL := [x1, x2, x3, x4, x5, x6]) (S := S) K pc' hd w1 w2 w5 w6 w3 w4 hsig hrc hM k rfl hlen hsz hf hl hc hs hy hp
theorem W.callVv7 {idx mx : Nat} {z : MethodName} {bytes : ByteArray} {rt : Option FieldType} {C : String} {rm : Room} {ps : List FieldType} {rr : Option FieldType} {b : Addr} {x1 x2 x3 x4 x5 x6 x7 : Value} {q : Value → OS → Prop} (K : Ctx X l Z R y code maxL ret) (pc' : Nat) (hd : decode code pc = .ok (.invokevirtual idx, 3)) (w1 : (Jvm.Cond.methodLink y.cls idx z).before a0 Z = true) (w2 : (Jvm.Cond.declares z).before a0 Z = true) (w5 : (Jvm.Cond.selects C z z).before a0 Z = true) (w6 : (Jvm.Cond.instanceMethod z).before a0 Z = true) (w3 : (Jvm.Cond.initialized z.cls).before a0 Z = true) (w4 : (Jvm.Cond.code z bytes mx rt).before a0 Z = true)
    (hsig : parseMethodDescriptor z.desc = some ⟨ps, rr⟩) (hrc : ∀ h, Hp Z h os → Exa Z h b C) (hM : OMeets l Z z bytes mx rt rm [.ref b, x1, x2, x3, x4, x5, x6, x7] os (RetV q)) (k : ∀ v os', q v os' → WP X Z rc rs Q pc' L (v :: S) os' (ce + rm.cells) (sl + rm.slots)) (hlen : ([x1, x2, x3, x4, x5, x6, x7] : List Value).length = ps.length := by rfl) (hsz : L.length = maxL := by rfl) (hf : rm.frames + 1 ≤ R.frames := by decide) (hl : (S.map fun v => v.category).sum + (mx + 11) + rm.locals ≤ R.locals := by exact Nat.le_of_ble_eq_true rfl)
    (hc : ce + rm.cells ≤ R.cells := by decide) (hs : sl + rm.slots ≤ R.slots := by decide) (hy : z.cls ≠ "java/lang/invoke/MethodHandle" ∧ z.cls ≠ "java/lang/invoke/VarHandle" := by decide) (hp : pc + 3 = pc' := by rfl) : WP X Z rc rs Q pc L (x7 :: x6 :: x5 :: x4 :: x3 :: x2 :: x1 :: .ref b :: S) os ce sl :=
  W.callVv (argsL := [x1, x2, x3, x4, x5, x6, x7]) (S := S) K pc' hd w1 w2 w5 w6 w3 w4 hsig hrc hM k rfl hlen hsz hf hl hc hs hy hp
theorem W.callVn0 {idx mx : Nat} {z : MethodName} {bytes : ByteArray} {rt : Option FieldType} {C : String} {rm : Room} {ps : List FieldType} {rr : Option FieldType} {b : Addr} {q : OS → Prop} (K : Ctx X l Z R y code maxL ret) (pc' : Nat) (hd : decode code pc = .ok (.invokevirtual idx, 3)) (w1 : (Jvm.Cond.methodLink y.cls idx z).before a0 Z = true) (w2 : (Jvm.Cond.declares z).before a0 Z = true) (w5 : (Jvm.Cond.selects C z z).before a0 Z = true) (w6 : (Jvm.Cond.instanceMethod z).before a0 Z = true) (w3 : (Jvm.Cond.initialized z.cls).before a0 Z = true) (w4 : (Jvm.Cond.code z bytes mx rt).before a0 Z = true)
    (hsig : parseMethodDescriptor z.desc = some ⟨ps, rr⟩) (hrc : ∀ h, Hp Z h os → Exa Z h b C) (hM : OMeets l Z z bytes mx rt rm [.ref b] os (RetN q)) (k : ∀ os', q os' → WP X Z rc rs Q pc' L S os' (ce + rm.cells) (sl + rm.slots)) (hlen : ([] : List Value).length = ps.length := by rfl) (hsz : L.length = maxL := by rfl) (hf : rm.frames + 1 ≤ R.frames := by decide) (hl : (S.map fun v => v.category).sum + (mx + 11) + rm.locals ≤ R.locals := by exact Nat.le_of_ble_eq_true rfl)
    (hc : ce + rm.cells ≤ R.cells := by decide) (hs : sl + rm.slots ≤ R.slots := by decide) (hy : z.cls ≠ "java/lang/invoke/MethodHandle" ∧ z.cls ≠ "java/lang/invoke/VarHandle" := by decide) (hp : pc + 3 = pc' := by rfl) : WP X Z rc rs Q pc L (.ref b :: S) os ce sl :=
  W.callVn (argsL := []) (S := S) K pc' hd w1 w2 w5 w6 w3 w4 hsig hrc hM k rfl hlen hsz hf hl hc hs hy hp
theorem W.callVn1 {idx mx : Nat} {z : MethodName} {bytes : ByteArray} {rt : Option FieldType} {C : String} {rm : Room} {ps : List FieldType} {rr : Option FieldType} {b : Addr} {x1 : Value} {q : OS → Prop} (K : Ctx X l Z R y code maxL ret) (pc' : Nat) (hd : decode code pc = .ok (.invokevirtual idx, 3)) (w1 : (Jvm.Cond.methodLink y.cls idx z).before a0 Z = true) (w2 : (Jvm.Cond.declares z).before a0 Z = true) (w5 : (Jvm.Cond.selects C z z).before a0 Z = true) (w6 : (Jvm.Cond.instanceMethod z).before a0 Z = true) (w3 : (Jvm.Cond.initialized z.cls).before a0 Z = true) (w4 : (Jvm.Cond.code z bytes mx rt).before a0 Z = true)
    (hsig : parseMethodDescriptor z.desc = some ⟨ps, rr⟩) (hrc : ∀ h, Hp Z h os → Exa Z h b C) (hM : OMeets l Z z bytes mx rt rm [.ref b, x1] os (RetN q)) (k : ∀ os', q os' → WP X Z rc rs Q pc' L S os' (ce + rm.cells) (sl + rm.slots)) (hlen : ([x1] : List Value).length = ps.length := by rfl) (hsz : L.length = maxL := by rfl) (hf : rm.frames + 1 ≤ R.frames := by decide) (hl : (S.map fun v => v.category).sum + (mx + 11) + rm.locals ≤ R.locals := by exact Nat.le_of_ble_eq_true rfl)
    (hc : ce + rm.cells ≤ R.cells := by decide) (hs : sl + rm.slots ≤ R.slots := by decide) (hy : z.cls ≠ "java/lang/invoke/MethodHandle" ∧ z.cls ≠ "java/lang/invoke/VarHandle" := by decide) (hp : pc + 3 = pc' := by rfl) : WP X Z rc rs Q pc L (x1 :: .ref b :: S) os ce sl :=
  W.callVn (argsL := [x1]) (S := S) K pc' hd w1 w2 w5 w6 w3 w4 hsig hrc hM k rfl hlen hsz hf hl hc hs hy hp
theorem W.callVn2 {idx mx : Nat} {z : MethodName} {bytes : ByteArray} {rt : Option FieldType} {C : String} {rm : Room} {ps : List FieldType} {rr : Option FieldType} {b : Addr} {x1 x2 : Value} {q : OS → Prop} (K : Ctx X l Z R y code maxL ret) (pc' : Nat) (hd : decode code pc = .ok (.invokevirtual idx, 3)) (w1 : (Jvm.Cond.methodLink y.cls idx z).before a0 Z = true) (w2 : (Jvm.Cond.declares z).before a0 Z = true) (w5 : (Jvm.Cond.selects C z z).before a0 Z = true) (w6 : (Jvm.Cond.instanceMethod z).before a0 Z = true) (w3 : (Jvm.Cond.initialized z.cls).before a0 Z = true) (w4 : (Jvm.Cond.code z bytes mx rt).before a0 Z = true)
    (hsig : parseMethodDescriptor z.desc = some ⟨ps, rr⟩) (hrc : ∀ h, Hp Z h os → Exa Z h b C) (hM : OMeets l Z z bytes mx rt rm [.ref b, x1, x2] os (RetN q)) (k : ∀ os', q os' → WP X Z rc rs Q pc' L S os' (ce + rm.cells) (sl + rm.slots)) (hlen : ([x1, x2] : List Value).length = ps.length := by rfl) (hsz : L.length = maxL := by rfl) (hf : rm.frames + 1 ≤ R.frames := by decide) (hl : (S.map fun v => v.category).sum + (mx + 11) + rm.locals ≤ R.locals := by exact Nat.le_of_ble_eq_true rfl)
    (hc : ce + rm.cells ≤ R.cells := by decide) (hs : sl + rm.slots ≤ R.slots := by decide) (hy : z.cls ≠ "java/lang/invoke/MethodHandle" ∧ z.cls ≠ "java/lang/invoke/VarHandle" := by decide) (hp : pc + 3 = pc' := by rfl) : WP X Z rc rs Q pc L (x2 :: x1 :: .ref b :: S) os ce sl :=
  W.callVn (argsL := [x1, x2]) (S := S) K pc' hd w1 w2 w5 w6 w3 w4 hsig hrc hM k rfl hlen hsz hf hl hc hs hy hp
theorem W.callVn3 {idx mx : Nat} {z : MethodName} {bytes : ByteArray} {rt : Option FieldType} {C : String} {rm : Room} {ps : List FieldType} {rr : Option FieldType} {b : Addr} {x1 x2 x3 : Value} {q : OS → Prop} (K : Ctx X l Z R y code maxL ret) (pc' : Nat) (hd : decode code pc = .ok (.invokevirtual idx, 3)) (w1 : (Jvm.Cond.methodLink y.cls idx z).before a0 Z = true) (w2 : (Jvm.Cond.declares z).before a0 Z = true) (w5 : (Jvm.Cond.selects C z z).before a0 Z = true) (w6 : (Jvm.Cond.instanceMethod z).before a0 Z = true) (w3 : (Jvm.Cond.initialized z.cls).before a0 Z = true) (w4 : (Jvm.Cond.code z bytes mx rt).before a0 Z = true)
    (hsig : parseMethodDescriptor z.desc = some ⟨ps, rr⟩) (hrc : ∀ h, Hp Z h os → Exa Z h b C) (hM : OMeets l Z z bytes mx rt rm [.ref b, x1, x2, x3] os (RetN q)) (k : ∀ os', q os' → WP X Z rc rs Q pc' L S os' (ce + rm.cells) (sl + rm.slots)) (hlen : ([x1, x2, x3] : List Value).length = ps.length := by rfl) (hsz : L.length = maxL := by rfl) (hf : rm.frames + 1 ≤ R.frames := by decide) (hl : (S.map fun v => v.category).sum + (mx + 11) + rm.locals ≤ R.locals := by exact Nat.le_of_ble_eq_true rfl)
    (hc : ce + rm.cells ≤ R.cells := by decide) (hs : sl + rm.slots ≤ R.slots := by decide) (hy : z.cls ≠ "java/lang/invoke/MethodHandle" ∧ z.cls ≠ "java/lang/invoke/VarHandle" := by decide) (hp : pc + 3 = pc' := by rfl) : WP X Z rc rs Q pc L (x3 :: x2 :: x1 :: .ref b :: S) os ce sl :=
  W.callVn (argsL := [x1, x2, x3]) (S := S) K pc' hd w1 w2 w5 w6 w3 w4 hsig hrc hM k rfl hlen hsz hf hl hc hs hy hp
theorem W.callVn4 {idx mx : Nat} {z : MethodName} {bytes : ByteArray} {rt : Option FieldType} {C : String} {rm : Room} {ps : List FieldType} {rr : Option FieldType} {b : Addr} {x1 x2 x3 x4 : Value} {q : OS → Prop} (K : Ctx X l Z R y code maxL ret) (pc' : Nat) (hd : decode code pc = .ok (.invokevirtual idx, 3)) (w1 : (Jvm.Cond.methodLink y.cls idx z).before a0 Z = true) (w2 : (Jvm.Cond.declares z).before a0 Z = true) (w5 : (Jvm.Cond.selects C z z).before a0 Z = true) (w6 : (Jvm.Cond.instanceMethod z).before a0 Z = true) (w3 : (Jvm.Cond.initialized z.cls).before a0 Z = true) (w4 : (Jvm.Cond.code z bytes mx rt).before a0 Z = true)
    (hsig : parseMethodDescriptor z.desc = some ⟨ps, rr⟩) (hrc : ∀ h, Hp Z h os → Exa Z h b C) (hM : OMeets l Z z bytes mx rt rm [.ref b, x1, x2, x3, x4] os (RetN q)) (k : ∀ os', q os' → WP X Z rc rs Q pc' L S os' (ce + rm.cells) (sl + rm.slots)) (hlen : ([x1, x2, x3, x4] : List Value).length = ps.length := by rfl) (hsz : L.length = maxL := by rfl) (hf : rm.frames + 1 ≤ R.frames := by decide) (hl : (S.map fun v => v.category).sum + (mx + 11) + rm.locals ≤ R.locals := by exact Nat.le_of_ble_eq_true rfl)
    (hc : ce + rm.cells ≤ R.cells := by decide) (hs : sl + rm.slots ≤ R.slots := by decide) (hy : z.cls ≠ "java/lang/invoke/MethodHandle" ∧ z.cls ≠ "java/lang/invoke/VarHandle" := by decide) (hp : pc + 3 = pc' := by rfl) : WP X Z rc rs Q pc L (x4 :: x3 :: x2 :: x1 :: .ref b :: S) os ce sl :=
  W.callVn (argsL := [x1, x2, x3, x4]) (S := S) K pc' hd w1 w2 w5 w6 w3 w4 hsig hrc hM k rfl hlen hsz hf hl hc hs hy hp
theorem W.callVn5 {idx mx : Nat} {z : MethodName} {bytes : ByteArray} {rt : Option FieldType} {C : String} {rm : Room} {ps : List FieldType} {rr : Option FieldType} {b : Addr} {x1 x2 x3 x4 x5 : Value} {q : OS → Prop} (K : Ctx X l Z R y code maxL ret) (pc' : Nat) (hd : decode code pc = .ok (.invokevirtual idx, 3)) (w1 : (Jvm.Cond.methodLink y.cls idx z).before a0 Z = true) (w2 : (Jvm.Cond.declares z).before a0 Z = true) (w5 : (Jvm.Cond.selects C z z).before a0 Z = true) (w6 : (Jvm.Cond.instanceMethod z).before a0 Z = true) (w3 : (Jvm.Cond.initialized z.cls).before a0 Z = true) (w4 : (Jvm.Cond.code z bytes mx rt).before a0 Z = true)
    (hsig : parseMethodDescriptor z.desc = some ⟨ps, rr⟩) (hrc : ∀ h, Hp Z h os → Exa Z h b C) (hM : OMeets l Z z bytes mx rt rm [.ref b, x1, x2, x3, x4, x5] os (RetN q)) (k : ∀ os', q os' → WP X Z rc rs Q pc' L S os' (ce + rm.cells) (sl + rm.slots)) (hlen : ([x1, x2, x3, x4, x5] : List Value).length = ps.length := by rfl) (hsz : L.length = maxL := by rfl) (hf : rm.frames + 1 ≤ R.frames := by decide) (hl : (S.map fun v => v.category).sum + (mx + 11) + rm.locals ≤ R.locals := by exact Nat.le_of_ble_eq_true rfl)
    (hc : ce + rm.cells ≤ R.cells := by decide) (hs : sl + rm.slots ≤ R.slots := by decide) (hy : z.cls ≠ "java/lang/invoke/MethodHandle" ∧ z.cls ≠ "java/lang/invoke/VarHandle" := by decide) (hp : pc + 3 = pc' := by rfl) : WP X Z rc rs Q pc L (x5 :: x4 :: x3 :: x2 :: x1 :: .ref b :: S) os ce sl :=
  W.callVn (argsL := [x1, x2, x3, x4, x5]) (S := S) K pc' hd w1 w2 w5 w6 w3 w4 hsig hrc hM k rfl hlen hsz hf hl hc hs hy hp
theorem W.callVn6 {idx mx : Nat} {z : MethodName} {bytes : ByteArray} {rt : Option FieldType} {C : String} {rm : Room} {ps : List FieldType} {rr : Option FieldType} {b : Addr} {x1 x2 x3 x4 x5 x6 : Value} {q : OS → Prop} (K : Ctx X l Z R y code maxL ret) (pc' : Nat) (hd : decode code pc = .ok (.invokevirtual idx, 3)) (w1 : (Jvm.Cond.methodLink y.cls idx z).before a0 Z = true) (w2 : (Jvm.Cond.declares z).before a0 Z = true) (w5 : (Jvm.Cond.selects C z z).before a0 Z = true) (w6 : (Jvm.Cond.instanceMethod z).before a0 Z = true) (w3 : (Jvm.Cond.initialized z.cls).before a0 Z = true) (w4 : (Jvm.Cond.code z bytes mx rt).before a0 Z = true)
    (hsig : parseMethodDescriptor z.desc = some ⟨ps, rr⟩) (hrc : ∀ h, Hp Z h os → Exa Z h b C) (hM : OMeets l Z z bytes mx rt rm [.ref b, x1, x2, x3, x4, x5, x6] os (RetN q)) (k : ∀ os', q os' → WP X Z rc rs Q pc' L S os' (ce + rm.cells) (sl + rm.slots)) (hlen : ([x1, x2, x3, x4, x5, x6] : List Value).length = ps.length := by rfl) (hsz : L.length = maxL := by rfl) (hf : rm.frames + 1 ≤ R.frames := by decide) (hl : (S.map fun v => v.category).sum + (mx + 11) + rm.locals ≤ R.locals := by exact Nat.le_of_ble_eq_true rfl)
    (hc : ce + rm.cells ≤ R.cells := by decide) (hs : sl + rm.slots ≤ R.slots := by decide) (hy : z.cls ≠ "java/lang/invoke/MethodHandle" ∧ z.cls ≠ "java/lang/invoke/VarHandle" := by decide) (hp : pc + 3 = pc' := by rfl) : WP X Z rc rs Q pc L (x6 :: x5 :: x4 :: x3 :: x2 :: x1 :: .ref b :: S) os ce sl :=
  W.callVn (argsL := [x1, x2, x3, x4, x5, x6]) (S := S) K pc' hd w1 w2 w5 w6 w3 w4 hsig hrc hM k rfl hlen hsz hf hl hc hs hy hp
theorem W.callVn7 {idx mx : Nat} {z : MethodName} {bytes : ByteArray} {rt : Option FieldType} {C : String} {rm : Room} {ps : List FieldType} {rr : Option FieldType} {b : Addr} {x1 x2 x3 x4 x5 x6 x7 : Value} {q : OS → Prop} (K : Ctx X l Z R y code maxL ret) (pc' : Nat) (hd : decode code pc = .ok (.invokevirtual idx, 3)) (w1 : (Jvm.Cond.methodLink y.cls idx z).before a0 Z = true) (w2 : (Jvm.Cond.declares z).before a0 Z = true) (w5 : (Jvm.Cond.selects C z z).before a0 Z = true) (w6 : (Jvm.Cond.instanceMethod z).before a0 Z = true) (w3 : (Jvm.Cond.initialized z.cls).before a0 Z = true) (w4 : (Jvm.Cond.code z bytes mx rt).before a0 Z = true)
    (hsig : parseMethodDescriptor z.desc = some ⟨ps, rr⟩) (hrc : ∀ h, Hp Z h os → Exa Z h b C) (hM : OMeets l Z z bytes mx rt rm [.ref b, x1, x2, x3, x4, x5, x6, x7] os (RetN q)) (k : ∀ os', q os' → WP X Z rc rs Q pc' L S os' (ce + rm.cells) (sl + rm.slots)) (hlen : ([x1, x2, x3, x4, x5, x6, x7] : List Value).length = ps.length := by rfl) (hsz : L.length = maxL := by rfl) (hf : rm.frames + 1 ≤ R.frames := by decide) (hl : (S.map fun v => v.category).sum + (mx + 11) + rm.locals ≤ R.locals := by exact Nat.le_of_ble_eq_true rfl)
    (hc : ce + rm.cells ≤ R.cells := by decide) (hs : sl + rm.slots ≤ R.slots := by decide) (hy : z.cls ≠ "java/lang/invoke/MethodHandle" ∧ z.cls ≠ "java/lang/invoke/VarHandle" := by decide) (hp : pc + 3 = pc' := by rfl) : WP X Z rc rs Q pc L (x7 :: x6 :: x5 :: x4 :: x3 :: x2 :: x1 :: .ref b :: S) os ce sl :=
  W.callVn (argsL := [x1, x2, x3, x4, x5, x6, x7]) (S := S) K pc' hd w1 w2 w5 w6 w3 w4 hsig hrc hM k rfl hlen hsz hf hl hc hs hy hp
theorem Rc.new {b : Addr} {C : String} {fs : List FV} (hm : (b, OBJ Z C fs) ∈ os) : ∀ h, Hp Z h os → Exa Z h b C := fun h H => by
  obtain ⟨-, c, hc, hO⟩ := H.get hm; exact hO.exa hc
theorem Rc.old {b : Addr} {C : String} (E : Exa Z Z.heap b C) : ∀ h, Hp Z h os → Exa Z h b C := fun h H => E.ext H.1
end Ops
end Jvm.OwnW
namespace Jvm.OwnW
open Sem ClassFile Op Lib Jvm.Stand Jvm.Free Jvm.LawKit Jvm.RoadKit
/-! arrays as functions -/
def AF {α : Type} (c : α → Value) (n : Nat) (F : Nat → α) : List Value := (List.range n).map fun i => c (F i)
def updA {α : Type} (F : Nat → α) (k : Nat) (v : α) : Nat → α := fun i => if i = k then v else F i
theorem updA_same {α : Type} (F : Nat → α) (k : Nat) (v : α) : updA F k v k = v := by simp [updA]
theorem updA_ne {α : Type} (F : Nat → α) {k i : Nat} (v : α) (h : i ≠ k) : updA F k v i = F i := by simp [updA, h]
theorem AF_len {α : Type} {c : α → Value} {n : Nat} {F : Nat → α} : (AF c n F).length = n := by simp [AF]
theorem AF_at {α : Type} {c : α → Value} {n : Nat} {F : Nat → α} {i : Nat} (h : i < n) : (AF c n F)[i]? = some (c (F i)) := by simp [AF, h]
theorem AF_out {α : Type} {c : α → Value} {n : Nat} {F : Nat → α} {i : Nat} (h : ¬ i < n) : (AF c n F)[i]? = none := by simp [AF]; omega
theorem AF_ext {α : Type} {c : α → Value} {n : Nat} {F G : Nat → α} (h : ∀ i, i < n → F i = G i) : AF c n F = AF c n G := by
  apply List.ext_getElem?
  intro i
  by_cases hi : i < n
  · rw [AF_at hi, AF_at hi, h i hi]
  · rw [AF_out hi, AF_out hi]
theorem AF_set {α : Type} {c : α → Value} {n : Nat} {F : Nat → α} {k : Nat} {v : α} : (AF c n F).set k (c v) = AF c n (updA F k v) := by
  apply List.ext_getElem?
  intro i
  rw [List.getElem?_set]
  by_cases hi : i < n
  · rw [AF_at hi, AF_at hi]
    by_cases e : k = i
    · subst e
      rw [if_pos rfl, if_pos (by rw [AF_len]; exact hi), updA_same]
    · rw [if_neg e, updA_ne _ _ (fun h => e h.symm)]
  · rw [AF_out hi, AF_out hi]
    split
    · rename_i e; subst e
      rw [if_neg (by rw [AF_len]; exact hi)]
    · rfl
theorem AF_rep {α : Type} {c : α → Value} {n : Nat} {v : α} : List.replicate n (c v) = AF c n (fun _ => v) := by
  apply List.ext_getElem?
  intro i
  by_cases hi : i < n
  · rw [AF_at hi]; simp [List.getElem?_replicate, hi]
  · rw [AF_out hi]; simp [List.getElem?_replicate, hi]
theorem AF_repI {n : Nat} : List.replicate n (defaultValue .int) = AF Value.int n (fun _ => 0) := AF_rep
theorem AF_repB {n : Nat} : List.replicate n (defaultValue .byte) = AF Value.int n (fun _ => 0) := AF_rep
theorem AF_repC {n : Nat} : List.replicate n (defaultValue .char) = AF Value.int n (fun _ => 0) := AF_rep
theorem AF_repJ {n : Nat} : List.replicate n (defaultValue .long) = AF Value.long n (fun _ => 0) := AF_rep
theorem AF_size {α : Type} {c : α → Value} {n : Nat} {F : Nat → α} {z : Int32} (h : z.toInt = (n : Int)) : (AF c n F).length.toInt32 = z := by
  rw [AF_len]
  apply Int32.toInt_inj.mp
  have h1 := rng32 z
  rw [len_toInt (by omega), h]
theorem toInt_add32 {x z : Int32} {a b : Int} (hx : x.toInt = a) (hz : z.toInt = b) (h1 : -2147483648 ≤ a + b) (h2 : a + b < 2147483648) : (x + z).toInt = a + b := by
  have q := c_iadd x z; have r := rng32 (x + z); omega
theorem toInt_sub32 {x z : Int32} {a b : Int} (hx : x.toInt = a) (hz : z.toInt = b) (h1 : -2147483648 ≤ a - b) (h2 : a - b < 2147483648) : (x - z).toInt = a - b := by
  have q := c_isub x z; have r := rng32 (x - z); omega
theorem toInt_add64 {x z : Int64} {a b : Int} (hx : x.toInt = a) (hz : z.toInt = b) (h1 : -9223372036854775808 ≤ a + b) (h2 : a + b < 9223372036854775808) : (x + z).toInt = a + b := by
  have q := c_ladd x z; have r := rng64 (x + z); omega
theorem toInt_sub64 {x z : Int64} {a b : Int} (hx : x.toInt = a) (hz : z.toInt = b) (h1 : -9223372036854775808 ≤ a - b) (h2 : a - b < 9223372036854775808) : (x - z).toInt = a - b := by
  have q := c_lsub x z; have r := rng64 (x - z); omega
section Old
variable {X : Cx} {l : Launch} {Z : State} {R : Room} {y : MethodName} {code : ByteArray} {maxL : Nat} {ret : Option FieldType} {rc rs : Nat} {Q : Option Value → OS → Prop} {pc : Nat} {L : List Slot} {S : List Value} {os os' : OS} {ce sl : Nat} {a0 : Array Value}
/-- an array that stood at the start -/
theorem W.baloadO {a : Addr} {cl : Cell} {j : Int32} {v : Value} (i : Nat) (K : Ctx X l Z R y code maxL ret) (pc' : Nat) (hd : decode code pc = .ok (.baload, 1)) (A : Arr Z Z.heap a cl .byte) (hj : j.toInt = (i : Int)) (hv : cl.slots[i]? = some v) (k : WP X Z rc rs Q pc' L (v :: S) os ce sl) (hp : pc + 1 = pc' := by rfl) : WP X Z rc rs Q pc L (.int j :: .ref a :: S) os ce sl := by
  obtain ⟨p, l', e, R', s, m, args, below, meth, c⟩ := X
  obtain ⟨h1, h2, hx, hZ, hby, hml, hown, hnm, hret, hlk⟩ := K
  subst hp
  intro T locs hT0 hH hF
  have hT : Stand p l' e R' s m args below meth c T locs ce sl := hT0
  obtain ⟨s2, o, st, r⟩ := k T locs hT hH hF
  have A' := A.ext hH.1
  have e2 : j.toNatClampNeg = i := by show j.toInt.toNat = i; rw [hj]; rfl
  have hlt := (Array.getElem?_eq_some_iff.mp hv).1
  have e1 : ¬ (j < 0 ∨ cl.slots.size ≤ j.toNatClampNeg) := by
    rw [Int32.lt_iff_toInt_lt, e2, hj]
    intro q
    rcases q with q | q
    · exact absurd q (Int.not_lt.mpr (Int.natCast_nonneg i))
    · omega
  exact ⟨s2, o, Stand.baloadBytes hT hx A'.1 (State.isArrayOf_alike hZ.alike A'.2.1) A'.2.2 e1 (by rw [e2]; exact hv) (g := mkF m pc L.toArray (.int j :: .ref a :: S)) rfl rfl (hb hby hd) _ st, r⟩
end Old
end Jvm.OwnW
namespace Jvm.OwnW
open Sem ClassFile Op Lib Jvm.Stand Jvm.Free Jvm.LawKit Jvm.RoadKit
section Copy
variable {X : Cx} {l : Launch} {Z : State} {R : Room} {y : MethodName} {code : ByteArray} {maxL : Nat} {ret : Option FieldType} {rc rs : Nat} {Q : Option Value → OS → Prop} {pc : Nat} {L : List Slot} {S : List Value} {os os' : OS} {ce sl : Nat} {a0 : Array Value}
theorem W.dupX2 {x u v : Value} (K : Ctx X l Z R y code maxL ret) (pc' : Nat) (hd : decode code pc = .ok (.dup_x2, 1)) (k : WP X Z rc rs Q pc' L (x :: u :: v :: x :: S) os ce sl) (hc : x.category = 1 := by rfl) (hc2 : u.category = 1 := by rfl) (hc3 : v.category = 1 := by rfl) (hp : pc + 1 = pc' := by rfl) : WP X Z rc rs Q pc L (x :: u :: v :: S) os ce sl := by
  obtain ⟨p, l', e, R', s, m, args, below, meth, c⟩ := X
  obtain ⟨h1, h2, hx, hZ, hby, hml, hown, hnm, hret, hlk⟩ := K
  subst hp
  intro T locs hT0 hH hF
  have hT : Stand p l' e R' s m args below meth c T locs ce sl := hT0
  obtain ⟨s2, o, st, r⟩ := k T locs hT hH hF
  refine ⟨s2, o, ?_, r⟩
  have hX := Stand.here hT
  have hdg := hb hby hd
  jvm_step hX [hX.top, hx, hdg, hc, hc2, hc3]
  exact st
theorem Hp.keepAt {h h' : Heap} {b : Addr} {P P' : Cell → Prop} {i : Nat} {c' : Cell} (H : Hp Z h os) (hi : os[i]? = some (b, P)) (Kp : Keep h h' [b]) (hc : h'[b]? = some c') (hP : P' c') : Hp Z h' (os.set i (b, P')) := by
  obtain ⟨hb, cb, hcb, -⟩ := H.2.2 i _ hi
  refine ⟨⟨Nat.le_trans H.1.1 Kp.1, fun x cx hx => ?_⟩, ?_, fun k x hx => ?_⟩
  · refine Kp.2.1 x cx (H.1.2 x cx hx) (fun q => ?_)
    have e := List.mem_singleton.mp q
    rw [e] at hx
    exact absurd (Array.getElem?_eq_some_iff.mp hx).1 (Nat.not_lt.mpr hb)
  · have e : (os.set i (b, P')).map Prod.fst = os.map Prod.fst := by
      apply List.ext_getElem?
      intro k
      simp only [List.getElem?_map, List.getElem?_set]
      split
      · rename_i e; subst e
        rw [if_pos (List.getElem?_eq_some_iff.mp hi).1, hi]; rfl
      · rfl
    rw [e]; exact H.2.1
  · rw [List.getElem?_set] at hx
    split at hx
    · rename_i e; subst e
      split at hx
      · cases hx; exact ⟨hb, c', hc, hP⟩
      · cases hx
    · rename_i hne
      obtain ⟨g1, cx, g2, g3⟩ := H.2.2 k x hx
      have ne : x.1 ≠ b := H.ne (i := k) (j := i) (P := x.2) hx hi (fun e => hne e.symm)
      exact ⟨g1, cx, Kp.2.1 _ _ g2 (fun q => ne (List.mem_singleton.mp q)), g3⟩
theorem ARR.arv {h : Heap} {a : Addr} {c : Cell} {ty : FieldType} {vs : List Value} (hc : h[a]? = some c) (q : ARR Z ty vs c) : Arv Z h a c.cls ty vs.length.toInt32 vs .null := by
  obtain ⟨q1, q2, q3, q4, q5⟩ := q
  have e : vs.length.toInt32.toInt = (vs.length : Int) := len_toInt q5
  have e2 : vs.length.toInt32.toNatClampNeg = vs.length := by show (vs.length.toInt32.toInt).toNat = _; rw [e]; rfl
  have hs : c.slots.size = vs.length := by rw [q3]; simp
  refine ⟨c, ⟨hc, q1, q2⟩, rfl, by rw [e2, hs], by rw [Int32.lt_iff_toInt_lt, e]; exact Int.not_lt.mpr (Int.natCast_nonneg _), fun k hk => ?_, fun i hi => ?_⟩
  · rw [hs] at hk
    rw [q3]; simp [List.getElem?_eq_getElem hk]
  · rw [hs] at hi
    refine q4 _ ?_
    rw [List.getD_eq_getElem?_getD, List.getElem?_eq_getElem hi]
    exact List.getElem_mem hi
theorem W.arraycopy {a b : Addr} {vs vd : List Value} {ty : FieldType} {sp dp nn : Int32} {idx : Nat} (i j n : Nat) (K : Ctx X l Z R y code maxL ret) (pc' : Nat) (hd : decode code pc = .ok (.invokestatic idx, 3)) (w1 : (Jvm.Cond.methodLink y.cls idx Jvm.Stand.acN).before a0 Z = true) (w2 : (Jvm.Cond.native Jvm.Stand.acN).before a0 Z = true) (w3 : (Jvm.Cond.static Jvm.Stand.acN).before a0 Z = true) (w4 : (Jvm.Cond.initialized "java/lang/System").before a0 Z = true)
    (hm : (a, ARR Z ty vs) ∈ os) (hu : Upd os b (ARR Z ty vd) (ARR Z ty (vd.take j ++ (vs.drop i).take n ++ vd.drop (j + n))) os') (hsp : sp.toInt = (i : Int)) (hdp : dp.toInt = (j : Int)) (hnn : nn.toInt = (n : Int)) (h4 : i + n ≤ vs.length) (h5 : j + n ≤ vd.length) (hty : refKind ty = false)
    (k : WP X Z rc rs Q pc' L S os' ce sl) (hsz : L.length = maxL := by rfl) (hf : 1 ≤ R.frames := by decide) (hlo : (S.map fun v => v.category).sum + (nativeFrameWords "java/lang/System" "arraycopy" 5 + 11) ≤ R.locals := by exact Nat.le_of_ble_eq_true rfl) (hp : pc + 3 = pc' := by rfl) : WP X Z rc rs Q pc L (.int nn :: .int dp :: .ref b :: .int sp :: .ref a :: S) os ce sl := by
  obtain ⟨p, l', e, R', s, m, args, below, meth, c⟩ := X
  obtain ⟨h1, h2, hx, hZ, hby, hml, hown, hnm, hret, hlk⟩ := K
  have h2' : R' = R := h2
  subst h2'
  subst hp
  intro T locs hT0 hH hF
  have hT : Stand p l' e R' s m args below meth c T locs ce sl := hT0
  obtain ⟨ii, hi, rfl⟩ := hu
  obtain ⟨hbn, cd, hcd, qd⟩ := hH.2.2 ii _ hi
  obtain ⟨-, cs, hcs, qs⟩ := hH.get hm
  have nat : ∀ {x : Int32} {z : Nat}, x.toInt = (z : Int) → x.toNatClampNeg = z := fun {x z} h => by show x.toInt.toNat = z; rw [h]; rfl
  have neg : ∀ {x : Int32} {z : Nat}, x.toInt = (z : Int) → ¬ x < 0 := fun {x z} h => by rw [Int32.lt_iff_toInt_lt, h]; exact Int.not_lt.mpr (Int.natCast_nonneg z)
  have n1 := nat hsp; have n2 := nat hdp; have n3 := nat hnn
  have v1 : vs.length.toInt32.toNatClampNeg = vs.length := nat (len_toInt qs.2.2.2.2)
  have v2 : vd.length.toInt32.toNatClampNeg = vd.length := nat (len_toInt qd.2.2.2.2)
  have hus : (vs.drop i).take n = (List.range nn.toNatClampNeg).map fun q => vs.getD (sp.toNatClampNeg + q) .null := by
    rw [n1, n3]
    apply List.ext_getElem?
    intro q
    by_cases hq : q < n
    · rw [List.getElem?_take, if_pos hq, List.getElem?_drop]
      have hlt : i + q < vs.length := by omega
      simp [hq, List.getElem?_eq_getElem hlt]
    · rw [List.getElem?_take, if_neg hq]
      simp [hq]
  obtain ⟨T', h', L', X', e', N', K', A', st'⟩ := cpA hT hx hZ hown w1 w2 w3 w4 rfl (ARR.arv hcs qs) (ARR.arv hcd qd) (us := (vs.drop i).take n) (Or.inl ⟨rfl, hty⟩) (neg hsp) (neg hdp) (neg hnn) (by rw [n1, n3, v1]; exact h4) (by rw [n2, n3, v2]; exact h5) hus (by rw [n2, n3]; exact h5) hF hbn
    (g := mkF m pc L.toArray (.int nn :: .int dp :: .ref b :: .int sp :: .ref a :: S)) rfl (by rw [hml]; simpa using hsz) rfl (hb hby hd) hf (W := (S.map fun v => v.category).sum) (by show 2 * 0 + _ ≤ _; omega) hlo
  rw [n2, n3] at A'
  obtain ⟨c', B1, -, B3, -, B5, B6⟩ := A'
  have hlen : (vd.take j ++ (vs.drop i).take n ++ vd.drop (j + n)).length = vd.length := by simp; omega
  rw [v2] at B3
  have hA : ARR Z ty (vd.take j ++ (vs.drop i).take n ++ vd.drop (j + n)) c' := by
    generalize vd.take j ++ (vs.drop i).take n ++ vd.drop (j + n) = nv at *
    refine ⟨B1.2.1, B1.2.2, ?_, fun v hv => ?_, by rw [hlen]; exact qd.2.2.2.2⟩
    · apply Array.ext_getElem?
      intro q
      by_cases hq : q < c'.slots.size
      · rw [B5 q hq]
        have hq2 : q < nv.length := by omega
        simp [List.getElem?_eq_getElem hq2]
      · have hq2 : ¬ q < nv.length := by omega
        rw [Array.getElem?_eq_none (by omega)]
        simp; omega
    · obtain ⟨q, hq⟩ := List.getElem?_of_mem hv
      have hlt := (List.getElem?_eq_some_iff.mp hq).1
      have g := B6 q (by omega)
      rw [List.getD_eq_getElem?_getD, hq] at g
      exact g
  obtain ⟨s2, o, st, r⟩ := k T' L' X' (by rw [e']; exact hH.keepAt hi K' B1.1 hA) N'
  exact ⟨s2, o, st' _ st, r⟩
theorem AF_copy {α : Type} {cc : α → Value} {n k : Nat} {F G : Nat → α} (h : k ≤ n) : (AF cc k G).take 0 ++ ((AF cc n F).drop 0).take k ++ (AF cc k G).drop (0 + k) = AF cc k F := by
  have e1 : (AF cc k G).drop (0 + k) = [] := by rw [Nat.zero_add]; exact List.drop_eq_nil_of_le (by rw [AF_len]; exact Nat.le_refl _)
  rw [e1, List.append_nil, List.take_zero, List.nil_append, List.drop_zero]
  apply List.ext_getElem?
  intro i
  rw [List.getElem?_take]
  by_cases hi : i < k
  · rw [if_pos hi, AF_at (by omega), AF_at hi]
  · rw [if_neg hi, AF_out hi]
end Copy
end Jvm.OwnW
namespace Jvm.OwnW
open Sem ClassFile Op Lib Jvm.Stand Jvm.Free Jvm.LawKit Jvm.RoadKit
section Inst
variable {X : Cx} {l : Launch} {Z : State} {R : Room} {y : MethodName} {code : ByteArray} {maxL : Nat} {ret : Option FieldType} {rc rs : Nat} {Q : Option Value → OS → Prop} {pc : Nat} {L : List Slot} {S : List Value} {os os' : OS} {ce sl : Nat} {a0 : Array Value}
theorem W.instY {a : Addr} {C : String} {idx : Nat} (K : Ctx X l Z R y code maxL ret) (pc' : Nat) (hd : decode code pc = .ok (.instanceof idx, 3)) (w : (Jvm.Cond.classLink y.cls idx C).before a0 Z = true) (hE : ∀ h, Hp Z h os → Exa Z h a C) (k : WP X Z rc rs Q pc' L (.int 1 :: S) os ce sl) (hp : pc + 3 = pc' := by rfl) : WP X Z rc rs Q pc L (.ref a :: S) os ce sl := by
  obtain ⟨p, l', e, R', s, m, args, below, meth, c⟩ := X
  obtain ⟨h1, h2, hx, hZ, hby, hml, hown, hnm, hret, hlk⟩ := K
  subst hp
  intro T locs hT0 hH hF
  have hT : Stand p l' e R' s m args below meth c T locs ce sl := hT0
  obtain ⟨T', X', e', st'⟩ := RoadKit.instY hT hx hZ hown w rfl (Ins.self (hE _ hH)) (g := mkF m pc L.toArray (.ref a :: S)) rfl rfl (hb hby hd)
  obtain ⟨s2, o, st, r⟩ := k T' locs X' (by rw [e']; exact hH) hF
  exact ⟨s2, o, st' _ st, r⟩
theorem W.castY {a : Addr} {C : String} {idx : Nat} (K : Ctx X l Z R y code maxL ret) (pc' : Nat) (hd : decode code pc = .ok (.checkcast idx, 3)) (w : (Jvm.Cond.classLink y.cls idx C).before a0 Z = true) (hE : ∀ h, Hp Z h os → Exa Z h a C) (k : WP X Z rc rs Q pc' L (.ref a :: S) os ce sl) (hp : pc + 3 = pc' := by rfl) : WP X Z rc rs Q pc L (.ref a :: S) os ce sl := by
  obtain ⟨p, l', e, R', s, m, args, below, meth, c⟩ := X
  obtain ⟨h1, h2, hx, hZ, hby, hml, hown, hnm, hret, hlk⟩ := K
  subst hp
  intro T locs hT0 hH hF
  have hT : Stand p l' e R' s m args below meth c T locs ce sl := hT0
  obtain ⟨T', X', e', st'⟩ := RoadKit.castY hT hx hZ hown w rfl (Ins.self (hE _ hH)) (g := mkF m pc L.toArray (.ref a :: S)) rfl rfl (hb hby hd)
  obtain ⟨s2, o, st, r⟩ := k T' locs X' (by rw [e']; exact hH) hF
  exact ⟨s2, o, st' _ st, r⟩
theorem W.instNo {a : Addr} {C C' : String} {idx : Nat} (K : Ctx X l Z R y code maxL ret) (pc' : Nat) (hd : decode code pc = .ok (.instanceof idx, 3)) (w : (Jvm.Cond.classLink y.cls idx C').before a0 Z = true) (hE : ∀ h, Hp Z h os → Exa Z h a C) (hN : ∃ c t, Z.vm.findClass C = some c ∧ Z.vm.findClass C' = some t ∧ Z.vm.assignable c t = false) (k : WP X Z rc rs Q pc' L (.int 0 :: S) os ce sl) (hp : pc + 3 = pc' := by rfl) : WP X Z rc rs Q pc L (.ref a :: S) os ce sl := by
  obtain ⟨p, l', e, R', s, m, args, below, meth, c⟩ := X
  obtain ⟨h1, h2, hx, hZ, hby, hml, hown, hnm, hret, hlk⟩ := K
  subst hp
  intro T locs hT0 hH hF
  have hT : Stand p l' e R' s m args below meth c T locs ce sl := hT0
  obtain ⟨T', X', e', st'⟩ := RoadKit.instNo hT hx hZ hown w rfl (hE _ hH) hN (g := mkF m pc L.toArray (.ref a :: S)) rfl rfl (hb hby hd)
  obtain ⟨s2, o, st, r⟩ := k T' locs X' (by rw [e']; exact hH) hF
  exact ⟨s2, o, st' _ st, r⟩
theorem W.instNull {idx : Nat} (K : Ctx X l Z R y code maxL ret) (pc' : Nat) (hd : decode code pc = .ok (.instanceof idx, 3)) (k : WP X Z rc rs Q pc' L (.int 0 :: S) os ce sl) (hp : pc + 3 = pc' := by rfl) : WP X Z rc rs Q pc L (.null :: S) os ce sl := by
  obtain ⟨p, l', e, R', s, m, args, below, meth, c⟩ := X
  obtain ⟨h1, h2, hx, hZ, hby, hml, hown, hnm, hret, hlk⟩ := K
  subst hp
  intro T locs hT0 hH hF
  have hT : Stand p l' e R' s m args below meth c T locs ce sl := hT0
  obtain ⟨s2, o, st, r⟩ := k T locs hT hH hF
  exact ⟨s2, o, Jvm.Stand.instanceofNull hT hx (g := mkF m pc L.toArray (.null :: S)) rfl rfl (hb hby hd) _ st, r⟩
theorem W.aaloadO {a : Addr} {cl : Cell} {ty : FieldType} {j : Int32} {v : Value} (i : Nat) (K : Ctx X l Z R y code maxL ret) (pc' : Nat) (hd : decode code pc = .ok (.aaload, 1)) (A : Arr Z Z.heap a cl ty) (hty : ty.isReference = true) (hj : j.toInt = (i : Int)) (hv : cl.slots[i]? = some v) (k : WP X Z rc rs Q pc' L (v :: S) os ce sl) (hp : pc + 1 = pc' := by rfl) : WP X Z rc rs Q pc L (.int j :: .ref a :: S) os ce sl := by
  obtain ⟨p, l', e, R', s, m, args, below, meth, c⟩ := X
  obtain ⟨h1, h2, hx, hZ, hby, hml, hown, hnm, hret, hlk⟩ := K
  subst hp
  intro T locs hT0 hH hF
  have hT : Stand p l' e R' s m args below meth c T locs ce sl := hT0
  obtain ⟨s2, o, st, r⟩ := k T locs hT hH hF
  have A' := A.ext hH.1
  have e2 : j.toNatClampNeg = i := by show j.toInt.toNat = i; rw [hj]; rfl
  have hlt := (Array.getElem?_eq_some_iff.mp hv).1
  have e1 : ¬ (j < 0 ∨ cl.slots.size ≤ j.toNatClampNeg) := by
    rw [Int32.lt_iff_toInt_lt, e2, hj]
    intro q
    rcases q with q | q
    · exact absurd q (Int.not_lt.mpr (Int.natCast_nonneg i))
    · omega
  exact ⟨s2, o, Stand.aaload hT hx A'.1 (State.isArrayOf_alike hZ.alike A'.2.1) hty A'.2.2 e1 (by rw [e2]; exact hv) (g := mkF m pc L.toArray (.int j :: .ref a :: S)) rfl rfl (hb hby hd) _ st, r⟩
end Inst
end Jvm.OwnW
namespace Jvm.Pilot.@@N@@
open Jvm Jvm.ClassFile Sem Op Lib Jvm.Free Jvm.Stand Jvm.LawKit Jvm.RoadKit Bundle Jvm.OwnW Jvm.Pilot.@@N@@.Jvm.D
theorem pn_0 : plainFor x = true := plainFor_of_name (show plainName "com/example/usage_to_ledger/usagetoledger/verify/Scalar25519NonAdjacentFormPinLaw" = true by first | (simp [plainName, overriddenIn]; done) | decide +kernel)
theorem pd_0 : parseMethodDescriptor "(JJJJI)Z" = some ⟨[.long, .long, .long, .long, .int], some .boolean⟩ := by decide +kernel
theorem d1_0 : decode method_3_code 0 = .ok (.aload_n 0, 1) := by decide +kernel
theorem d1_1 : decode method_3_code 1 = .ok (.iload_n 1, 1) := by decide +kernel
theorem d1_2 : decode method_3_code 2 = .ok (.lload_n 2, 1) := by decide +kernel
theorem d1_3 : decode method_3_code 3 = .ok (.l2i, 1) := by decide +kernel
theorem d1_4 : decode method_3_code 4 = .ok (.i2b, 1) := by decide +kernel
theorem d1_5 : decode method_3_code 5 = .ok (.bastore, 1) := by decide +kernel
theorem d1_6 : decode method_3_code 6 = .ok (.aload_n 0, 1) := by decide +kernel
theorem d1_7 : decode method_3_code 7 = .ok (.iload_n 1, 1) := by decide +kernel
theorem d1_8 : decode method_3_code 8 = .ok (.iconst 1, 1) := by decide +kernel
theorem d1_9 : decode method_3_code 9 = .ok (.iadd, 1) := by decide +kernel
theorem d1_10 : decode method_3_code 10 = .ok (.lload_n 2, 1) := by decide +kernel
theorem d1_11 : decode method_3_code 11 = .ok (.bipush 8, 2) := by decide +kernel
theorem d1_13 : decode method_3_code 13 = .ok (.lushr, 1) := by decide +kernel
theorem d1_14 : decode method_3_code 14 = .ok (.l2i, 1) := by decide +kernel
theorem d1_15 : decode method_3_code 15 = .ok (.i2b, 1) := by decide +kernel
theorem d1_16 : decode method_3_code 16 = .ok (.bastore, 1) := by decide +kernel
theorem d1_17 : decode method_3_code 17 = .ok (.aload_n 0, 1) := by decide +kernel
theorem d1_18 : decode method_3_code 18 = .ok (.iload_n 1, 1) := by decide +kernel
theorem d1_19 : decode method_3_code 19 = .ok (.iconst 2, 1) := by decide +kernel
theorem d1_20 : decode method_3_code 20 = .ok (.iadd, 1) := by decide +kernel
theorem d1_21 : decode method_3_code 21 = .ok (.lload_n 2, 1) := by decide +kernel
theorem d1_22 : decode method_3_code 22 = .ok (.bipush 16, 2) := by decide +kernel
theorem d1_24 : decode method_3_code 24 = .ok (.lushr, 1) := by decide +kernel
theorem d1_25 : decode method_3_code 25 = .ok (.l2i, 1) := by decide +kernel
theorem d1_26 : decode method_3_code 26 = .ok (.i2b, 1) := by decide +kernel
theorem d1_27 : decode method_3_code 27 = .ok (.bastore, 1) := by decide +kernel
theorem d1_28 : decode method_3_code 28 = .ok (.aload_n 0, 1) := by decide +kernel
theorem d1_29 : decode method_3_code 29 = .ok (.iload_n 1, 1) := by decide +kernel
theorem d1_30 : decode method_3_code 30 = .ok (.iconst 3, 1) := by decide +kernel
theorem d1_31 : decode method_3_code 31 = .ok (.iadd, 1) := by decide +kernel
theorem d1_32 : decode method_3_code 32 = .ok (.lload_n 2, 1) := by decide +kernel
theorem d1_33 : decode method_3_code 33 = .ok (.bipush 24, 2) := by decide +kernel
theorem d1_35 : decode method_3_code 35 = .ok (.lushr, 1) := by decide +kernel
theorem d1_36 : decode method_3_code 36 = .ok (.l2i, 1) := by decide +kernel
theorem d1_37 : decode method_3_code 37 = .ok (.i2b, 1) := by decide +kernel
theorem d1_38 : decode method_3_code 38 = .ok (.bastore, 1) := by decide +kernel
theorem d1_39 : decode method_3_code 39 = .ok (.aload_n 0, 1) := by decide +kernel
theorem d1_40 : decode method_3_code 40 = .ok (.iload_n 1, 1) := by decide +kernel
theorem d1_41 : decode method_3_code 41 = .ok (.iconst 4, 1) := by decide +kernel
theorem d1_42 : decode method_3_code 42 = .ok (.iadd, 1) := by decide +kernel
theorem d1_43 : decode method_3_code 43 = .ok (.lload_n 2, 1) := by decide +kernel
theorem d1_44 : decode method_3_code 44 = .ok (.bipush 32, 2) := by decide +kernel
theorem d1_46 : decode method_3_code 46 = .ok (.lushr, 1) := by decide +kernel
theorem d1_47 : decode method_3_code 47 = .ok (.l2i, 1) := by decide +kernel
theorem d1_48 : decode method_3_code 48 = .ok (.i2b, 1) := by decide +kernel
theorem d1_49 : decode method_3_code 49 = .ok (.bastore, 1) := by decide +kernel
theorem d1_50 : decode method_3_code 50 = .ok (.aload_n 0, 1) := by decide +kernel
theorem d1_51 : decode method_3_code 51 = .ok (.iload_n 1, 1) := by decide +kernel
theorem d1_52 : decode method_3_code 52 = .ok (.iconst 5, 1) := by decide +kernel
theorem d1_53 : decode method_3_code 53 = .ok (.iadd, 1) := by decide +kernel
theorem d1_54 : decode method_3_code 54 = .ok (.lload_n 2, 1) := by decide +kernel
theorem d1_55 : decode method_3_code 55 = .ok (.bipush 40, 2) := by decide +kernel
theorem d1_57 : decode method_3_code 57 = .ok (.lushr, 1) := by decide +kernel
theorem d1_58 : decode method_3_code 58 = .ok (.l2i, 1) := by decide +kernel
theorem d1_59 : decode method_3_code 59 = .ok (.i2b, 1) := by decide +kernel
theorem d1_60 : decode method_3_code 60 = .ok (.bastore, 1) := by decide +kernel
theorem d1_61 : decode method_3_code 61 = .ok (.aload_n 0, 1) := by decide +kernel
theorem d1_62 : decode method_3_code 62 = .ok (.iload_n 1, 1) := by decide +kernel
theorem d1_63 : decode method_3_code 63 = .ok (.bipush 6, 2) := by decide +kernel
theorem d1_65 : decode method_3_code 65 = .ok (.iadd, 1) := by decide +kernel
theorem d1_66 : decode method_3_code 66 = .ok (.lload_n 2, 1) := by decide +kernel
theorem d1_67 : decode method_3_code 67 = .ok (.bipush 48, 2) := by decide +kernel
theorem d1_69 : decode method_3_code 69 = .ok (.lushr, 1) := by decide +kernel
theorem d1_70 : decode method_3_code 70 = .ok (.l2i, 1) := by decide +kernel
theorem d1_71 : decode method_3_code 71 = .ok (.i2b, 1) := by decide +kernel
theorem d1_72 : decode method_3_code 72 = .ok (.bastore, 1) := by decide +kernel
theorem d1_73 : decode method_3_code 73 = .ok (.aload_n 0, 1) := by decide +kernel
theorem d1_74 : decode method_3_code 74 = .ok (.iload_n 1, 1) := by decide +kernel
theorem d1_75 : decode method_3_code 75 = .ok (.bipush 7, 2) := by decide +kernel
theorem d1_77 : decode method_3_code 77 = .ok (.iadd, 1) := by decide +kernel
theorem d1_78 : decode method_3_code 78 = .ok (.lload_n 2, 1) := by decide +kernel
theorem d1_79 : decode method_3_code 79 = .ok (.bipush 56, 2) := by decide +kernel
theorem d1_81 : decode method_3_code 81 = .ok (.lushr, 1) := by decide +kernel
theorem d1_82 : decode method_3_code 82 = .ok (.l2i, 1) := by decide +kernel
theorem d1_83 : decode method_3_code 83 = .ok (.i2b, 1) := by decide +kernel
theorem d1_84 : decode method_3_code 84 = .ok (.bastore, 1) := by decide +kernel
theorem d1_85 : decode method_3_code 85 = .ok (.return_, 1) := by decide +kernel
theorem pn_1 : plainFor (⟨"com/example/usage_to_ledger/usagetoledger/verify/Scalar25519NonAdjacentFormPinLaw", "put", "([BIJ)V"⟩ : MethodName) = true := plainFor_of_name (show plainName "com/example/usage_to_ledger/usagetoledger/verify/Scalar25519NonAdjacentFormPinLaw" = true by first | (simp [plainName, overriddenIn]; done) | decide +kernel)
theorem pd_1 : parseMethodDescriptor "([BIJ)V" = some ⟨[(.array .byte), .int, .long], none⟩ := by decide +kernel
theorem d2_0 : decode prog_71_method_6_code 0 = .ok (.sipush 257, 3) := by decide +kernel
theorem d2_3 : decode prog_71_method_6_code 3 = .ok (.iload_n 1, 1) := by decide +kernel
theorem d2_4 : decode prog_71_method_6_code 4 = .ok (.iadd, 1) := by decide +kernel
theorem d2_5 : decode prog_71_method_6_code 5 = .ok (.newarray .int, 2) := by decide +kernel
theorem d2_7 : decode prog_71_method_6_code 7 = .ok (.astore_n 2, 1) := by decide +kernel
theorem d2_8 : decode prog_71_method_6_code 8 = .ok (.iconst 0, 1) := by decide +kernel
theorem d2_9 : decode prog_71_method_6_code 9 = .ok (.istore_n 3, 1) := by decide +kernel
theorem d2_10 : decode prog_71_method_6_code 10 = .ok (.iload_n 3, 1) := by decide +kernel
theorem d2_11 : decode prog_71_method_6_code 11 = .ok (.sipush 256, 3) := by decide +kernel
theorem d2_14 : decode prog_71_method_6_code 14 = .ok (.if_icmp .ge 24, 3) := by decide +kernel
theorem d2_17 : decode prog_71_method_6_code 17 = .ok (.aload_n 2, 1) := by decide +kernel
theorem d2_18 : decode prog_71_method_6_code 18 = .ok (.iload_n 3, 1) := by decide +kernel
theorem d2_19 : decode prog_71_method_6_code 19 = .ok (.aload_n 0, 1) := by decide +kernel
theorem d2_20 : decode prog_71_method_6_code 20 = .ok (.iload_n 3, 1) := by decide +kernel
theorem d2_21 : decode prog_71_method_6_code 21 = .ok (.iconst 3, 1) := by decide +kernel
theorem d2_22 : decode prog_71_method_6_code 22 = .ok (.ishr, 1) := by decide +kernel
theorem d2_23 : decode prog_71_method_6_code 23 = .ok (.baload, 1) := by decide +kernel
theorem d2_24 : decode prog_71_method_6_code 24 = .ok (.iload_n 3, 1) := by decide +kernel
theorem d2_25 : decode prog_71_method_6_code 25 = .ok (.bipush 7, 2) := by decide +kernel
theorem d2_27 : decode prog_71_method_6_code 27 = .ok (.iand, 1) := by decide +kernel
theorem d2_28 : decode prog_71_method_6_code 28 = .ok (.ishr, 1) := by decide +kernel
theorem d2_29 : decode prog_71_method_6_code 29 = .ok (.iconst 1, 1) := by decide +kernel
theorem d2_30 : decode prog_71_method_6_code 30 = .ok (.iand, 1) := by decide +kernel
theorem d2_31 : decode prog_71_method_6_code 31 = .ok (.iastore, 1) := by decide +kernel
theorem d2_32 : decode prog_71_method_6_code 32 = .ok (.iinc 3 1, 3) := by decide +kernel
theorem d2_35 : decode prog_71_method_6_code 35 = .ok (.goto (-25), 3) := by decide +kernel
theorem d2_38 : decode prog_71_method_6_code 38 = .ok (.sipush 257, 3) := by decide +kernel
theorem d2_41 : decode prog_71_method_6_code 41 = .ok (.newarray .byte, 2) := by decide +kernel
theorem d2_43 : decode prog_71_method_6_code 43 = .ok (.astore_n 3, 1) := by decide +kernel
theorem d2_44 : decode prog_71_method_6_code 44 = .ok (.iconst 0, 1) := by decide +kernel
theorem d2_45 : decode prog_71_method_6_code 45 = .ok (.istore 4, 2) := by decide +kernel
theorem d2_47 : decode prog_71_method_6_code 47 = .ok (.iconst 0, 1) := by decide +kernel
theorem d2_48 : decode prog_71_method_6_code 48 = .ok (.istore 5, 2) := by decide +kernel
theorem d2_50 : decode prog_71_method_6_code 50 = .ok (.iload 5, 2) := by decide +kernel
theorem d2_52 : decode prog_71_method_6_code 52 = .ok (.aload_n 3, 1) := by decide +kernel
theorem d2_53 : decode prog_71_method_6_code 53 = .ok (.arraylength, 1) := by decide +kernel
theorem d2_54 : decode prog_71_method_6_code 54 = .ok (.if_icmp .ge 113, 3) := by decide +kernel
theorem d2_57 : decode prog_71_method_6_code 57 = .ok (.iload 4, 2) := by decide +kernel
theorem d2_59 : decode prog_71_method_6_code 59 = .ok (.istore 6, 2) := by decide +kernel
theorem d2_61 : decode prog_71_method_6_code 61 = .ok (.iconst 0, 1) := by decide +kernel
theorem d2_62 : decode prog_71_method_6_code 62 = .ok (.istore 7, 2) := by decide +kernel
theorem d2_64 : decode prog_71_method_6_code 64 = .ok (.iload 7, 2) := by decide +kernel
theorem d2_66 : decode prog_71_method_6_code 66 = .ok (.iload_n 1, 1) := by decide +kernel
theorem d2_67 : decode prog_71_method_6_code 67 = .ok (.if_icmp .ge 24, 3) := by decide +kernel
theorem d2_70 : decode prog_71_method_6_code 70 = .ok (.iload 6, 2) := by decide +kernel
theorem d2_72 : decode prog_71_method_6_code 72 = .ok (.aload_n 2, 1) := by decide +kernel
theorem d2_73 : decode prog_71_method_6_code 73 = .ok (.iload 5, 2) := by decide +kernel
theorem d2_75 : decode prog_71_method_6_code 75 = .ok (.iload 7, 2) := by decide +kernel
theorem d2_77 : decode prog_71_method_6_code 77 = .ok (.iadd, 1) := by decide +kernel
theorem d2_78 : decode prog_71_method_6_code 78 = .ok (.iaload, 1) := by decide +kernel
theorem d2_79 : decode prog_71_method_6_code 79 = .ok (.iload 7, 2) := by decide +kernel
theorem d2_81 : decode prog_71_method_6_code 81 = .ok (.ishl, 1) := by decide +kernel
theorem d2_82 : decode prog_71_method_6_code 82 = .ok (.iadd, 1) := by decide +kernel
theorem d2_83 : decode prog_71_method_6_code 83 = .ok (.istore 6, 2) := by decide +kernel
theorem d2_85 : decode prog_71_method_6_code 85 = .ok (.iinc 7 1, 3) := by decide +kernel
theorem d2_88 : decode prog_71_method_6_code 88 = .ok (.goto (-24), 3) := by decide +kernel
theorem d2_91 : decode prog_71_method_6_code 91 = .ok (.iload 6, 2) := by decide +kernel
theorem d2_93 : decode prog_71_method_6_code 93 = .ok (.iconst 1, 1) := by decide +kernel
theorem d2_94 : decode prog_71_method_6_code 94 = .ok (.iand, 1) := by decide +kernel
theorem d2_95 : decode prog_71_method_6_code 95 = .ok (.ifCond .ne 20, 3) := by decide +kernel
theorem d2_98 : decode prog_71_method_6_code 98 = .ok (.aload_n 2, 1) := by decide +kernel
theorem d2_99 : decode prog_71_method_6_code 99 = .ok (.iload 5, 2) := by decide +kernel
theorem d2_101 : decode prog_71_method_6_code 101 = .ok (.iaload, 1) := by decide +kernel
theorem d2_102 : decode prog_71_method_6_code 102 = .ok (.iload 4, 2) := by decide +kernel
theorem d2_104 : decode prog_71_method_6_code 104 = .ok (.iadd, 1) := by decide +kernel
theorem d2_105 : decode prog_71_method_6_code 105 = .ok (.iconst 1, 1) := by decide +kernel
theorem d2_106 : decode prog_71_method_6_code 106 = .ok (.ishr, 1) := by decide +kernel
theorem d2_107 : decode prog_71_method_6_code 107 = .ok (.istore 4, 2) := by decide +kernel
theorem d2_109 : decode prog_71_method_6_code 109 = .ok (.iinc 5 1, 3) := by decide +kernel
theorem d2_112 : decode prog_71_method_6_code 112 = .ok (.goto 52, 3) := by decide +kernel
theorem d2_115 : decode prog_71_method_6_code 115 = .ok (.iload 6, 2) := by decide +kernel
theorem d2_117 : decode prog_71_method_6_code 117 = .ok (.iconst 1, 1) := by decide +kernel
theorem d2_118 : decode prog_71_method_6_code 118 = .ok (.iload_n 1, 1) := by decide +kernel
theorem d2_119 : decode prog_71_method_6_code 119 = .ok (.iconst 1, 1) := by decide +kernel
theorem d2_120 : decode prog_71_method_6_code 120 = .ok (.isub, 1) := by decide +kernel
theorem d2_121 : decode prog_71_method_6_code 121 = .ok (.ishl, 1) := by decide +kernel
theorem d2_122 : decode prog_71_method_6_code 122 = .ok (.if_icmp .lt 26, 3) := by decide +kernel
theorem d2_125 : decode prog_71_method_6_code 125 = .ok (.aload_n 3, 1) := by decide +kernel
theorem d2_126 : decode prog_71_method_6_code 126 = .ok (.iload 5, 2) := by decide +kernel
theorem d2_128 : decode prog_71_method_6_code 128 = .ok (.iload 6, 2) := by decide +kernel
theorem d2_130 : decode prog_71_method_6_code 130 = .ok (.iconst 1, 1) := by decide +kernel
theorem d2_131 : decode prog_71_method_6_code 131 = .ok (.iload_n 1, 1) := by decide +kernel
theorem d2_132 : decode prog_71_method_6_code 132 = .ok (.ishl, 1) := by decide +kernel
theorem d2_133 : decode prog_71_method_6_code 133 = .ok (.isub, 1) := by decide +kernel
theorem d2_134 : decode prog_71_method_6_code 134 = .ok (.i2b, 1) := by decide +kernel
theorem d2_135 : decode prog_71_method_6_code 135 = .ok (.bastore, 1) := by decide +kernel
theorem d2_136 : decode prog_71_method_6_code 136 = .ok (.iconst 1, 1) := by decide +kernel
theorem d2_137 : decode prog_71_method_6_code 137 = .ok (.istore 4, 2) := by decide +kernel
theorem d2_139 : decode prog_71_method_6_code 139 = .ok (.iload 5, 2) := by decide +kernel
theorem d2_141 : decode prog_71_method_6_code 141 = .ok (.iload_n 1, 1) := by decide +kernel
theorem d2_142 : decode prog_71_method_6_code 142 = .ok (.iadd, 1) := by decide +kernel
theorem d2_143 : decode prog_71_method_6_code 143 = .ok (.istore 5, 2) := by decide +kernel
theorem d2_145 : decode prog_71_method_6_code 145 = .ok (.goto 19, 3) := by decide +kernel
theorem d2_148 : decode prog_71_method_6_code 148 = .ok (.aload_n 3, 1) := by decide +kernel
theorem d2_149 : decode prog_71_method_6_code 149 = .ok (.iload 5, 2) := by decide +kernel
theorem d2_151 : decode prog_71_method_6_code 151 = .ok (.iload 6, 2) := by decide +kernel
theorem d2_153 : decode prog_71_method_6_code 153 = .ok (.i2b, 1) := by decide +kernel
theorem d2_154 : decode prog_71_method_6_code 154 = .ok (.bastore, 1) := by decide +kernel
theorem d2_155 : decode prog_71_method_6_code 155 = .ok (.iconst 0, 1) := by decide +kernel
theorem d2_156 : decode prog_71_method_6_code 156 = .ok (.istore 4, 2) := by decide +kernel
theorem d2_158 : decode prog_71_method_6_code 158 = .ok (.iload 5, 2) := by decide +kernel
theorem d2_160 : decode prog_71_method_6_code 160 = .ok (.iload_n 1, 1) := by decide +kernel
theorem d2_161 : decode prog_71_method_6_code 161 = .ok (.iadd, 1) := by decide +kernel
theorem d2_162 : decode prog_71_method_6_code 162 = .ok (.istore 5, 2) := by decide +kernel
theorem d2_164 : decode prog_71_method_6_code 164 = .ok (.goto (-114), 3) := by decide +kernel
theorem d2_167 : decode prog_71_method_6_code 167 = .ok (.aload_n 3, 1) := by decide +kernel
theorem d2_168 : decode prog_71_method_6_code 168 = .ok (.areturn, 1) := by decide +kernel
theorem pn_2 : plainFor (⟨"com/example/usage_to_ledger/usagetoledger/verify/Scalar25519", "nonAdjacentForm", "([BI)[B"⟩ : MethodName) = true := plainFor_of_name (show plainName "com/example/usage_to_ledger/usagetoledger/verify/Scalar25519" = true by first | (simp [plainName, overriddenIn]; done) | decide +kernel)
theorem pd_2 : parseMethodDescriptor "([BI)[B" = some ⟨[(.array .byte), .int], some (.array .byte)⟩ := by decide +kernel
theorem d3_0 : decode method_8_code 0 = .ok (.lload 4, 2) := by decide +kernel
theorem d3_2 : decode method_8_code 2 = .ok (.ldc2_w 26, 3) := by decide +kernel
theorem d3_5 : decode method_8_code 5 = .ok (.lcmp, 1) := by decide +kernel
theorem d3_6 : decode method_8_code 6 = .ok (.ifCond .ne 6, 3) := by decide +kernel
theorem d3_9 : decode method_8_code 9 = .ok (.lload 4, 2) := by decide +kernel
theorem d3_11 : decode method_8_code 11 = .ok (.lreturn, 1) := by decide +kernel
theorem d3_12 : decode method_8_code 12 = .ok (.lload 4, 2) := by decide +kernel
theorem d3_14 : decode method_8_code 14 = .ok (.bipush 16, 2) := by decide +kernel
theorem d3_16 : decode method_8_code 16 = .ok (.lshr, 1) := by decide +kernel
theorem d3_17 : decode method_8_code 17 = .ok (.lstore 6, 2) := by decide +kernel
theorem d3_19 : decode method_8_code 19 = .ok (.lload 4, 2) := by decide +kernel
theorem d3_21 : decode method_8_code 21 = .ok (.ldc2_w 34, 3) := by decide +kernel
theorem d3_24 : decode method_8_code 24 = .ok (.land, 1) := by decide +kernel
theorem d3_25 : decode method_8_code 25 = .ok (.l2i, 1) := by decide +kernel
theorem d3_26 : decode method_8_code 26 = .ok (.istore 8, 2) := by decide +kernel
theorem d3_28 : decode method_8_code 28 = .ok (.bipush 8, 2) := by decide +kernel
theorem d3_30 : decode method_8_code 30 = .ok (.iload_n 2, 1) := by decide +kernel
theorem d3_31 : decode method_8_code 31 = .ok (.imul, 1) := by decide +kernel
theorem d3_32 : decode method_8_code 32 = .ok (.istore 9, 2) := by decide +kernel
theorem d3_34 : decode method_8_code 34 = .ok (.aload_n 0, 1) := by decide +kernel
theorem d3_35 : decode method_8_code 35 = .ok (.iload 9, 2) := by decide +kernel
theorem d3_37 : decode method_8_code 37 = .ok (.invokestatic 36, 3) := by decide +kernel
theorem d3_40 : decode method_8_code 40 = .ok (.istore 10, 2) := by decide +kernel
theorem d3_42 : decode method_8_code 42 = .ok (.aload_n 0, 1) := by decide +kernel
theorem d3_43 : decode method_8_code 43 = .ok (.iload 9, 2) := by decide +kernel
theorem d3_45 : decode method_8_code 45 = .ok (.iconst 1, 1) := by decide +kernel
theorem d3_46 : decode method_8_code 46 = .ok (.iadd, 1) := by decide +kernel
theorem d3_47 : decode method_8_code 47 = .ok (.invokestatic 36, 3) := by decide +kernel
theorem d3_50 : decode method_8_code 50 = .ok (.istore 11, 2) := by decide +kernel
theorem d3_52 : decode method_8_code 52 = .ok (.aload_n 0, 1) := by decide +kernel
theorem d3_53 : decode method_8_code 53 = .ok (.iload 9, 2) := by decide +kernel
theorem d3_55 : decode method_8_code 55 = .ok (.iconst 2, 1) := by decide +kernel
theorem d3_56 : decode method_8_code 56 = .ok (.iadd, 1) := by decide +kernel
theorem d3_57 : decode method_8_code 57 = .ok (.invokestatic 36, 3) := by decide +kernel
theorem d3_60 : decode method_8_code 60 = .ok (.istore 12, 2) := by decide +kernel
theorem d3_62 : decode method_8_code 62 = .ok (.aload_n 0, 1) := by decide +kernel
theorem d3_63 : decode method_8_code 63 = .ok (.iload 9, 2) := by decide +kernel
theorem d3_65 : decode method_8_code 65 = .ok (.iconst 3, 1) := by decide +kernel
theorem d3_66 : decode method_8_code 66 = .ok (.iadd, 1) := by decide +kernel
theorem d3_67 : decode method_8_code 67 = .ok (.invokestatic 36, 3) := by decide +kernel
theorem d3_70 : decode method_8_code 70 = .ok (.istore 13, 2) := by decide +kernel
theorem d3_72 : decode method_8_code 72 = .ok (.aload_n 0, 1) := by decide +kernel
theorem d3_73 : decode method_8_code 73 = .ok (.iload 9, 2) := by decide +kernel
theorem d3_75 : decode method_8_code 75 = .ok (.iconst 4, 1) := by decide +kernel
theorem d3_76 : decode method_8_code 76 = .ok (.iadd, 1) := by decide +kernel
theorem d3_77 : decode method_8_code 77 = .ok (.invokestatic 36, 3) := by decide +kernel
theorem d3_80 : decode method_8_code 80 = .ok (.istore 14, 2) := by decide +kernel
theorem d3_82 : decode method_8_code 82 = .ok (.aload_n 0, 1) := by decide +kernel
theorem d3_83 : decode method_8_code 83 = .ok (.iload 9, 2) := by decide +kernel
theorem d3_85 : decode method_8_code 85 = .ok (.iconst 5, 1) := by decide +kernel
theorem d3_86 : decode method_8_code 86 = .ok (.iadd, 1) := by decide +kernel
theorem d3_87 : decode method_8_code 87 = .ok (.invokestatic 36, 3) := by decide +kernel
theorem d3_90 : decode method_8_code 90 = .ok (.istore 15, 2) := by decide +kernel
theorem d3_92 : decode method_8_code 92 = .ok (.aload_n 0, 1) := by decide +kernel
theorem d3_93 : decode method_8_code 93 = .ok (.iload 9, 2) := by decide +kernel
theorem d3_95 : decode method_8_code 95 = .ok (.bipush 6, 2) := by decide +kernel
theorem d3_97 : decode method_8_code 97 = .ok (.iadd, 1) := by decide +kernel
theorem d3_98 : decode method_8_code 98 = .ok (.invokestatic 36, 3) := by decide +kernel
theorem d3_101 : decode method_8_code 101 = .ok (.istore 16, 2) := by decide +kernel
theorem d3_103 : decode method_8_code 103 = .ok (.aload_n 0, 1) := by decide +kernel
theorem d3_104 : decode method_8_code 104 = .ok (.iload 9, 2) := by decide +kernel
theorem d3_106 : decode method_8_code 106 = .ok (.bipush 7, 2) := by decide +kernel
theorem d3_108 : decode method_8_code 108 = .ok (.iadd, 1) := by decide +kernel
theorem d3_109 : decode method_8_code 109 = .ok (.invokestatic 36, 3) := by decide +kernel
theorem d3_112 : decode method_8_code 112 = .ok (.istore 17, 2) := by decide +kernel
theorem d3_114 : decode method_8_code 114 = .ok (.iload 10, 2) := by decide +kernel
theorem d3_116 : decode method_8_code 116 = .ok (.iload_n 3, 1) := by decide +kernel
theorem d3_117 : decode method_8_code 117 = .ok (.invokestatic 40, 3) := by decide +kernel
theorem d3_120 : decode method_8_code 120 = .ok (.ifCond .eq 66, 3) := by decide +kernel
theorem d3_123 : decode method_8_code 123 = .ok (.iload 11, 2) := by decide +kernel
theorem d3_125 : decode method_8_code 125 = .ok (.iload_n 3, 1) := by decide +kernel
theorem d3_126 : decode method_8_code 126 = .ok (.invokestatic 40, 3) := by decide +kernel
theorem d3_129 : decode method_8_code 129 = .ok (.ifCond .eq 57, 3) := by decide +kernel
theorem d3_132 : decode method_8_code 132 = .ok (.iload 12, 2) := by decide +kernel
theorem d3_134 : decode method_8_code 134 = .ok (.iload_n 3, 1) := by decide +kernel
theorem d3_135 : decode method_8_code 135 = .ok (.invokestatic 40, 3) := by decide +kernel
theorem d3_138 : decode method_8_code 138 = .ok (.ifCond .eq 48, 3) := by decide +kernel
theorem d3_141 : decode method_8_code 141 = .ok (.iload 13, 2) := by decide +kernel
theorem d3_143 : decode method_8_code 143 = .ok (.iload_n 3, 1) := by decide +kernel
theorem d3_144 : decode method_8_code 144 = .ok (.invokestatic 40, 3) := by decide +kernel
theorem d3_147 : decode method_8_code 147 = .ok (.ifCond .eq 39, 3) := by decide +kernel
theorem d3_150 : decode method_8_code 150 = .ok (.iload 14, 2) := by decide +kernel
theorem d3_152 : decode method_8_code 152 = .ok (.iload_n 3, 1) := by decide +kernel
theorem d3_153 : decode method_8_code 153 = .ok (.invokestatic 40, 3) := by decide +kernel
theorem d3_156 : decode method_8_code 156 = .ok (.ifCond .eq 30, 3) := by decide +kernel
theorem d3_159 : decode method_8_code 159 = .ok (.iload 15, 2) := by decide +kernel
theorem d3_161 : decode method_8_code 161 = .ok (.iload_n 3, 1) := by decide +kernel
theorem d3_162 : decode method_8_code 162 = .ok (.invokestatic 40, 3) := by decide +kernel
theorem d3_165 : decode method_8_code 165 = .ok (.ifCond .eq 21, 3) := by decide +kernel
theorem d3_168 : decode method_8_code 168 = .ok (.iload 16, 2) := by decide +kernel
theorem d3_170 : decode method_8_code 170 = .ok (.iload_n 3, 1) := by decide +kernel
theorem d3_171 : decode method_8_code 171 = .ok (.invokestatic 40, 3) := by decide +kernel
theorem d3_174 : decode method_8_code 174 = .ok (.ifCond .eq 12, 3) := by decide +kernel
theorem d3_177 : decode method_8_code 177 = .ok (.iload 17, 2) := by decide +kernel
theorem d3_179 : decode method_8_code 179 = .ok (.iload_n 3, 1) := by decide +kernel
theorem d3_180 : decode method_8_code 180 = .ok (.invokestatic 40, 3) := by decide +kernel
theorem d3_183 : decode method_8_code 183 = .ok (.ifCond .ne 7, 3) := by decide +kernel
theorem d3_186 : decode method_8_code 186 = .ok (.ldc2_w 26, 3) := by decide +kernel
theorem d3_189 : decode method_8_code 189 = .ok (.lreturn, 1) := by decide +kernel
theorem d3_190 : decode method_8_code 190 = .ok (.lload 6, 2) := by decide +kernel
theorem d3_192 : decode method_8_code 192 = .ok (.iload 10, 2) := by decide +kernel
theorem d3_194 : decode method_8_code 194 = .ok (.i2l, 1) := by decide +kernel
theorem d3_195 : decode method_8_code 195 = .ok (.ladd, 1) := by decide +kernel
theorem d3_196 : decode method_8_code 196 = .ok (.ldc2_w 44, 3) := by decide +kernel
theorem d3_199 : decode method_8_code 199 = .ok (.iload 11, 2) := by decide +kernel
theorem d3_201 : decode method_8_code 201 = .ok (.i2l, 1) := by decide +kernel
theorem d3_202 : decode method_8_code 202 = .ok (.lmul, 1) := by decide +kernel
theorem d3_203 : decode method_8_code 203 = .ok (.ladd, 1) := by decide +kernel
theorem d3_204 : decode method_8_code 204 = .ok (.ldc2_w 46, 3) := by decide +kernel
theorem d3_207 : decode method_8_code 207 = .ok (.iload 12, 2) := by decide +kernel
theorem d3_209 : decode method_8_code 209 = .ok (.i2l, 1) := by decide +kernel
theorem d3_210 : decode method_8_code 210 = .ok (.lmul, 1) := by decide +kernel
theorem d3_211 : decode method_8_code 211 = .ok (.ladd, 1) := by decide +kernel
theorem d3_212 : decode method_8_code 212 = .ok (.ldc2_w 48, 3) := by decide +kernel
theorem d3_215 : decode method_8_code 215 = .ok (.iload 13, 2) := by decide +kernel
theorem d3_217 : decode method_8_code 217 = .ok (.i2l, 1) := by decide +kernel
theorem d3_218 : decode method_8_code 218 = .ok (.lmul, 1) := by decide +kernel
theorem d3_219 : decode method_8_code 219 = .ok (.ladd, 1) := by decide +kernel
theorem d3_220 : decode method_8_code 220 = .ok (.ldc2_w 50, 3) := by decide +kernel
theorem d3_223 : decode method_8_code 223 = .ok (.iload 14, 2) := by decide +kernel
theorem d3_225 : decode method_8_code 225 = .ok (.i2l, 1) := by decide +kernel
theorem d3_226 : decode method_8_code 226 = .ok (.lmul, 1) := by decide +kernel
theorem d3_227 : decode method_8_code 227 = .ok (.ladd, 1) := by decide +kernel
theorem d3_228 : decode method_8_code 228 = .ok (.ldc2_w 52, 3) := by decide +kernel
theorem d3_231 : decode method_8_code 231 = .ok (.iload 15, 2) := by decide +kernel
theorem d3_233 : decode method_8_code 233 = .ok (.i2l, 1) := by decide +kernel
theorem d3_234 : decode method_8_code 234 = .ok (.lmul, 1) := by decide +kernel
theorem d3_235 : decode method_8_code 235 = .ok (.ladd, 1) := by decide +kernel
theorem d3_236 : decode method_8_code 236 = .ok (.ldc2_w 54, 3) := by decide +kernel
theorem d3_239 : decode method_8_code 239 = .ok (.iload 16, 2) := by decide +kernel
theorem d3_241 : decode method_8_code 241 = .ok (.i2l, 1) := by decide +kernel
theorem d3_242 : decode method_8_code 242 = .ok (.lmul, 1) := by decide +kernel
theorem d3_243 : decode method_8_code 243 = .ok (.ladd, 1) := by decide +kernel
theorem d3_244 : decode method_8_code 244 = .ok (.ldc2_w 56, 3) := by decide +kernel
theorem d3_247 : decode method_8_code 247 = .ok (.iload 17, 2) := by decide +kernel
theorem d3_249 : decode method_8_code 249 = .ok (.i2l, 1) := by decide +kernel
theorem d3_250 : decode method_8_code 250 = .ok (.lmul, 1) := by decide +kernel
theorem d3_251 : decode method_8_code 251 = .ok (.ladd, 1) := by decide +kernel
theorem d3_252 : decode method_8_code 252 = .ok (.lstore 18, 2) := by decide +kernel
theorem d3_254 : decode method_8_code 254 = .ok (.iload_n 2, 1) := by decide +kernel
theorem d3_255 : decode method_8_code 255 = .ok (.bipush 32, 2) := by decide +kernel
theorem d3_257 : decode method_8_code 257 = .ok (.if_icmp .ge 13, 3) := by decide +kernel
theorem d3_260 : decode method_8_code 260 = .ok (.aload_n 1, 1) := by decide +kernel
theorem d3_261 : decode method_8_code 261 = .ok (.iload_n 2, 1) := by decide +kernel
theorem d3_262 : decode method_8_code 262 = .ok (.baload, 1) := by decide +kernel
theorem d3_263 : decode method_8_code 263 = .ok (.sipush 255, 3) := by decide +kernel
theorem d3_266 : decode method_8_code 266 = .ok (.iand, 1) := by decide +kernel
theorem d3_267 : decode method_8_code 267 = .ok (.goto 4, 3) := by decide +kernel
theorem d3_270 : decode method_8_code 270 = .ok (.iconst 0, 1) := by decide +kernel
theorem d3_271 : decode method_8_code 271 = .ok (.istore 20, 2) := by decide +kernel
theorem d3_273 : decode method_8_code 273 = .ok (.lload 18, 2) := by decide +kernel
theorem d3_275 : decode method_8_code 275 = .ok (.ldc2_w 34, 3) := by decide +kernel
theorem d3_278 : decode method_8_code 278 = .ok (.land, 1) := by decide +kernel
theorem d3_279 : decode method_8_code 279 = .ok (.iload 20, 2) := by decide +kernel
theorem d3_281 : decode method_8_code 281 = .ok (.i2l, 1) := by decide +kernel
theorem d3_282 : decode method_8_code 282 = .ok (.lcmp, 1) := by decide +kernel
theorem d3_283 : decode method_8_code 283 = .ok (.ifCond .eq 7, 3) := by decide +kernel
theorem d3_286 : decode method_8_code 286 = .ok (.ldc2_w 26, 3) := by decide +kernel
theorem d3_289 : decode method_8_code 289 = .ok (.lreturn, 1) := by decide +kernel
theorem d3_290 : decode method_8_code 290 = .ok (.iload 10, 2) := by decide +kernel
theorem d3_292 : decode method_8_code 292 = .ok (.invokestatic 58, 3) := by decide +kernel
theorem d3_295 : decode method_8_code 295 = .ok (.iload 11, 2) := by decide +kernel
theorem d3_297 : decode method_8_code 297 = .ok (.invokestatic 58, 3) := by decide +kernel
theorem d3_300 : decode method_8_code 300 = .ok (.iconst 1, 1) := by decide +kernel
theorem d3_301 : decode method_8_code 301 = .ok (.ishl, 1) := by decide +kernel
theorem d3_302 : decode method_8_code 302 = .ok (.ior, 1) := by decide +kernel
theorem d3_303 : decode method_8_code 303 = .ok (.iload 12, 2) := by decide +kernel
theorem d3_305 : decode method_8_code 305 = .ok (.invokestatic 58, 3) := by decide +kernel
theorem d3_308 : decode method_8_code 308 = .ok (.iconst 2, 1) := by decide +kernel
theorem d3_309 : decode method_8_code 309 = .ok (.ishl, 1) := by decide +kernel
theorem d3_310 : decode method_8_code 310 = .ok (.ior, 1) := by decide +kernel
theorem d3_311 : decode method_8_code 311 = .ok (.iload 13, 2) := by decide +kernel
theorem d3_313 : decode method_8_code 313 = .ok (.invokestatic 58, 3) := by decide +kernel
theorem d3_316 : decode method_8_code 316 = .ok (.iconst 3, 1) := by decide +kernel
theorem d3_317 : decode method_8_code 317 = .ok (.ishl, 1) := by decide +kernel
theorem d3_318 : decode method_8_code 318 = .ok (.ior, 1) := by decide +kernel
theorem d3_319 : decode method_8_code 319 = .ok (.iload 14, 2) := by decide +kernel
theorem d3_321 : decode method_8_code 321 = .ok (.invokestatic 58, 3) := by decide +kernel
theorem d3_324 : decode method_8_code 324 = .ok (.iconst 4, 1) := by decide +kernel
theorem d3_325 : decode method_8_code 325 = .ok (.ishl, 1) := by decide +kernel
theorem d3_326 : decode method_8_code 326 = .ok (.ior, 1) := by decide +kernel
theorem d3_327 : decode method_8_code 327 = .ok (.iload 15, 2) := by decide +kernel
theorem d3_329 : decode method_8_code 329 = .ok (.invokestatic 58, 3) := by decide +kernel
theorem d3_332 : decode method_8_code 332 = .ok (.iconst 5, 1) := by decide +kernel
theorem d3_333 : decode method_8_code 333 = .ok (.ishl, 1) := by decide +kernel
theorem d3_334 : decode method_8_code 334 = .ok (.ior, 1) := by decide +kernel
theorem d3_335 : decode method_8_code 335 = .ok (.iload 16, 2) := by decide +kernel
theorem d3_337 : decode method_8_code 337 = .ok (.invokestatic 58, 3) := by decide +kernel
theorem d3_340 : decode method_8_code 340 = .ok (.bipush 6, 2) := by decide +kernel
theorem d3_342 : decode method_8_code 342 = .ok (.ishl, 1) := by decide +kernel
theorem d3_343 : decode method_8_code 343 = .ok (.ior, 1) := by decide +kernel
theorem d3_344 : decode method_8_code 344 = .ok (.iload 17, 2) := by decide +kernel
theorem d3_346 : decode method_8_code 346 = .ok (.invokestatic 58, 3) := by decide +kernel
theorem d3_349 : decode method_8_code 349 = .ok (.bipush 7, 2) := by decide +kernel
theorem d3_351 : decode method_8_code 351 = .ok (.ishl, 1) := by decide +kernel
theorem d3_352 : decode method_8_code 352 = .ok (.ior, 1) := by decide +kernel
theorem d3_353 : decode method_8_code 353 = .ok (.istore 21, 2) := by decide +kernel
theorem d3_355 : decode method_8_code 355 = .ok (.iload 8, 2) := by decide +kernel
theorem d3_357 : decode method_8_code 357 = .ok (.iload 21, 2) := by decide +kernel
theorem d3_359 : decode method_8_code 359 = .ok (.bipush 8, 2) := by decide +kernel
theorem d3_361 : decode method_8_code 361 = .ok (.ishl, 1) := by decide +kernel
theorem d3_362 : decode method_8_code 362 = .ok (.ior, 1) := by decide +kernel
theorem d3_363 : decode method_8_code 363 = .ok (.iload_n 3, 1) := by decide +kernel
theorem d3_364 : decode method_8_code 364 = .ok (.invokestatic 61, 3) := by decide +kernel
theorem d3_367 : decode method_8_code 367 = .ok (.ifCond .ne 7, 3) := by decide +kernel
theorem d3_370 : decode method_8_code 370 = .ok (.ldc2_w 26, 3) := by decide +kernel
theorem d3_373 : decode method_8_code 373 = .ok (.lreturn, 1) := by decide +kernel
theorem d3_374 : decode method_8_code 374 = .ok (.lload 18, 2) := by decide +kernel
theorem d3_376 : decode method_8_code 376 = .ok (.bipush 8, 2) := by decide +kernel
theorem d3_378 : decode method_8_code 378 = .ok (.lshr, 1) := by decide +kernel
theorem d3_379 : decode method_8_code 379 = .ok (.bipush 16, 2) := by decide +kernel
theorem d3_381 : decode method_8_code 381 = .ok (.lshl, 1) := by decide +kernel
theorem d3_382 : decode method_8_code 382 = .ok (.iload 21, 2) := by decide +kernel
theorem d3_384 : decode method_8_code 384 = .ok (.i2l, 1) := by decide +kernel
theorem d3_385 : decode method_8_code 385 = .ok (.lor, 1) := by decide +kernel
theorem d3_386 : decode method_8_code 386 = .ok (.lreturn, 1) := by decide +kernel
theorem pn_3 : plainFor (⟨"com/example/usage_to_ledger/usagetoledger/verify/Scalar25519NonAdjacentFormPinLaw", "step", "([B[BIIJ)J"⟩ : MethodName) = true := plainFor_of_name (show plainName "com/example/usage_to_ledger/usagetoledger/verify/Scalar25519NonAdjacentFormPinLaw" = true by first | (simp [plainName, overriddenIn]; done) | decide +kernel)
theorem pd_3 : parseMethodDescriptor "([B[BIIJ)J" = some ⟨[(.array .byte), (.array .byte), .int, .int, .long], some .long⟩ := by decide +kernel
theorem d4_0 : decode method_4_code 0 = .ok (.iload_n 1, 1) := by decide +kernel
theorem d4_1 : decode method_4_code 1 = .ok (.aload_n 0, 1) := by decide +kernel
theorem d4_2 : decode method_4_code 2 = .ok (.arraylength, 1) := by decide +kernel
theorem d4_3 : decode method_4_code 3 = .ok (.if_icmp .ge 9, 3) := by decide +kernel
theorem d4_6 : decode method_4_code 6 = .ok (.aload_n 0, 1) := by decide +kernel
theorem d4_7 : decode method_4_code 7 = .ok (.iload_n 1, 1) := by decide +kernel
theorem d4_8 : decode method_4_code 8 = .ok (.baload, 1) := by decide +kernel
theorem d4_9 : decode method_4_code 9 = .ok (.goto 4, 3) := by decide +kernel
theorem d4_12 : decode method_4_code 12 = .ok (.iconst 0, 1) := by decide +kernel
theorem d4_13 : decode method_4_code 13 = .ok (.ireturn, 1) := by decide +kernel
theorem pn_4 : plainFor (⟨"com/example/usage_to_ledger/usagetoledger/verify/Scalar25519NonAdjacentFormPinLaw", "at", "([BI)I"⟩ : MethodName) = true := plainFor_of_name (show plainName "com/example/usage_to_ledger/usagetoledger/verify/Scalar25519NonAdjacentFormPinLaw" = true by first | (simp [plainName, overriddenIn]; done) | decide +kernel)
theorem pd_4 : parseMethodDescriptor "([BI)I" = some ⟨[(.array .byte), .int], some .int⟩ := by decide +kernel
theorem d5_0 : decode method_5_code 0 = .ok (.iload_n 0, 1) := by decide +kernel
theorem d5_1 : decode method_5_code 1 = .ok (.ifCond .eq 21, 3) := by decide +kernel
theorem d5_4 : decode method_5_code 4 = .ok (.iload_n 0, 1) := by decide +kernel
theorem d5_5 : decode method_5_code 5 = .ok (.iconst 1, 1) := by decide +kernel
theorem d5_6 : decode method_5_code 6 = .ok (.iand, 1) := by decide +kernel
theorem d5_7 : decode method_5_code 7 = .ok (.ifCond .eq 19, 3) := by decide +kernel
theorem d5_10 : decode method_5_code 10 = .ok (.iload_n 0, 1) := by decide +kernel
theorem d5_11 : decode method_5_code 11 = .ok (.invokestatic 28, 3) := by decide +kernel
theorem d5_14 : decode method_5_code 14 = .ok (.iconst 1, 1) := by decide +kernel
theorem d5_15 : decode method_5_code 15 = .ok (.iload_n 1, 1) := by decide +kernel
theorem d5_16 : decode method_5_code 16 = .ok (.iconst 1, 1) := by decide +kernel
theorem d5_17 : decode method_5_code 17 = .ok (.isub, 1) := by decide +kernel
theorem d5_18 : decode method_5_code 18 = .ok (.ishl, 1) := by decide +kernel
theorem d5_19 : decode method_5_code 19 = .ok (.if_icmp .ge 7, 3) := by decide +kernel
theorem d5_22 : decode method_5_code 22 = .ok (.iconst 1, 1) := by decide +kernel
theorem d5_23 : decode method_5_code 23 = .ok (.goto 4, 3) := by decide +kernel
theorem d5_26 : decode method_5_code 26 = .ok (.iconst 0, 1) := by decide +kernel
theorem d5_27 : decode method_5_code 27 = .ok (.ireturn, 1) := by decide +kernel
theorem pn_5 : plainFor (⟨"com/example/usage_to_ledger/usagetoledger/verify/Scalar25519NonAdjacentFormPinLaw", "ok", "(II)Z"⟩ : MethodName) = true := plainFor_of_name (show plainName "com/example/usage_to_ledger/usagetoledger/verify/Scalar25519NonAdjacentFormPinLaw" = true by first | (simp [plainName, overriddenIn]; done) | decide +kernel)
theorem pd_5 : parseMethodDescriptor "(II)Z" = some ⟨[.int, .int], some .boolean⟩ := by decide +kernel
theorem d6_0 : decode jdk_29_method_59_code 0 = .ok (.iload_n 0, 1) := by decide +kernel
theorem d6_1 : decode jdk_29_method_59_code 1 = .ok (.ifCond .ge 8, 3) := by decide +kernel
theorem d6_4 : decode jdk_29_method_59_code 4 = .ok (.iload_n 0, 1) := by decide +kernel
theorem d6_5 : decode jdk_29_method_59_code 5 = .ok (.ineg, 1) := by decide +kernel
theorem d6_6 : decode jdk_29_method_59_code 6 = .ok (.goto 4, 3) := by decide +kernel
theorem d6_9 : decode jdk_29_method_59_code 9 = .ok (.iload_n 0, 1) := by decide +kernel
theorem d6_10 : decode jdk_29_method_59_code 10 = .ok (.ireturn, 1) := by decide +kernel
theorem pn_6 : plainFor (⟨"java/lang/Math", "abs", "(I)I"⟩ : MethodName) = true := Jvm.Free.JP.mathPlain rfl (by decide +kernel)
theorem pd_6 : parseMethodDescriptor "(I)I" = some ⟨[.int], some .int⟩ := by decide +kernel
theorem d7_0 : decode method_6_code 0 = .ok (.iload_n 0, 1) := by decide +kernel
theorem d7_1 : decode method_6_code 1 = .ok (.ifCond .eq 7, 3) := by decide +kernel
theorem d7_4 : decode method_6_code 4 = .ok (.iconst 1, 1) := by decide +kernel
theorem d7_5 : decode method_6_code 5 = .ok (.goto 4, 3) := by decide +kernel
theorem d7_8 : decode method_6_code 8 = .ok (.iconst 0, 1) := by decide +kernel
theorem d7_9 : decode method_6_code 9 = .ok (.ireturn, 1) := by decide +kernel
theorem pn_7 : plainFor (⟨"com/example/usage_to_ledger/usagetoledger/verify/Scalar25519NonAdjacentFormPinLaw", "nz", "(I)I"⟩ : MethodName) = true := plainFor_of_name (show plainName "com/example/usage_to_ledger/usagetoledger/verify/Scalar25519NonAdjacentFormPinLaw" = true by first | (simp [plainName, overriddenIn]; done) | decide +kernel)
theorem pd_7 : parseMethodDescriptor "(I)I" = some ⟨[.int], some .int⟩ := by decide +kernel
theorem d8_0 : decode method_7_code 0 = .ok (.iconst 1, 1) := by decide +kernel
theorem d8_1 : decode method_7_code 1 = .ok (.iload_n 1, 1) := by decide +kernel
theorem d8_2 : decode method_7_code 2 = .ok (.if_icmp .ge 13, 3) := by decide +kernel
theorem d8_5 : decode method_7_code 5 = .ok (.iload_n 0, 1) := by decide +kernel
theorem d8_6 : decode method_7_code 6 = .ok (.iload_n 0, 1) := by decide +kernel
theorem d8_7 : decode method_7_code 7 = .ok (.iconst 1, 1) := by decide +kernel
theorem d8_8 : decode method_7_code 8 = .ok (.iushr, 1) := by decide +kernel
theorem d8_9 : decode method_7_code 9 = .ok (.iand, 1) := by decide +kernel
theorem d8_10 : decode method_7_code 10 = .ok (.ifCond .eq 5, 3) := by decide +kernel
theorem d8_13 : decode method_7_code 13 = .ok (.iconst 0, 1) := by decide +kernel
theorem d8_14 : decode method_7_code 14 = .ok (.ireturn, 1) := by decide +kernel
theorem d8_15 : decode method_7_code 15 = .ok (.iconst 2, 1) := by decide +kernel
theorem d8_16 : decode method_7_code 16 = .ok (.iload_n 1, 1) := by decide +kernel
theorem d8_17 : decode method_7_code 17 = .ok (.if_icmp .ge 13, 3) := by decide +kernel
theorem d8_20 : decode method_7_code 20 = .ok (.iload_n 0, 1) := by decide +kernel
theorem d8_21 : decode method_7_code 21 = .ok (.iload_n 0, 1) := by decide +kernel
theorem d8_22 : decode method_7_code 22 = .ok (.iconst 2, 1) := by decide +kernel
theorem d8_23 : decode method_7_code 23 = .ok (.iushr, 1) := by decide +kernel
theorem d8_24 : decode method_7_code 24 = .ok (.iand, 1) := by decide +kernel
theorem d8_25 : decode method_7_code 25 = .ok (.ifCond .eq 5, 3) := by decide +kernel
theorem d8_28 : decode method_7_code 28 = .ok (.iconst 0, 1) := by decide +kernel
theorem d8_29 : decode method_7_code 29 = .ok (.ireturn, 1) := by decide +kernel
theorem d8_30 : decode method_7_code 30 = .ok (.iconst 3, 1) := by decide +kernel
theorem d8_31 : decode method_7_code 31 = .ok (.iload_n 1, 1) := by decide +kernel
theorem d8_32 : decode method_7_code 32 = .ok (.if_icmp .ge 13, 3) := by decide +kernel
theorem d8_35 : decode method_7_code 35 = .ok (.iload_n 0, 1) := by decide +kernel
theorem d8_36 : decode method_7_code 36 = .ok (.iload_n 0, 1) := by decide +kernel
theorem d8_37 : decode method_7_code 37 = .ok (.iconst 3, 1) := by decide +kernel
theorem d8_38 : decode method_7_code 38 = .ok (.iushr, 1) := by decide +kernel
theorem d8_39 : decode method_7_code 39 = .ok (.iand, 1) := by decide +kernel
theorem d8_40 : decode method_7_code 40 = .ok (.ifCond .eq 5, 3) := by decide +kernel
theorem d8_43 : decode method_7_code 43 = .ok (.iconst 0, 1) := by decide +kernel
theorem d8_44 : decode method_7_code 44 = .ok (.ireturn, 1) := by decide +kernel
theorem d8_45 : decode method_7_code 45 = .ok (.iconst 4, 1) := by decide +kernel
theorem d8_46 : decode method_7_code 46 = .ok (.iload_n 1, 1) := by decide +kernel
theorem d8_47 : decode method_7_code 47 = .ok (.if_icmp .ge 13, 3) := by decide +kernel
theorem d8_50 : decode method_7_code 50 = .ok (.iload_n 0, 1) := by decide +kernel
theorem d8_51 : decode method_7_code 51 = .ok (.iload_n 0, 1) := by decide +kernel
theorem d8_52 : decode method_7_code 52 = .ok (.iconst 4, 1) := by decide +kernel
theorem d8_53 : decode method_7_code 53 = .ok (.iushr, 1) := by decide +kernel
theorem d8_54 : decode method_7_code 54 = .ok (.iand, 1) := by decide +kernel
theorem d8_55 : decode method_7_code 55 = .ok (.ifCond .eq 5, 3) := by decide +kernel
theorem d8_58 : decode method_7_code 58 = .ok (.iconst 0, 1) := by decide +kernel
theorem d8_59 : decode method_7_code 59 = .ok (.ireturn, 1) := by decide +kernel
theorem d8_60 : decode method_7_code 60 = .ok (.iconst 5, 1) := by decide +kernel
theorem d8_61 : decode method_7_code 61 = .ok (.iload_n 1, 1) := by decide +kernel
theorem d8_62 : decode method_7_code 62 = .ok (.if_icmp .ge 13, 3) := by decide +kernel
theorem d8_65 : decode method_7_code 65 = .ok (.iload_n 0, 1) := by decide +kernel
theorem d8_66 : decode method_7_code 66 = .ok (.iload_n 0, 1) := by decide +kernel
theorem d8_67 : decode method_7_code 67 = .ok (.iconst 5, 1) := by decide +kernel
theorem d8_68 : decode method_7_code 68 = .ok (.iushr, 1) := by decide +kernel
theorem d8_69 : decode method_7_code 69 = .ok (.iand, 1) := by decide +kernel
theorem d8_70 : decode method_7_code 70 = .ok (.ifCond .eq 5, 3) := by decide +kernel
theorem d8_73 : decode method_7_code 73 = .ok (.iconst 0, 1) := by decide +kernel
theorem d8_74 : decode method_7_code 74 = .ok (.ireturn, 1) := by decide +kernel
theorem d8_75 : decode method_7_code 75 = .ok (.bipush 6, 2) := by decide +kernel
theorem d8_77 : decode method_7_code 77 = .ok (.iload_n 1, 1) := by decide +kernel
theorem d8_78 : decode method_7_code 78 = .ok (.if_icmp .ge 14, 3) := by decide +kernel
theorem d8_81 : decode method_7_code 81 = .ok (.iload_n 0, 1) := by decide +kernel
theorem d8_82 : decode method_7_code 82 = .ok (.iload_n 0, 1) := by decide +kernel
theorem d8_83 : decode method_7_code 83 = .ok (.bipush 6, 2) := by decide +kernel
theorem d8_85 : decode method_7_code 85 = .ok (.iushr, 1) := by decide +kernel
theorem d8_86 : decode method_7_code 86 = .ok (.iand, 1) := by decide +kernel
theorem d8_87 : decode method_7_code 87 = .ok (.ifCond .eq 5, 3) := by decide +kernel
theorem d8_90 : decode method_7_code 90 = .ok (.iconst 0, 1) := by decide +kernel
theorem d8_91 : decode method_7_code 91 = .ok (.ireturn, 1) := by decide +kernel
theorem d8_92 : decode method_7_code 92 = .ok (.bipush 7, 2) := by decide +kernel
theorem d8_94 : decode method_7_code 94 = .ok (.iload_n 1, 1) := by decide +kernel
theorem d8_95 : decode method_7_code 95 = .ok (.if_icmp .ge 14, 3) := by decide +kernel
theorem d8_98 : decode method_7_code 98 = .ok (.iload_n 0, 1) := by decide +kernel
theorem d8_99 : decode method_7_code 99 = .ok (.iload_n 0, 1) := by decide +kernel
theorem d8_100 : decode method_7_code 100 = .ok (.bipush 7, 2) := by decide +kernel
theorem d8_102 : decode method_7_code 102 = .ok (.iushr, 1) := by decide +kernel
theorem d8_103 : decode method_7_code 103 = .ok (.iand, 1) := by decide +kernel
theorem d8_104 : decode method_7_code 104 = .ok (.ifCond .eq 5, 3) := by decide +kernel
theorem d8_107 : decode method_7_code 107 = .ok (.iconst 0, 1) := by decide +kernel
theorem d8_108 : decode method_7_code 108 = .ok (.ireturn, 1) := by decide +kernel
theorem d8_109 : decode method_7_code 109 = .ok (.iconst 1, 1) := by decide +kernel
theorem d8_110 : decode method_7_code 110 = .ok (.ireturn, 1) := by decide +kernel
theorem pn_8 : plainFor (⟨"com/example/usage_to_ledger/usagetoledger/verify/Scalar25519NonAdjacentFormPinLaw", "sparse", "(II)Z"⟩ : MethodName) = true := plainFor_of_name (show plainName "com/example/usage_to_ledger/usagetoledger/verify/Scalar25519NonAdjacentFormPinLaw" = true by first | (simp [plainName, overriddenIn]; done) | decide +kernel)
theorem pd_8 : parseMethodDescriptor "(II)Z" = some ⟨[.int, .int], some .boolean⟩ := by decide +kernel
def own_put (F : Nat → Int32) (k : Nat) (w : Int64) : Nat → Int32 := (updA (updA (updA (updA (updA (updA (updA (updA F k (w.toInt32.toInt8.toInt32).toInt8.toInt32) (k + 1) (((w.toUInt64 >>> ((8 : Int32) &&& 0x3f).toInt64.toUInt64).toInt64).toInt32.toInt8.toInt32).toInt8.toInt32) (k + 2) (((w.toUInt64 >>> ((16 : Int32) &&& 0x3f).toInt64.toUInt64).toInt64).toInt32.toInt8.toInt32).toInt8.toInt32) (k + 3) (((w.toUInt64 >>> ((24 : Int32) &&& 0x3f).toInt64.toUInt64).toInt64).toInt32.toInt8.toInt32).toInt8.toInt32) (k + 4) (((w.toUInt64 >>> ((32 : Int32) &&& 0x3f).toInt64.toUInt64).toInt64).toInt32.toInt8.toInt32).toInt8.toInt32) (k + 5) (((w.toUInt64 >>> ((40 : Int32) &&& 0x3f).toInt64.toUInt64).toInt64).toInt32.toInt8.toInt32).toInt8.toInt32) (k + 6) (((w.toUInt64 >>> ((48 : Int32) &&& 0x3f).toInt64.toUInt64).toInt64).toInt32.toInt8.toInt32).toInt8.toInt32) (k + 7) (((w.toUInt64 >>> ((56 : Int32) &&& 0x3f).toInt64.toUInt64).toInt64).toInt32.toInt8.toInt32).toInt8.toInt32)
def own_u (w : Int64) : Int := w.toInt % 18446744073709551616
def own_by (w : Int64) (r : Nat) : Int := own_u w / (256 ^ r : Nat) % 256
theorem own_by_of (w : Int64) (x : Int32) (r : Nat) (h : (x.toInt - own_u w / (256 ^ r : Nat)) % 4294967296 = 0) : (x.toInt8.toInt32.toInt8.toInt32).toInt % 256 = own_by w r := by
  have h1 := (c_i2b x).1
  have h2 := (c_i2b x.toInt8.toInt32).1
  unfold own_by
  generalize own_u w / (256 ^ r : Nat) = z at h ⊢
  omega
theorem own_sh0 (w : Int64) : (w.toInt32.toInt - own_u w / (256 ^ 0 : Nat)) % 4294967296 = 0 := by
  have h1 := c_l2i w
  unfold own_u
  have h2 : ((256 ^ 0 : Nat) : Int) = 1 := by decide
  rw [h2]; omega
theorem own_sh1 (w : Int64) : ((((w.toUInt64 >>> ((8 : Int32) &&& 0x3f).toInt64.toUInt64).toInt64).toInt32).toInt - own_u w / (256 ^ 1 : Nat)) % 4294967296 = 0 := by
  have h1 := c_l2i ((w.toUInt64 >>> ((8 : Int32) &&& 0x3f).toInt64.toUInt64).toInt64)
  have h2 := c_lushr w 8 8 (by decide) (by decide)
  have h3 : ((256 ^ 1 : Nat) : Int) = ((2 ^ 8 : Nat) : Int) := by decide
  unfold own_u
  rw [h3, ← h2]; exact h1
theorem own_sh2 (w : Int64) : ((((w.toUInt64 >>> ((16 : Int32) &&& 0x3f).toInt64.toUInt64).toInt64).toInt32).toInt - own_u w / (256 ^ 2 : Nat)) % 4294967296 = 0 := by
  have h1 := c_l2i ((w.toUInt64 >>> ((16 : Int32) &&& 0x3f).toInt64.toUInt64).toInt64)
  have h2 := c_lushr w 16 16 (by decide) (by decide)
  have h3 : ((256 ^ 2 : Nat) : Int) = ((2 ^ 16 : Nat) : Int) := by decide
  unfold own_u
  rw [h3, ← h2]; exact h1
theorem own_sh3 (w : Int64) : ((((w.toUInt64 >>> ((24 : Int32) &&& 0x3f).toInt64.toUInt64).toInt64).toInt32).toInt - own_u w / (256 ^ 3 : Nat)) % 4294967296 = 0 := by
  have h1 := c_l2i ((w.toUInt64 >>> ((24 : Int32) &&& 0x3f).toInt64.toUInt64).toInt64)
  have h2 := c_lushr w 24 24 (by decide) (by decide)
  have h3 : ((256 ^ 3 : Nat) : Int) = ((2 ^ 24 : Nat) : Int) := by decide
  unfold own_u
  rw [h3, ← h2]; exact h1
theorem own_sh4 (w : Int64) : ((((w.toUInt64 >>> ((32 : Int32) &&& 0x3f).toInt64.toUInt64).toInt64).toInt32).toInt - own_u w / (256 ^ 4 : Nat)) % 4294967296 = 0 := by
  have h1 := c_l2i ((w.toUInt64 >>> ((32 : Int32) &&& 0x3f).toInt64.toUInt64).toInt64)
  have h2 := c_lushr w 32 32 (by decide) (by decide)
  have h3 : ((256 ^ 4 : Nat) : Int) = ((2 ^ 32 : Nat) : Int) := by decide
  unfold own_u
  rw [h3, ← h2]; exact h1
theorem own_sh5 (w : Int64) : ((((w.toUInt64 >>> ((40 : Int32) &&& 0x3f).toInt64.toUInt64).toInt64).toInt32).toInt - own_u w / (256 ^ 5 : Nat)) % 4294967296 = 0 := by
  have h1 := c_l2i ((w.toUInt64 >>> ((40 : Int32) &&& 0x3f).toInt64.toUInt64).toInt64)
  have h2 := c_lushr w 40 40 (by decide) (by decide)
  have h3 : ((256 ^ 5 : Nat) : Int) = ((2 ^ 40 : Nat) : Int) := by decide
  unfold own_u
  rw [h3, ← h2]; exact h1
theorem own_sh6 (w : Int64) : ((((w.toUInt64 >>> ((48 : Int32) &&& 0x3f).toInt64.toUInt64).toInt64).toInt32).toInt - own_u w / (256 ^ 6 : Nat)) % 4294967296 = 0 := by
  have h1 := c_l2i ((w.toUInt64 >>> ((48 : Int32) &&& 0x3f).toInt64.toUInt64).toInt64)
  have h2 := c_lushr w 48 48 (by decide) (by decide)
  have h3 : ((256 ^ 6 : Nat) : Int) = ((2 ^ 48 : Nat) : Int) := by decide
  unfold own_u
  rw [h3, ← h2]; exact h1
theorem own_sh7 (w : Int64) : ((((w.toUInt64 >>> ((56 : Int32) &&& 0x3f).toInt64.toUInt64).toInt64).toInt32).toInt - own_u w / (256 ^ 7 : Nat)) % 4294967296 = 0 := by
  have h1 := c_l2i ((w.toUInt64 >>> ((56 : Int32) &&& 0x3f).toInt64.toUInt64).toInt64)
  have h2 := c_lushr w 56 56 (by decide) (by decide)
  have h3 : ((256 ^ 7 : Nat) : Int) = ((2 ^ 56 : Nat) : Int) := by decide
  unfold own_u
  rw [h3, ← h2]; exact h1
theorem own_put_out (F : Nat → Int32) (k : Nat) (w : Int64) (i : Nat) (h : i < k ∨ k + 8 ≤ i) : own_put F k w i = F i := by
  unfold own_put
  rw [updA_ne _ _ (by omega), updA_ne _ _ (by omega), updA_ne _ _ (by omega), updA_ne _ _ (by omega), updA_ne _ _ (by omega), updA_ne _ _ (by omega), updA_ne _ _ (by omega), updA_ne _ _ (by omega)]
theorem own_put_in (F : Nat → Int32) (k : Nat) (w : Int64) (r : Nat) (h : r < 8) : (own_put F k w (k + r)).toInt % 256 = own_by w r := by
  unfold own_put
  have hr : r = 0 ∨ r = 1 ∨ r = 2 ∨ r = 3 ∨ r = 4 ∨ r = 5 ∨ r = 6 ∨ r = 7 := by omega
  rcases hr with rfl | rfl | rfl | rfl | rfl | rfl | rfl | rfl
  · rw [updA_ne _ _ (by omega), updA_ne _ _ (by omega), updA_ne _ _ (by omega), updA_ne _ _ (by omega), updA_ne _ _ (by omega), updA_ne _ _ (by omega), updA_ne _ _ (by omega), Nat.add_zero, updA_same, own_by_of w _ 0 (own_sh0 w)]
  · rw [updA_ne _ _ (by omega), updA_ne _ _ (by omega), updA_ne _ _ (by omega), updA_ne _ _ (by omega), updA_ne _ _ (by omega), updA_ne _ _ (by omega), updA_same, own_by_of w _ 1 (own_sh1 w)]
  · rw [updA_ne _ _ (by omega), updA_ne _ _ (by omega), updA_ne _ _ (by omega), updA_ne _ _ (by omega), updA_ne _ _ (by omega), updA_same, own_by_of w _ 2 (own_sh2 w)]
  · rw [updA_ne _ _ (by omega), updA_ne _ _ (by omega), updA_ne _ _ (by omega), updA_ne _ _ (by omega), updA_same, own_by_of w _ 3 (own_sh3 w)]
  · rw [updA_ne _ _ (by omega), updA_ne _ _ (by omega), updA_ne _ _ (by omega), updA_same, own_by_of w _ 4 (own_sh4 w)]
  · rw [updA_ne _ _ (by omega), updA_ne _ _ (by omega), updA_same, own_by_of w _ 5 (own_sh5 w)]
  · rw [updA_ne _ _ (by omega), updA_same, own_by_of w _ 6 (own_sh6 w)]
  · rw [updA_same, own_by_of w _ 7 (own_sh7 w)]
theorem own_sum (w : Int64) : own_u w = own_by w 0 + 256 * own_by w 1 + 65536 * own_by w 2 + 16777216 * own_by w 3 + 4294967296 * own_by w 4 + 1099511627776 * own_by w 5 + 281474976710656 * own_by w 6 + 72057594037927936 * own_by w 7 := by
  have h : 0 ≤ own_u w ∧ own_u w < 18446744073709551616 := by unfold own_u; omega
  have p0 : ((256 ^ 0 : Nat) : Int) = 1 := by decide
  have p1 : ((256 ^ 1 : Nat) : Int) = 256 := by decide
  have p2 : ((256 ^ 2 : Nat) : Int) = 65536 := by decide
  have p3 : ((256 ^ 3 : Nat) : Int) = 16777216 := by decide
  have p4 : ((256 ^ 4 : Nat) : Int) = 4294967296 := by decide
  have p5 : ((256 ^ 5 : Nat) : Int) = 1099511627776 := by decide
  have p6 : ((256 ^ 6 : Nat) : Int) = 281474976710656 := by decide
  have p7 : ((256 ^ 7 : Nat) : Int) = 72057594037927936 := by decide
  unfold own_by
  rw [p0, p1, p2, p3, p4, p5, p6, p7]
  omega
theorem own_by_rng (w : Int64) (r : Nat) : 0 ≤ own_by w r ∧ own_by w r < 256 := by unfold own_by; omega
theorem own_b8 {x : Int32} {a : Int} (h : x.toInt = a) (h1 : -128 ≤ a) (h2 : a < 128) : x.toInt8.toInt32.toInt = a := by
  have q := c_i2b x
  omega
theorem own_b8' {x : Int32} {a : Int} (h : x.toInt = a) (h1 : -128 ≤ a) (h2 : a < 128) : x.toInt8.toInt32.toInt8.toInt32.toInt = a := own_b8 (own_b8 h h1 h2) h1 h2
set_option maxRecDepth 65536 in
set_option maxHeartbeats 40000000 in
theorem spec_1 (l : Launch) (Z : State) (a0 : Array Value) (hw : ∀ d ∈ tables_1, d.before a0 Z = true) (a : Addr) (o : Int32) (w : Int64) (F : Nat → Int32) (n k : Nat) (ho : o.toInt = (k : Int)) (hk : k + 8 ≤ n) (hn : n < 1000) (rest : OS) : OMeets l Z (⟨"com/example/usage_to_ledger/usagetoledger/verify/Scalar25519NonAdjacentFormPinLaw", "put", "([BIJ)V"⟩ : MethodName) method_3_code 4 none ({ frames := 0, cells := 0, slots := 0, locals := 0 } : Room) [(.ref a), (.int o), (.long w)] ((a, ARR Z .byte (AF Value.int n F)) :: rest) (RetN fun os' => os' = (a, ARR Z .byte (AF Value.int n (own_put F k w))) :: rest) := by
  have e1 : (1 : Int32).toInt = 1 := by decide
  have e2 : (2 : Int32).toInt = 2 := by decide
  have e3 : (3 : Int32).toInt = 3 := by decide
  have e4 : (4 : Int32).toInt = 4 := by decide
  have e5 : (5 : Int32).toInt = 5 := by decide
  have e6 : (6 : Int32).toInt = 6 := by decide
  have e7 : (7 : Int32).toInt = 7 := by decide
  have q1 : (o + 1).toInt = ((k + 1 : Nat) : Int) := by rw [toInt_add32 ho e1 (by omega) (by omega)]; omega
  have q2 : (o + 2).toInt = ((k + 2 : Nat) : Int) := by rw [toInt_add32 ho e2 (by omega) (by omega)]; omega
  have q3 : (o + 3).toInt = ((k + 3 : Nat) : Int) := by rw [toInt_add32 ho e3 (by omega) (by omega)]; omega
  have q4 : (o + 4).toInt = ((k + 4 : Nat) : Int) := by rw [toInt_add32 ho e4 (by omega) (by omega)]; omega
  have q5 : (o + 5).toInt = ((k + 5 : Nat) : Int) := by rw [toInt_add32 ho e5 (by omega) (by omega)]; omega
  have q6 : (o + 6).toInt = ((k + 6 : Nat) : Int) := by rw [toInt_add32 ho e6 (by omega) (by omega)]; omega
  have q7 : (o + 7).toInt = ((k + 7 : Nat) : Int) := by rw [toInt_add32 ho e7 (by omega) (by omega)]; omega
  refine OMeets.of_body [.val (.ref a), .val (.int o), .val (.long w), .second] pn_1 (laid_eq _ _ rfl) ?_
  intro X K
  refine W.aloadN K 1 d1_0 0 rfl rfl rfl ?_
  refine W.iloadN K 2 d1_1 1 rfl rfl ?_
  refine W.lloadN K 3 d1_2 2 rfl rfl ?_
  refine W.l2i K 4 d1_3 ?_
  refine W.i2b K 5 d1_4 ?_
  refine W.bastore k K 6 d1_5 (by repeat (first | exact Upd.here | apply Upd.there)) ho (AF_at (by omega)) ?_
  rw [AF_set]
  refine W.aloadN K 7 d1_6 0 rfl rfl rfl ?_
  refine W.iloadN K 8 d1_7 1 rfl rfl ?_
  refine W.iconst K 9 d1_8 (1 : Int32) (by decide) ?_
  refine W.iadd K 10 d1_9 ?_
  refine W.lloadN K 11 d1_10 2 rfl rfl ?_
  refine W.bipush K 13 d1_11 (8 : Int32) (by decide) ?_
  refine W.lushr K 14 d1_13 ?_
  refine W.l2i K 15 d1_14 ?_
  refine W.i2b K 16 d1_15 ?_
  refine W.bastore (k + 1) K 17 d1_16 (by repeat (first | exact Upd.here | apply Upd.there)) q1 (AF_at (by omega)) ?_
  rw [AF_set]
  refine W.aloadN K 18 d1_17 0 rfl rfl rfl ?_
  refine W.iloadN K 19 d1_18 1 rfl rfl ?_
  refine W.iconst K 20 d1_19 (2 : Int32) (by decide) ?_
  refine W.iadd K 21 d1_20 ?_
  refine W.lloadN K 22 d1_21 2 rfl rfl ?_
  refine W.bipush K 24 d1_22 (16 : Int32) (by decide) ?_
  refine W.lushr K 25 d1_24 ?_
  refine W.l2i K 26 d1_25 ?_
  refine W.i2b K 27 d1_26 ?_
  refine W.bastore (k + 2) K 28 d1_27 (by repeat (first | exact Upd.here | apply Upd.there)) q2 (AF_at (by omega)) ?_
  rw [AF_set]
  refine W.aloadN K 29 d1_28 0 rfl rfl rfl ?_
  refine W.iloadN K 30 d1_29 1 rfl rfl ?_
  refine W.iconst K 31 d1_30 (3 : Int32) (by decide) ?_
  refine W.iadd K 32 d1_31 ?_
  refine W.lloadN K 33 d1_32 2 rfl rfl ?_
  refine W.bipush K 35 d1_33 (24 : Int32) (by decide) ?_
  refine W.lushr K 36 d1_35 ?_
  refine W.l2i K 37 d1_36 ?_
  refine W.i2b K 38 d1_37 ?_
  refine W.bastore (k + 3) K 39 d1_38 (by repeat (first | exact Upd.here | apply Upd.there)) q3 (AF_at (by omega)) ?_
  rw [AF_set]
  refine W.aloadN K 40 d1_39 0 rfl rfl rfl ?_
  refine W.iloadN K 41 d1_40 1 rfl rfl ?_
  refine W.iconst K 42 d1_41 (4 : Int32) (by decide) ?_
  refine W.iadd K 43 d1_42 ?_
  refine W.lloadN K 44 d1_43 2 rfl rfl ?_
  refine W.bipush K 46 d1_44 (32 : Int32) (by decide) ?_
  refine W.lushr K 47 d1_46 ?_
  refine W.l2i K 48 d1_47 ?_
  refine W.i2b K 49 d1_48 ?_
  refine W.bastore (k + 4) K 50 d1_49 (by repeat (first | exact Upd.here | apply Upd.there)) q4 (AF_at (by omega)) ?_
  rw [AF_set]
  refine W.aloadN K 51 d1_50 0 rfl rfl rfl ?_
  refine W.iloadN K 52 d1_51 1 rfl rfl ?_
  refine W.iconst K 53 d1_52 (5 : Int32) (by decide) ?_
  refine W.iadd K 54 d1_53 ?_
  refine W.lloadN K 55 d1_54 2 rfl rfl ?_
  refine W.bipush K 57 d1_55 (40 : Int32) (by decide) ?_
  refine W.lushr K 58 d1_57 ?_
  refine W.l2i K 59 d1_58 ?_
  refine W.i2b K 60 d1_59 ?_
  refine W.bastore (k + 5) K 61 d1_60 (by repeat (first | exact Upd.here | apply Upd.there)) q5 (AF_at (by omega)) ?_
  rw [AF_set]
  refine W.aloadN K 62 d1_61 0 rfl rfl rfl ?_
  refine W.iloadN K 63 d1_62 1 rfl rfl ?_
  refine W.bipush K 65 d1_63 (6 : Int32) (by decide) ?_
  refine W.iadd K 66 d1_65 ?_
  refine W.lloadN K 67 d1_66 2 rfl rfl ?_
  refine W.bipush K 69 d1_67 (48 : Int32) (by decide) ?_
  refine W.lushr K 70 d1_69 ?_
  refine W.l2i K 71 d1_70 ?_
  refine W.i2b K 72 d1_71 ?_
  refine W.bastore (k + 6) K 73 d1_72 (by repeat (first | exact Upd.here | apply Upd.there)) q6 (AF_at (by omega)) ?_
  rw [AF_set]
  refine W.aloadN K 74 d1_73 0 rfl rfl rfl ?_
  refine W.iloadN K 75 d1_74 1 rfl rfl ?_
  refine W.bipush K 77 d1_75 (7 : Int32) (by decide) ?_
  refine W.iadd K 78 d1_77 ?_
  refine W.lloadN K 79 d1_78 2 rfl rfl ?_
  refine W.bipush K 81 d1_79 (56 : Int32) (by decide) ?_
  refine W.lushr K 82 d1_81 ?_
  refine W.l2i K 83 d1_82 ?_
  refine W.i2b K 84 d1_83 ?_
  refine W.bastore (k + 7) K 85 d1_84 (by repeat (first | exact Upd.here | apply Upd.there)) q7 (AF_at (by omega)) ?_
  rw [AF_set]
  exact W.return K d1_85 ⟨rfl, rfl⟩
def own_B (b : Nat → Int) : Nat → Int
  | 0 => 0
  | n + 1 => own_B b n + b n * 2 ^ n
theorem own_B_ext {b c : Nat → Int} {n : Nat} (h : ∀ i, i < n → b i = c i) : own_B b n = own_B c n := by
  induction n with
  | zero => rfl
  | succ n ih => rw [own_B, own_B, ih (fun i hi => h i (by omega)), h n (by omega)]
theorem own_B_shift (b : Nat → Int) (i : Nat) : ∀ k, own_B b (i + k) = own_B b i + 2 ^ i * own_B (fun j => b (i + j)) k
  | 0 => by simp [own_B]
  | k + 1 => by
    rw [← Nat.add_assoc, own_B, own_B_shift b i k, own_B, Int.pow_add]
    grind
theorem own_B_zeros {b : Nat → Int} : ∀ {n : Nat}, (∀ i, i < n → b i = 0) → own_B b n = 0
  | 0, _ => rfl
  | n + 1, h => by rw [own_B, own_B_zeros (fun i hi => h i (by omega)), h n (by omega)]; simp
theorem own_B_stay {b : Nat → Int} {n m : Nat} (hnm : n ≤ m) (h : ∀ i, n ≤ i → i < m → b i = 0) : own_B b m = own_B b n := by
  obtain ⟨k, rfl⟩ : ∃ k, m = n + k := ⟨m - n, by omega⟩
  rw [own_B_shift, own_B_zeros (fun i hi => h (n + i) (by omega) (by omega))]; simp
theorem own_B_rng {b : Nat → Int} : ∀ {n : Nat}, (∀ i, i < n → b i = 0 ∨ b i = 1) → 0 ≤ own_B b n ∧ own_B b n ≤ 2 ^ n - 1
  | 0, _ => by simp [own_B]
  | n + 1, h => by
    have ih := own_B_rng (b := b) (n := n) (fun i hi => h i (by omega))
    have hp : (0 : Int) < 2 ^ n := Int.pow_pos (by decide)
    rw [own_B, Int.pow_succ]
    rcases h n (by omega) with e | e <;> rw [e] <;> omega
theorem own_B_mod2 {b : Nat → Int} : ∀ {n : Nat}, own_B b (n + 1) % 2 = b 0 % 2
  | 0 => by simp [own_B]
  | n + 1 => by
    have ih := own_B_mod2 (b := b) (n := n)
    rw [own_B, Int.pow_succ]
    rw [show b (n + 1) * (2 ^ n * 2) = (b (n + 1) * 2 ^ n) * 2 by rw [Int.mul_assoc]]
    omega
theorem own_B_8 (b : Nat → Int) (n : Nat) : own_B b (n + 8) = own_B b n + 2 ^ n * (b n + 2 * b (n + 1) + 4 * b (n + 2) + 8 * b (n + 3) + 16 * b (n + 4) + 32 * b (n + 5) + 64 * b (n + 6) + 128 * b (n + 7)) := by
  rw [own_B_shift]
  simp only [own_B]
  grind
theorem own_pow_le {a m : Nat} (h : a ≤ m) : (2 : Int) ^ a ≤ 2 ^ m := by
  obtain ⟨k, rfl⟩ : ∃ k, m = a + k := ⟨m - a, by omega⟩
  induction k with
  | zero => exact Int.le_refl _
  | succ k ih =>
    have := ih (by omega)
    have hp : (0 : Int) < 2 ^ (a + k) := Int.pow_pos (by decide)
    rw [← Nat.add_assoc, Int.pow_succ]
    omega
/-- what the loop has reached: the digits below i and the carry make up the bits below i -/
def own_N (b d : Nat → Int) (V i : Nat) (cy : Int) : Prop :=
  (cy = 0 ∨ cy = 1) ∧ own_B d i + cy * 2 ^ i = own_B b i ∧ (∀ j, i ≤ j → d j = 0) ∧ (∀ j, d j ≠ 0 → d j % 2 = 1 ∧ -(2 * 2 ^ V) < d j ∧ d j < 2 * 2 ^ V) ∧
  (∀ p, d p ≠ 0 → p + (V + 2) ≤ i) ∧ (∀ p q, p < q → d p ≠ 0 → d q ≠ 0 → p + (V + 2) ≤ q) ∧ (257 ≤ i → cy = 0) ∧ (∀ p, d p ≠ 0 → p < 257)
def own_word (b : Nat → Int) (i : Nat) (cy : Int) (n : Nat) : Int := cy + own_B (fun j => b (i + j)) n
theorem own_N0 (b : Nat → Int) (V : Nat) : own_N b (fun _ => 0) V 0 0 :=
  ⟨Or.inl rfl, by simp [own_B], fun _ _ => rfl, fun _ h => absurd rfl h, fun _ h => absurd rfl h, fun _ _ _ h => absurd rfl h, fun _ => rfl, fun _ h => absurd rfl h⟩
section
variable {b d : Nat → Int} {V i : Nat} {cy : Int}
theorem own_word_rng (hb : ∀ j, b j = 0 ∨ b j = 1) (H : own_N b d V i cy) : 0 ≤ own_word b i cy (V + 2) ∧ own_word b i cy (V + 2) ≤ 4 * 2 ^ V := by
  have h := own_B_rng (b := fun j => b (i + j)) (n := V + 2) (fun j _ => hb (i + j))
  have e : (2 : Int) ^ (V + 2) = 4 * 2 ^ V := by rw [Int.pow_succ, Int.pow_succ]; omega
  have hp : (0 : Int) < 2 ^ V := Int.pow_pos (by decide)
  rw [e] at h
  unfold own_word
  rcases H.1 with h1 | h1 <;> omega
theorem own_N_even (hb : ∀ j, b j = 0 ∨ b j = 1) (hb0 : ∀ j, 256 ≤ j → b j = 0) (H : own_N b d V i cy) (hw : own_word b i cy (V + 2) % 2 = 0) : own_N b d V (i + 1) ((b i + cy) / 2) := by
  obtain ⟨h1, h2, h3, h4, h5, h6, h7, h8⟩ := H
  have q := own_B_mod2 (b := fun j => b (i + j)) (n := V + 1)
  unfold own_word at hw
  have q' : own_B (fun j => b (i + j)) (V + 2) % 2 = b i % 2 := q
  have hbi := hb i
  refine ⟨?_, ?_, fun j hj => h3 j (by omega), h4, fun p hp => by have := h5 p hp; omega, h6, fun hi => ?_, h8⟩
  · rcases h1 with e | e <;> rcases hbi with e' | e' <;> subst e <;> rw [e'] at q' ⊢ <;> omega
  · rw [own_B, own_B, h3 i (by omega), ← h2, Int.pow_succ]
    have hpar : b i + cy = 2 * ((b i + cy) / 2) := by omega
    generalize (b i + cy) / 2 = c at hpar ⊢
    generalize (2 : Int) ^ i = T at h2 ⊢
    grind
  · have := hb0 i (by omega)
    omega
theorem own_N_put (hb : ∀ j, b j = 0 ∨ b j = 1) (H : own_N b d V i cy) (hi : i < 257) {v c' : Int} (hv : v + c' * (4 * 2 ^ V) = own_word b i cy (V + 2)) (hodd : v % 2 = 1) (hl : -(2 * 2 ^ V) < v) (hr : v < 2 * 2 ^ V) (hc : c' = 0 ∨ c' = 1) (hz : 257 ≤ i + (V + 2) → c' = 0) : own_N b (updA d i v) V (i + (V + 2)) c' := by
  obtain ⟨h1, h2, h3, h4, h5, h6, h7, h8⟩ := H
  have hd : ∀ j, j ≠ i → updA d i v j = d j := fun j hj => updA_ne _ _ hj
  have hdi : updA d i v i = v := updA_same _ _ _
  generalize updA d i v = D at hd hdi
  refine ⟨hc, ?_, fun j hj => by rw [hd j (by omega)]; exact h3 j (by omega), fun j hj => ?_, fun p hp => ?_, fun p q hpq hp hq => ?_, hz, fun p hp => ?_⟩
  · have e1 : own_B D (i + (V + 2)) = own_B D (i + 1) := own_B_stay (by omega) (fun j g1 g2 => by rw [hd j (by omega)]; exact h3 j (by omega))
    have e2 : own_B D i = own_B d i := own_B_ext (fun j hj => hd j (by omega))
    have e : (2 : Int) ^ (V + 2) = 4 * 2 ^ V := by rw [Int.pow_succ, Int.pow_succ]; omega
    unfold own_word at hv
    rw [e1, own_B, e2, hdi, own_B_shift b i (V + 2), ← h2, Int.pow_add, e]
    generalize own_B (fun j => b (i + j)) (V + 2) = w at hv ⊢
    generalize (2 : Int) ^ V = Q at hv ⊢
    generalize (2 : Int) ^ i = T
    grind
  · by_cases e : j = i
    · subst e; rw [hdi]; exact ⟨hodd, hl, hr⟩
    · rw [hd j e] at hj ⊢; exact h4 j hj
  · by_cases e : p = i
    · subst e; omega
    · rw [hd p e] at hp; have := h5 p hp; omega
  · by_cases e : q = i
    · subst e
      rw [hd p (by omega)] at hp
      exact h5 p hp
    · rw [hd q e] at hq
      by_cases e' : p = i
      · subst e'; exact absurd (h3 q (by omega)) hq
      · rw [hd p e'] at hp; exact h6 p q hpq hp hq
  · by_cases e : p = i
    · subst e; exact hi
    · rw [hd p e] at hp; exact h8 p hp
theorem own_N_big (hb : ∀ j, b j = 0 ∨ b j = 1) (hb0 : ∀ j, 256 ≤ j → b j = 0) (H : own_N b d V i cy) (hi : i < 257) (hw : own_word b i cy (V + 2) % 2 = 1) (hg : 2 * 2 ^ V ≤ own_word b i cy (V + 2)) : own_N b (updA d i (own_word b i cy (V + 2) - 4 * 2 ^ V)) V (i + (V + 2)) 1 := by
  have r := own_word_rng hb H
  have hp : (0 : Int) < 2 ^ V := Int.pow_pos (by decide)
  refine own_N_put hb H hi (by omega) (by omega) (by omega) (by omega) (Or.inr rfl) (fun hz => ?_)
  exfalso
  have s := own_B_stay (b := fun j => b (i + j)) (n := 256 - i) (m := V + 2) (by omega) (fun j g1 g2 => hb0 (i + j) (by omega))
  have t := own_B_rng (b := fun j => b (i + j)) (n := 256 - i) (fun j _ => hb (i + j))
  have u : (2 : Int) ^ (256 - i) ≤ 2 * 2 ^ V := by
    have k := own_pow_le (a := 256 - i) (m := V + 1) (by omega)
    rw [Int.pow_succ] at k
    omega
  unfold own_word at hw hg
  rw [s] at hw hg
  rcases H.1 with h1 | h1 <;> omega
theorem own_N_small (hb : ∀ j, b j = 0 ∨ b j = 1) (H : own_N b d V i cy) (hi : i < 257) (hw : own_word b i cy (V + 2) % 2 = 1) (hg : own_word b i cy (V + 2) < 2 * 2 ^ V) : own_N b (updA d i (own_word b i cy (V + 2))) V (i + (V + 2)) 0 := by
  have r := own_word_rng hb H
  have hp : (0 : Int) < 2 ^ V := Int.pow_pos (by decide)
  exact own_N_put hb H hi (by omega) hw (by omega) hg (Or.inl rfl) (fun _ => rfl)
/-- what the end of the loop gives -/
def own_E (b d : Nat → Int) (V : Nat) : Prop :=
  own_B d 264 = own_B b 264 ∧ (∀ j, d j ≠ 0 → d j % 2 = 1 ∧ -(2 * 2 ^ V) < d j ∧ d j < 2 * 2 ^ V) ∧ (∀ p q, p < q → d p ≠ 0 → d q ≠ 0 → p + (V + 2) ≤ q) ∧ (∀ p, d p ≠ 0 → p < 257)
theorem own_N_end (hb0 : ∀ j, 256 ≤ j → b j = 0) (H : own_N b d V i cy) (hi : 257 ≤ i) (hi2 : i ≤ 264) : own_E b d V := by
  obtain ⟨h1, h2, h3, h4, h5, h6, h7, h8⟩ := H
  refine ⟨?_, h4, h6, h8⟩
  rw [own_B_stay hi2 (fun j g1 g2 => h3 j g1), own_B_stay (b := b) hi2 (fun j g1 g2 => hb0 j (by omega)), ← h2, h7 hi]
  simp
/-- the sums agree up to a multiple of the next power -/
theorem own_E_at (H : own_E b d V) {k : Nat} (hk : k ≤ 33) : ∃ s, own_B d (8 * k) = own_B b (8 * k) + s * 2 ^ (8 * k) := by
  have e := H.1
  have e1 := own_B_shift d (8 * k) (264 - 8 * k)
  have e2 := own_B_shift b (8 * k) (264 - 8 * k)
  rw [show 8 * k + (264 - 8 * k) = 264 by omega] at e1 e2
  refine ⟨own_B (fun j => b (8 * k + j)) (264 - 8 * k) - own_B (fun j => d (8 * k + j)) (264 - 8 * k), ?_⟩
  generalize (2 : Int) ^ (8 * k) = T at *
  grind
theorem own_E_step (H : own_E b d V) {k : Nat} (hk : k < 33) {s : Int} (hs : own_B d (8 * k) = own_B b (8 * k) + s * 2 ^ (8 * k)) {sd sb : Int}
    (hd : sd = d (8 * k) + 2 * d (8 * k + 1) + 4 * d (8 * k + 2) + 8 * d (8 * k + 3) + 16 * d (8 * k + 4) + 32 * d (8 * k + 5) + 64 * d (8 * k + 6) + 128 * d (8 * k + 7))
    (hsb : sb = b (8 * k) + 2 * b (8 * k + 1) + 4 * b (8 * k + 2) + 8 * b (8 * k + 3) + 16 * b (8 * k + 4) + 32 * b (8 * k + 5) + 64 * b (8 * k + 6) + 128 * b (8 * k + 7)) :
    ∃ t, t * 256 = s + sd - sb ∧ own_B d (8 * (k + 1)) = own_B b (8 * (k + 1)) + t * 2 ^ (8 * (k + 1)) := by
  obtain ⟨t, ht⟩ := own_E_at H (k := k + 1) (by omega)
  refine ⟨t, ?_, ht⟩
  have e1 := own_B_8 d (8 * k)
  have e2 := own_B_8 b (8 * k)
  rw [← hd] at e1
  rw [← hsb] at e2
  rw [show 8 * (k + 1) = 8 * k + 8 by omega, e1, e2, hs, Int.pow_add] at ht
  have hp : (0 : Int) < 2 ^ (8 * k) := Int.pow_pos (by decide)
  generalize (2 : Int) ^ (8 * k) = T at *
  have key : T * (t * 256) = T * (s + sd - sb) := by grind
  exact Int.eq_of_mul_eq_mul_left (by omega) key
theorem own_E_fin (H : own_E b d V) {s : Int} (hs : own_B d (8 * 33) = own_B b (8 * 33) + s * 2 ^ (8 * 33)) : s = 0 := by
  have e := H.1
  have hp : (0 : Int) < 2 ^ (8 * 33) := Int.pow_pos (by decide)
  rw [show (8 * 33) = 264 from rfl] at hs hp
  generalize (2 : Int) ^ 264 = T at *
  have key : T * s = T * 0 := by grind
  exact Int.eq_of_mul_eq_mul_left (by omega) key
end

theorem own_nat {x : Int32} {n : Nat} (h : x.toInt = (n : Int)) : x.toBitVec.toNat = n := by
  have h1 : x.toBitVec.toInt = (n : Int) := h
  rw [BitVec.toInt_eq_toNat_cond] at h1
  have := x.toBitVec.isLt
  split at h1 <;> omega
def own_b (F : Nat → Int32) (j : Nat) : Int := if j < 256 then (F (j / 8)).toInt / ((2 ^ (j % 8) : Nat) : Int) % 2 else 0
theorem own_b01 (F : Nat → Int32) (j : Nat) : own_b F j = 0 ∨ own_b F j = 1 := by unfold own_b; split <;> omega
theorem own_b0 (F : Nat → Int32) (j : Nat) (h : 256 ≤ j) : own_b F j = 0 := by unfold own_b; rw [if_neg (by omega)]
theorem own_bsum (F : Nat → Int32) (k : Nat) (h : k < 32) : (F k).toInt % 256 = own_b F (8 * k) + 2 * own_b F (8 * k + 1) + 4 * own_b F (8 * k + 2) + 8 * own_b F (8 * k + 3) + 16 * own_b F (8 * k + 4) + 32 * own_b F (8 * k + 5) + 64 * own_b F (8 * k + 6) + 128 * own_b F (8 * k + 7) := by
  have e : ∀ r, r < 8 → own_b F (8 * k + r) = (F k).toInt / ((2 ^ r : Nat) : Int) % 2 := fun r hr => by unfold own_b; rw [if_pos (by omega), show (8 * k + r) / 8 = k by omega, show (8 * k + r) % 8 = r by omega]
  have e0 := e 0 (by omega)
  rw [Nat.add_zero] at e0
  rw [e0, e 1 (by omega), e 2 (by omega), e 3 (by omega), e 4 (by omega), e 5 (by omega), e 6 (by omega), e 7 (by omega)]
  omega
theorem own_bit {F : Nat → Int32} {iz : Int32} {k : Nat} (hk : iz.toInt = (k : Int)) (h : k < 256) : ((F (k / 8) >>> ((iz &&& 7) &&& 31)) &&& 1).toInt = own_b F k := by
  have h1 := c_mask iz 7 3 (by decide) (by decide)
  have h2 : (iz &&& 7).toBitVec.toNat % 32 = k % 8 := by
    have := own_nat (x := iz &&& 7) (n := k % 8) (by rw [h1, hk]; omega)
    omega
  have h3 := c_ishr (F (k / 8)) (iz &&& 7) (k % 8) h2
  have h4 := c_mask (F (k / 8) >>> ((iz &&& 7) &&& 31)) 1 1 (by decide) (by decide)
  unfold own_b
  rw [if_pos h, h4, h3]; rfl
theorem own_s3 {iz : Int32} {k : Nat} (hk : iz.toInt = (k : Int)) : (iz >>> ((3 : Int32) &&& 31)).toInt = ((k / 8 : Nat) : Int) := by rw [c_ishr iz 3 3 (by decide), hk]; omega
theorem own_pw {wz : Int32} {V : Nat} (h : wz.toInt = ((V + 2 : Nat) : Int)) (hV : V ≤ 6) : ((1 : Int32) <<< ((wz - 1) &&& 31)).toInt = 2 * 2 ^ V ∧ ((1 : Int32) <<< (wz &&& 31)).toInt = 4 * 2 ^ V := by
  have hc : V = 0 ∨ V = 1 ∨ V = 2 ∨ V = 3 ∨ V = 4 ∨ V = 5 ∨ V = 6 := by omega
  rcases hc with rfl | rfl | rfl | rfl | rfl | rfl | rfl
  · obtain rfl : wz = 2 := Int32.toInt_inj.mp (by rw [h]; decide)
    decide
  · obtain rfl : wz = 3 := Int32.toInt_inj.mp (by rw [h]; decide)
    decide
  · obtain rfl : wz = 4 := Int32.toInt_inj.mp (by rw [h]; decide)
    decide
  · obtain rfl : wz = 5 := Int32.toInt_inj.mp (by rw [h]; decide)
    decide
  · obtain rfl : wz = 6 := Int32.toInt_inj.mp (by rw [h]; decide)
    decide
  · obtain rfl : wz = 7 := Int32.toInt_inj.mp (by rw [h]; decide)
    decide
  · obtain rfl : wz = 8 := Int32.toInt_inj.mp (by rw [h]; decide)
    decide
theorem own_pw6 {V : Nat} (hV : V ≤ 6) : (1 : Int) ≤ 2 ^ V ∧ (2 : Int) ^ V ≤ 64 := by
  have h1 : (0 : Int) < 2 ^ V := Int.pow_pos (by decide)
  have h2 := own_pow_le (a := V) (m := 6) hV
  have h3 : (2 : Int) ^ 6 = 64 := by decide
  omega
theorem own_wstep {b : Nat → Int} {i k : Nat} {cy : Int} {x jz w : Int32} (hk : jz.toInt = (k : Int)) (hk7 : k ≤ 7) (hx : x.toInt = b (i + k)) (hb : ∀ j, b j = 0 ∨ b j = 1) (hcy : cy = 0 ∨ cy = 1) (hw : w.toInt = own_word b i cy k) : (w + (x <<< (jz &&& 31))).toInt = own_word b i cy (k + 1) := by
  have h1 := c_ishl x jz k (by rw [own_nat hk]; omega)
  have r := own_B_rng (b := fun j => b (i + j)) (n := k) (fun j _ => hb _)
  have p1 : (0 : Int) < 2 ^ k := Int.pow_pos (by decide)
  have p2 := own_pow_le (a := k) (m := 7) hk7
  have p3 : (2 : Int) ^ 7 = 128 := by decide
  have e : ((2 ^ k : Nat) : Int) = (2 : Int) ^ k := by simp
  have r2 := rng32 (x <<< (jz &&& 31))
  rw [e, hx] at h1
  have hs : (x <<< (jz &&& 31)).toInt = b (i + k) * 2 ^ k := by rcases hb (i + k) with q | q <;> rw [q] at h1 ⊢ <;> omega
  have hs2 : 0 ≤ b (i + k) * 2 ^ k ∧ b (i + k) * 2 ^ k ≤ 128 := by rcases hb (i + k) with q | q <;> rw [q] <;> omega
  have ew : own_word b i cy (k + 1) = own_word b i cy k + b (i + k) * 2 ^ k := by unfold own_word; rw [own_B]; omega
  have hw2 : 0 ≤ own_word b i cy k ∧ own_word b i cy k ≤ 128 := by unfold own_word; rcases hcy with q | q <;> omega
  rw [ew]
  exact toInt_add32 hw hs (by omega) (by omega)
theorem own_upd {D : Nat → Int32} {i : Nat} {v : Int32} {z : Int} (h : v.toInt = z) : (fun j => (updA D i v j).toInt) = updA (fun j => (D j).toInt) i z := by
  funext j
  by_cases e : j = i
  · subst e; rw [updA_same, updA_same, h]
  · rw [updA_ne _ _ e, updA_ne _ _ e]
def own_abs (d : Int32) : Int32 := if d.toInt < 0 then -d else d
theorem own_abs_eq {d : Int32} (h : -128 ≤ d.toInt) (h2 : d.toInt < 128) : (own_abs d).toInt = if d.toInt < 0 then -d.toInt else d.toInt := by
  unfold own_abs
  have q := c_ineg d
  have r := rng32 (-d)
  split
  · omega
  · rfl
def own_nz (d : Int32) : Int32 := if d = 0 then 0 else 1
theorem own_nz01 (d : Int32) : ((own_nz d).toInt = 0 ∨ (own_nz d).toInt = 1) ∧ ((own_nz d).toInt = 1 → d.toInt ≠ 0) := by
  unfold own_nz
  split
  · exact ⟨Or.inl (by decide), fun h => absurd h (by decide)⟩
  · rename_i q
    exact ⟨Or.inr (by decide), fun _ h => q (Int32.toInt_inj.mp (h.trans (by decide)))⟩
theorem own_nz_le (d : Int32) : 0 ≤ (own_nz d).toInt ∧ (own_nz d).toInt ≤ 1 := by rcases (own_nz01 d).1 with h | h <;> omega
theorem own_mask {n0 n1 n2 n3 n4 n5 n6 n7 : Int32} (h0 : 0 ≤ n0.toInt ∧ n0.toInt ≤ 1) (h1 : 0 ≤ n1.toInt ∧ n1.toInt ≤ 1) (h2 : 0 ≤ n2.toInt ∧ n2.toInt ≤ 1) (h3 : 0 ≤ n3.toInt ∧ n3.toInt ≤ 1) (h4 : 0 ≤ n4.toInt ∧ n4.toInt ≤ 1) (h5 : 0 ≤ n5.toInt ∧ n5.toInt ≤ 1) (h6 : 0 ≤ n6.toInt ∧ n6.toInt ≤ 1) (h7 : 0 ≤ n7.toInt ∧ n7.toInt ≤ 1) : (((((((n0 ||| (n1 <<< ((1 : Int32) &&& 31))) ||| (n2 <<< ((2 : Int32) &&& 31))) ||| (n3 <<< ((3 : Int32) &&& 31))) ||| (n4 <<< ((4 : Int32) &&& 31))) ||| (n5 <<< ((5 : Int32) &&& 31))) ||| (n6 <<< ((6 : Int32) &&& 31))) ||| (n7 <<< ((7 : Int32) &&& 31))).toInt = n0.toInt + 2 * n1.toInt + 4 * n2.toInt + 8 * n3.toInt + 16 * n4.toInt + 32 * n5.toInt + 64 * n6.toInt + 128 * n7.toInt := by
  have a0 : 0 ≤ n0.toInt ∧ n0.toInt < 2 := by omega
  have s1 := c_ishl n1 1 1 (by decide)
  have t1 := rng32 (n1 <<< ((1 : Int32) &&& 31))
  generalize n1 <<< ((1 : Int32) &&& 31) = u1 at s1 t1 ⊢
  have v1 : u1.toInt = 2 * n1.toInt := by omega
  have o1 := c_or' n0 u1 1 (by decide) 2 (by decide) (by omega) (by omega) (by omega)
  have p1 := rng32 (n0 ||| u1)
  generalize n0 ||| u1 = m1 at o1 p1 ⊢
  have a1 : m1.toInt = n0.toInt + 2 * n1.toInt := by omega
  clear s1 t1 v1 o1 p1 a0
  have s2 := c_ishl n2 2 2 (by decide)
  have t2 := rng32 (n2 <<< ((2 : Int32) &&& 31))
  generalize n2 <<< ((2 : Int32) &&& 31) = u2 at s2 t2 ⊢
  have v2 : u2.toInt = 4 * n2.toInt := by omega
  have o2 := c_or' m1 u2 2 (by decide) 4 (by decide) (by omega) (by omega) (by omega)
  have p2 := rng32 (m1 ||| u2)
  generalize m1 ||| u2 = m2 at o2 p2 ⊢
  have a2 : m2.toInt = n0.toInt + 2 * n1.toInt + 4 * n2.toInt := by omega
  clear s2 t2 v2 o2 p2 a1
  have s3 := c_ishl n3 3 3 (by decide)
  have t3 := rng32 (n3 <<< ((3 : Int32) &&& 31))
  generalize n3 <<< ((3 : Int32) &&& 31) = u3 at s3 t3 ⊢
  have v3 : u3.toInt = 8 * n3.toInt := by omega
  have o3 := c_or' m2 u3 3 (by decide) 8 (by decide) (by omega) (by omega) (by omega)
  have p3 := rng32 (m2 ||| u3)
  generalize m2 ||| u3 = m3 at o3 p3 ⊢
  have a3 : m3.toInt = n0.toInt + 2 * n1.toInt + 4 * n2.toInt + 8 * n3.toInt := by omega
  clear s3 t3 v3 o3 p3 a2
  have s4 := c_ishl n4 4 4 (by decide)
  have t4 := rng32 (n4 <<< ((4 : Int32) &&& 31))
  generalize n4 <<< ((4 : Int32) &&& 31) = u4 at s4 t4 ⊢
  have v4 : u4.toInt = 16 * n4.toInt := by omega
  have o4 := c_or' m3 u4 4 (by decide) 16 (by decide) (by omega) (by omega) (by omega)
  have p4 := rng32 (m3 ||| u4)
  generalize m3 ||| u4 = m4 at o4 p4 ⊢
  have a4 : m4.toInt = n0.toInt + 2 * n1.toInt + 4 * n2.toInt + 8 * n3.toInt + 16 * n4.toInt := by omega
  clear s4 t4 v4 o4 p4 a3
  have s5 := c_ishl n5 5 5 (by decide)
  have t5 := rng32 (n5 <<< ((5 : Int32) &&& 31))
  generalize n5 <<< ((5 : Int32) &&& 31) = u5 at s5 t5 ⊢
  have v5 : u5.toInt = 32 * n5.toInt := by omega
  have o5 := c_or' m4 u5 5 (by decide) 32 (by decide) (by omega) (by omega) (by omega)
  have p5 := rng32 (m4 ||| u5)
  generalize m4 ||| u5 = m5 at o5 p5 ⊢
  have a5 : m5.toInt = n0.toInt + 2 * n1.toInt + 4 * n2.toInt + 8 * n3.toInt + 16 * n4.toInt + 32 * n5.toInt := by omega
  clear s5 t5 v5 o5 p5 a4
  have s6 := c_ishl n6 6 6 (by decide)
  have t6 := rng32 (n6 <<< ((6 : Int32) &&& 31))
  generalize n6 <<< ((6 : Int32) &&& 31) = u6 at s6 t6 ⊢
  have v6 : u6.toInt = 64 * n6.toInt := by omega
  have o6 := c_or' m5 u6 6 (by decide) 64 (by decide) (by omega) (by omega) (by omega)
  have p6 := rng32 (m5 ||| u6)
  generalize m5 ||| u6 = m6 at o6 p6 ⊢
  have a6 : m6.toInt = n0.toInt + 2 * n1.toInt + 4 * n2.toInt + 8 * n3.toInt + 16 * n4.toInt + 32 * n5.toInt + 64 * n6.toInt := by omega
  clear s6 t6 v6 o6 p6 a5
  have s7 := c_ishl n7 7 7 (by decide)
  have t7 := rng32 (n7 <<< ((7 : Int32) &&& 31))
  generalize n7 <<< ((7 : Int32) &&& 31) = u7 at s7 t7 ⊢
  have v7 : u7.toInt = 128 * n7.toInt := by omega
  have o7 := c_or' m6 u7 7 (by decide) 128 (by decide) (by omega) (by omega) (by omega)
  have p7 := rng32 (m6 ||| u7)
  generalize m6 ||| u7 = m7 at o7 p7 ⊢
  have a7 : m7.toInt = n0.toInt + 2 * n1.toInt + 4 * n2.toInt + 8 * n3.toInt + 16 * n4.toInt + 32 * n5.toInt + 64 * n6.toInt + 128 * n7.toInt := by omega
  clear s7 t7 v7 o7 p7 a6
  exact a7
theorem own_bits {m : Int32} {d : Nat → Int32} (hm : m.toInt = (own_nz (d 0)).toInt + 2 * (own_nz (d 1)).toInt + 4 * (own_nz (d 2)).toInt + 8 * (own_nz (d 3)).toInt + 16 * (own_nz (d 4)).toInt + 32 * (own_nz (d 5)).toInt + 64 * (own_nz (d 6)).toInt + 128 * (own_nz (d 7)).toInt) : 0 ≤ m.toInt ∧ m.toInt < 256 ∧ ∀ t, m.toBitVec.getLsbD t = true → t < 8 ∧ (d t).toInt ≠ 0 := by
  have g0 := own_nz_le (d 0)
  have g1 := own_nz_le (d 1)
  have g2 := own_nz_le (d 2)
  have g3 := own_nz_le (d 3)
  have g4 := own_nz_le (d 4)
  have g5 := own_nz_le (d 5)
  have g6 := own_nz_le (d 6)
  have g7 := own_nz_le (d 7)
  have hr : 0 ≤ m.toInt ∧ m.toInt < 256 := by omega
  obtain ⟨n, hn⟩ : ∃ n : Nat, m.toInt = (n : Int) := ⟨m.toInt.toNat, by omega⟩
  have hN := own_nat hn
  refine ⟨hr.1, hr.2, fun t ht => ?_⟩
  have ht2 : n.testBit t = true := by rw [← hN]; exact ht
  have ht8 : t < 8 := Nat.lt_of_not_le fun h => by
    have q : n < 2 ^ t := Nat.lt_of_lt_of_le (show n < 2 ^ 8 by omega) (Nat.pow_le_pow_right (by decide) h)
    rw [Nat.testBit_lt_two_pow q] at ht2
    cases ht2
  refine ⟨ht8, ?_⟩
  rw [Nat.testBit_eq_decide_div_mod_eq, decide_eq_true_eq] at ht2
  have hc : t = 0 ∨ t = 1 ∨ t = 2 ∨ t = 3 ∨ t = 4 ∨ t = 5 ∨ t = 6 ∨ t = 7 := by omega
  rcases hc with rfl | rfl | rfl | rfl | rfl | rfl | rfl | rfl
  · exact (own_nz01 (d 0)).2 (by simp only [Nat.reducePow] at ht2; omega)
  · exact (own_nz01 (d 1)).2 (by simp only [Nat.reducePow] at ht2; omega)
  · exact (own_nz01 (d 2)).2 (by simp only [Nat.reducePow] at ht2; omega)
  · exact (own_nz01 (d 3)).2 (by simp only [Nat.reducePow] at ht2; omega)
  · exact (own_nz01 (d 4)).2 (by simp only [Nat.reducePow] at ht2; omega)
  · exact (own_nz01 (d 5)).2 (by simp only [Nat.reducePow] at ht2; omega)
  · exact (own_nz01 (d 6)).2 (by simp only [Nat.reducePow] at ht2; omega)
  · exact (own_nz01 (d 7)).2 (by simp only [Nat.reducePow] at ht2; omega)
theorem own_sp1 {m : Int32} {f : Nat → Prop} (hm : ∀ t, m.toBitVec.getLsbD t = true → f t) (hs : ∀ t, f t → f (t + 1) → False) : m &&& ((m.toUInt32 >>> ((1 : Int32) &&& 31).toUInt32).toInt32) = 0 := by
  have e : ((m.toUInt32 >>> ((1 : Int32) &&& 31).toUInt32).toInt32).toBitVec = m.toBitVec >>> 1 := rfl
  apply Int32.toBitVec_inj.mp
  rw [Int32.toBitVec_and, e]
  apply BitVec.eq_of_getLsbD_eq
  intro t ht
  rw [BitVec.getLsbD_and, BitVec.getLsbD_ushiftRight, show (0 : Int32).toBitVec = 0#32 from rfl, BitVec.getLsbD_zero]
  cases h1 : m.toBitVec.getLsbD t with
  | false => rfl
  | true =>
    cases h2 : m.toBitVec.getLsbD (1 + t) with
    | false => rfl
    | true => exact (hs t (hm t h1) (by rw [Nat.add_comm]; exact hm _ h2)).elim
theorem own_sp2 {m : Int32} {f : Nat → Prop} (hm : ∀ t, m.toBitVec.getLsbD t = true → f t) (hs : ∀ t, f t → f (t + 2) → False) : m &&& ((m.toUInt32 >>> ((2 : Int32) &&& 31).toUInt32).toInt32) = 0 := by
  have e : ((m.toUInt32 >>> ((2 : Int32) &&& 31).toUInt32).toInt32).toBitVec = m.toBitVec >>> 2 := rfl
  apply Int32.toBitVec_inj.mp
  rw [Int32.toBitVec_and, e]
  apply BitVec.eq_of_getLsbD_eq
  intro t ht
  rw [BitVec.getLsbD_and, BitVec.getLsbD_ushiftRight, show (0 : Int32).toBitVec = 0#32 from rfl, BitVec.getLsbD_zero]
  cases h1 : m.toBitVec.getLsbD t with
  | false => rfl
  | true =>
    cases h2 : m.toBitVec.getLsbD (2 + t) with
    | false => rfl
    | true => exact (hs t (hm t h1) (by rw [Nat.add_comm]; exact hm _ h2)).elim
theorem own_sp3 {m : Int32} {f : Nat → Prop} (hm : ∀ t, m.toBitVec.getLsbD t = true → f t) (hs : ∀ t, f t → f (t + 3) → False) : m &&& ((m.toUInt32 >>> ((3 : Int32) &&& 31).toUInt32).toInt32) = 0 := by
  have e : ((m.toUInt32 >>> ((3 : Int32) &&& 31).toUInt32).toInt32).toBitVec = m.toBitVec >>> 3 := rfl
  apply Int32.toBitVec_inj.mp
  rw [Int32.toBitVec_and, e]
  apply BitVec.eq_of_getLsbD_eq
  intro t ht
  rw [BitVec.getLsbD_and, BitVec.getLsbD_ushiftRight, show (0 : Int32).toBitVec = 0#32 from rfl, BitVec.getLsbD_zero]
  cases h1 : m.toBitVec.getLsbD t with
  | false => rfl
  | true =>
    cases h2 : m.toBitVec.getLsbD (3 + t) with
    | false => rfl
    | true => exact (hs t (hm t h1) (by rw [Nat.add_comm]; exact hm _ h2)).elim
theorem own_sp4 {m : Int32} {f : Nat → Prop} (hm : ∀ t, m.toBitVec.getLsbD t = true → f t) (hs : ∀ t, f t → f (t + 4) → False) : m &&& ((m.toUInt32 >>> ((4 : Int32) &&& 31).toUInt32).toInt32) = 0 := by
  have e : ((m.toUInt32 >>> ((4 : Int32) &&& 31).toUInt32).toInt32).toBitVec = m.toBitVec >>> 4 := rfl
  apply Int32.toBitVec_inj.mp
  rw [Int32.toBitVec_and, e]
  apply BitVec.eq_of_getLsbD_eq
  intro t ht
  rw [BitVec.getLsbD_and, BitVec.getLsbD_ushiftRight, show (0 : Int32).toBitVec = 0#32 from rfl, BitVec.getLsbD_zero]
  cases h1 : m.toBitVec.getLsbD t with
  | false => rfl
  | true =>
    cases h2 : m.toBitVec.getLsbD (4 + t) with
    | false => rfl
    | true => exact (hs t (hm t h1) (by rw [Nat.add_comm]; exact hm _ h2)).elim
theorem own_sp5 {m : Int32} {f : Nat → Prop} (hm : ∀ t, m.toBitVec.getLsbD t = true → f t) (hs : ∀ t, f t → f (t + 5) → False) : m &&& ((m.toUInt32 >>> ((5 : Int32) &&& 31).toUInt32).toInt32) = 0 := by
  have e : ((m.toUInt32 >>> ((5 : Int32) &&& 31).toUInt32).toInt32).toBitVec = m.toBitVec >>> 5 := rfl
  apply Int32.toBitVec_inj.mp
  rw [Int32.toBitVec_and, e]
  apply BitVec.eq_of_getLsbD_eq
  intro t ht
  rw [BitVec.getLsbD_and, BitVec.getLsbD_ushiftRight, show (0 : Int32).toBitVec = 0#32 from rfl, BitVec.getLsbD_zero]
  cases h1 : m.toBitVec.getLsbD t with
  | false => rfl
  | true =>
    cases h2 : m.toBitVec.getLsbD (5 + t) with
    | false => rfl
    | true => exact (hs t (hm t h1) (by rw [Nat.add_comm]; exact hm _ h2)).elim
theorem own_sp6 {m : Int32} {f : Nat → Prop} (hm : ∀ t, m.toBitVec.getLsbD t = true → f t) (hs : ∀ t, f t → f (t + 6) → False) : m &&& ((m.toUInt32 >>> ((6 : Int32) &&& 31).toUInt32).toInt32) = 0 := by
  have e : ((m.toUInt32 >>> ((6 : Int32) &&& 31).toUInt32).toInt32).toBitVec = m.toBitVec >>> 6 := rfl
  apply Int32.toBitVec_inj.mp
  rw [Int32.toBitVec_and, e]
  apply BitVec.eq_of_getLsbD_eq
  intro t ht
  rw [BitVec.getLsbD_and, BitVec.getLsbD_ushiftRight, show (0 : Int32).toBitVec = 0#32 from rfl, BitVec.getLsbD_zero]
  cases h1 : m.toBitVec.getLsbD t with
  | false => rfl
  | true =>
    cases h2 : m.toBitVec.getLsbD (6 + t) with
    | false => rfl
    | true => exact (hs t (hm t h1) (by rw [Nat.add_comm]; exact hm _ h2)).elim
theorem own_sp7 {m : Int32} {f : Nat → Prop} (hm : ∀ t, m.toBitVec.getLsbD t = true → f t) (hs : ∀ t, f t → f (t + 7) → False) : m &&& ((m.toUInt32 >>> ((7 : Int32) &&& 31).toUInt32).toInt32) = 0 := by
  have e : ((m.toUInt32 >>> ((7 : Int32) &&& 31).toUInt32).toInt32).toBitVec = m.toBitVec >>> 7 := rfl
  apply Int32.toBitVec_inj.mp
  rw [Int32.toBitVec_and, e]
  apply BitVec.eq_of_getLsbD_eq
  intro t ht
  rw [BitVec.getLsbD_and, BitVec.getLsbD_ushiftRight, show (0 : Int32).toBitVec = 0#32 from rfl, BitVec.getLsbD_zero]
  cases h1 : m.toBitVec.getLsbD t with
  | false => rfl
  | true =>
    cases h2 : m.toBitVec.getLsbD (7 + t) with
    | false => rfl
    | true => exact (hs t (hm t h1) (by rw [Nat.add_comm]; exact hm _ h2)).elim
theorem own_m16 {p m : Int32} {f : Nat → Prop} (hp : ∀ t, p.toBitVec.getLsbD t = true → f t) (hm : ∀ t, m.toBitVec.getLsbD t = true → f (t + 8)) : ∀ t, (p ||| (m <<< ((8 : Int32) &&& 31))).toBitVec.getLsbD t = true → f t := by
  intro t h
  have e : (m <<< ((8 : Int32) &&& 31)).toBitVec = m.toBitVec <<< 8 := rfl
  rw [Int32.toBitVec_or, BitVec.getLsbD_or, e, BitVec.getLsbD_shiftLeft] at h
  rcases (Bool.or_eq_true _ _).mp h with h | h
  · exact hp t h
  · simp only [Bool.and_eq_true, Bool.not_eq_true', decide_eq_true_eq, decide_eq_false_iff_not] at h
    have := hm (t - 8) h.2
    rwa [show t - 8 + 8 = t by omega] at this
def own_P (b d : Nat → Int) (k : Nat) (acc : Int64) : Prop := ∃ (s : Int) (pm : Int32), acc.toInt = s * 65536 + pm.toInt ∧ -128 ≤ s ∧ s ≤ 128 ∧ 0 ≤ pm.toInt ∧ pm.toInt < 256 ∧ own_B d (8 * k) = own_B b (8 * k) + s * 2 ^ (8 * k) ∧ ∀ t, pm.toBitVec.getLsbD t = true → t < 8 ∧ 1 ≤ k ∧ d (8 * k + t - 8) ≠ 0
theorem own_P0 (b d : Nat → Int) : own_P b d 0 0 := ⟨0, 0, by decide, by decide, by decide, by decide, by decide, by simp [own_B], fun t h => by rw [show (0 : Int32).toBitVec = 0#32 from rfl, BitVec.getLsbD_zero] at h; cases h⟩
theorem own_P_ne {b d : Nat → Int} {k : Nat} {acc : Int64} (h : own_P b d k acc) : acc ≠ -9223372036854775808 := fun e => by
  obtain ⟨s, pm, h1, h2, h3, h4, h5, -⟩ := h
  rw [e, show (-9223372036854775808 : Int64).toInt = -9223372036854775808 by decide] at h1
  omega
theorem own_acc_s {acc : Int64} {s : Int} {pm : Int32} (h : acc.toInt = s * 65536 + pm.toInt) (h0 : 0 ≤ pm.toInt) (h1 : pm.toInt < 256) : (acc >>> ((16 : Int32) &&& 0x3f).toInt64).toInt = s ∧ (acc &&& 255).toInt32 = pm := by
  have a1 := c_lshr acc 16 16 (by decide)
  have a2 := c_maskL acc 255 8 (by decide) (by decide)
  have a3 := c_l2i (acc &&& 255)
  have a4 := rng32 (acc &&& 255).toInt32
  refine ⟨by rw [a1]; omega, Int32.toInt_inj.mp (by omega)⟩
theorem own_acc_n {sum : Int64} {mz : Int32} {t : Int} (h : sum.toInt / 256 = t) (ht : -128 ≤ t) (ht2 : t ≤ 128) (h0 : 0 ≤ mz.toInt) (h1 : mz.toInt < 256) : (((sum >>> ((8 : Int32) &&& 0x3f).toInt64) <<< ((16 : Int32) &&& 0x3f).toInt64) ||| mz.toInt64).toInt = t * 65536 + mz.toInt := by
  have a1 := c_lshr sum 8 8 (by decide)
  have a2 := c_lshl (sum >>> ((8 : Int32) &&& 0x3f).toInt64) 16 16 (by decide)
  have a3 := c_i2l mz
  generalize sum >>> ((8 : Int32) &&& 0x3f).toInt64 = u at a1 a2 ⊢
  have r1 := rng64 (u <<< ((16 : Int32) &&& 0x3f).toInt64)
  generalize u <<< ((16 : Int32) &&& 0x3f).toInt64 = w at a2 r1 ⊢
  have a4 : w.toInt = t * 65536 := by omega
  have a5 := c_orL w mz.toInt64 16 (by decide) 65536 (by decide) (by omega) (by omega) (by omega)
  have r2 := rng64 (w ||| mz.toInt64)
  omega
theorem own_lin {s : Int64} {d0 d1 d2 d3 d4 d5 d6 d7 : Int32} (hs : -128 ≤ s.toInt ∧ s.toInt ≤ 128) (h0 : -128 < d0.toInt ∧ d0.toInt < 128) (h1 : -128 < d1.toInt ∧ d1.toInt < 128) (h2 : -128 < d2.toInt ∧ d2.toInt < 128) (h3 : -128 < d3.toInt ∧ d3.toInt < 128) (h4 : -128 < d4.toInt ∧ d4.toInt < 128) (h5 : -128 < d5.toInt ∧ d5.toInt < 128) (h6 : -128 < d6.toInt ∧ d6.toInt < 128) (h7 : -128 < d7.toInt ∧ d7.toInt < 128) : (((((((s + d0.toInt64 + 2 * d1.toInt64) + 4 * d2.toInt64) + 8 * d3.toInt64) + 16 * d4.toInt64) + 32 * d5.toInt64) + 64 * d6.toInt64) + 128 * d7.toInt64).toInt = s.toInt + (d0.toInt + 2 * d1.toInt + 4 * d2.toInt + 8 * d3.toInt + 16 * d4.toInt + 32 * d5.toInt + 64 * d6.toInt + 128 * d7.toInt) ∧ -32768 ≤ (((((((s + d0.toInt64 + 2 * d1.toInt64) + 4 * d2.toInt64) + 8 * d3.toInt64) + 16 * d4.toInt64) + 32 * d5.toInt64) + 64 * d6.toInt64) + 128 * d7.toInt64).toInt ∧ (((((((s + d0.toInt64 + 2 * d1.toInt64) + 4 * d2.toInt64) + 8 * d3.toInt64) + 16 * d4.toInt64) + 32 * d5.toInt64) + 64 * d6.toInt64) + 128 * d7.toInt64).toInt < 32768 := by
  have b0 : (s + d0.toInt64).toInt = s.toInt + d0.toInt := toInt_add64 rfl (c_i2l d0) (by omega) (by omega)
  have e1 : (2 : Int64).toInt = 2 := by decide
  have c1 := c_lmul 2 d1.toInt64
  have r1 := rng64 (2 * d1.toInt64)
  have i1 := c_i2l d1
  have f1 : (2 * d1.toInt64).toInt = 2 * d1.toInt := by rw [e1, i1] at c1; omega
  have b1 : (s + d0.toInt64 + 2 * d1.toInt64).toInt = s.toInt + d0.toInt + 2 * d1.toInt := toInt_add64 b0 f1 (by omega) (by omega)
  have e2 : (4 : Int64).toInt = 4 := by decide
  have c2 := c_lmul 4 d2.toInt64
  have r2 := rng64 (4 * d2.toInt64)
  have i2 := c_i2l d2
  have f2 : (4 * d2.toInt64).toInt = 4 * d2.toInt := by rw [e2, i2] at c2; omega
  have b2 : ((s + d0.toInt64 + 2 * d1.toInt64) + 4 * d2.toInt64).toInt = s.toInt + d0.toInt + 2 * d1.toInt + 4 * d2.toInt := toInt_add64 b1 f2 (by omega) (by omega)
  have e3 : (8 : Int64).toInt = 8 := by decide
  have c3 := c_lmul 8 d3.toInt64
  have r3 := rng64 (8 * d3.toInt64)
  have i3 := c_i2l d3
  have f3 : (8 * d3.toInt64).toInt = 8 * d3.toInt := by rw [e3, i3] at c3; omega
  have b3 : (((s + d0.toInt64 + 2 * d1.toInt64) + 4 * d2.toInt64) + 8 * d3.toInt64).toInt = s.toInt + d0.toInt + 2 * d1.toInt + 4 * d2.toInt + 8 * d3.toInt := toInt_add64 b2 f3 (by omega) (by omega)
  have e4 : (16 : Int64).toInt = 16 := by decide
  have c4 := c_lmul 16 d4.toInt64
  have r4 := rng64 (16 * d4.toInt64)
  have i4 := c_i2l d4
  have f4 : (16 * d4.toInt64).toInt = 16 * d4.toInt := by rw [e4, i4] at c4; omega
  have b4 : ((((s + d0.toInt64 + 2 * d1.toInt64) + 4 * d2.toInt64) + 8 * d3.toInt64) + 16 * d4.toInt64).toInt = s.toInt + d0.toInt + 2 * d1.toInt + 4 * d2.toInt + 8 * d3.toInt + 16 * d4.toInt := toInt_add64 b3 f4 (by omega) (by omega)
  have e5 : (32 : Int64).toInt = 32 := by decide
  have c5 := c_lmul 32 d5.toInt64
  have r5 := rng64 (32 * d5.toInt64)
  have i5 := c_i2l d5
  have f5 : (32 * d5.toInt64).toInt = 32 * d5.toInt := by rw [e5, i5] at c5; omega
  have b5 : (((((s + d0.toInt64 + 2 * d1.toInt64) + 4 * d2.toInt64) + 8 * d3.toInt64) + 16 * d4.toInt64) + 32 * d5.toInt64).toInt = s.toInt + d0.toInt + 2 * d1.toInt + 4 * d2.toInt + 8 * d3.toInt + 16 * d4.toInt + 32 * d5.toInt := toInt_add64 b4 f5 (by omega) (by omega)
  have e6 : (64 : Int64).toInt = 64 := by decide
  have c6 := c_lmul 64 d6.toInt64
  have r6 := rng64 (64 * d6.toInt64)
  have i6 := c_i2l d6
  have f6 : (64 * d6.toInt64).toInt = 64 * d6.toInt := by rw [e6, i6] at c6; omega
  have b6 : ((((((s + d0.toInt64 + 2 * d1.toInt64) + 4 * d2.toInt64) + 8 * d3.toInt64) + 16 * d4.toInt64) + 32 * d5.toInt64) + 64 * d6.toInt64).toInt = s.toInt + d0.toInt + 2 * d1.toInt + 4 * d2.toInt + 8 * d3.toInt + 16 * d4.toInt + 32 * d5.toInt + 64 * d6.toInt := toInt_add64 b5 f6 (by omega) (by omega)
  have e7 : (128 : Int64).toInt = 128 := by decide
  have c7 := c_lmul 128 d7.toInt64
  have r7 := rng64 (128 * d7.toInt64)
  have i7 := c_i2l d7
  have f7 : (128 * d7.toInt64).toInt = 128 * d7.toInt := by rw [e7, i7] at c7; omega
  have b7 : (((((((s + d0.toInt64 + 2 * d1.toInt64) + 4 * d2.toInt64) + 8 * d3.toInt64) + 16 * d4.toInt64) + 32 * d5.toInt64) + 64 * d6.toInt64) + 128 * d7.toInt64).toInt = s.toInt + d0.toInt + 2 * d1.toInt + 4 * d2.toInt + 8 * d3.toInt + 16 * d4.toInt + 32 * d5.toInt + 64 * d6.toInt + 128 * d7.toInt := toInt_add64 b6 f7 (by omega) (by omega)
  exact ⟨by rw [b7]; omega, by rw [b7]; omega, by rw [b7]; omega⟩

set_option maxRecDepth 65536 in
set_option maxHeartbeats 40000000 in
theorem spec_2 (l : Launch) (Z : State) (a0 : Array Value) (hw : ∀ d ∈ tables_1, d.before a0 Z = true) (sa : Addr) (wz : Int32) (V : Nat) (hw0 : wz.toInt = ((V + 2 : Nat) : Int)) (hV : V ≤ 6) (F : Nat → Int32) (os : OS) (hm : (sa, ARR Z .byte (AF Value.int 32 F)) ∈ os) : OMeets l Z (⟨"com/example/usage_to_ledger/usagetoledger/verify/Scalar25519", "nonAdjacentForm", "([BI)[B"⟩ : MethodName) prog_71_method_6_code 8 (some (.array .byte)) ({ frames := 0, cells := 2, slots := 522, locals := 0 } : Room) [(.ref sa), (.int wz)] os (RetV fun v os' => ∃ (da : Addr) (D : Nat → Int32), v = .ref da ∧ os' = (da, ARR Z .byte (AF Value.int 257 D)) :: os ∧ own_E (own_b F) (fun j => (D j).toInt) V) := by
  have e257 : (257 : Int32).toInt = 257 := by decide
  have e256 : (256 : Int32).toInt = 256 := by decide
  have e1 : (1 : Int32).toInt = 1 := by decide
  have e0 : (0 : Int32).toInt = ((0 : Nat) : Int) := by decide
  have hp := own_pw hw0 hV
  have hq := own_pw6 hV
  have hn1 : (257 + wz).toInt = ((259 + V : Nat) : Int) := by rw [toInt_add32 e257 hw0 (by omega) (by omega)]; omega
  have hb1 := own_b01 F
  have hb2 := own_b0 F
  refine OMeets.of_body [.val (.ref sa), .val (.int wz), .unset, .unset, .unset, .unset, .unset, .unset] pn_2 (laid_eq _ _ rfl) ?_
  intro X K
  have L3 : ∀ (m k : Nat) (ba da : Addr) (Bt D : Nat → Int32) (i : Nat) (iz cyz wd jz : Int32), (∀ j, (Bt j).toInt = own_b F j) → iz.toInt = (i : Int) → i < 257 → (cyz.toInt = 0 ∨ cyz.toInt = 1) → jz.toInt = (k : Int) → k + m = V + 2 → wd.toInt = own_word (own_b F) i cyz.toInt k → (∀ (wd jz : Int32), wd.toInt = own_word (own_b F) i cyz.toInt (V + 2) → WP X Z 2 522 (RetV fun v os' => ∃ (da : Addr) (D : Nat → Int32), v = .ref da ∧ os' = (da, ARR Z .byte (AF Value.int 257 D)) :: os ∧ own_E (own_b F) (fun j => (D j).toInt) V) 91 [.val (.ref sa), .val (.int wz), .val (.ref ba), .val (.ref da), .val (.int cyz), .val (.int iz), .val (.int wd), .val (.int jz)] [] ((da, ARR Z .byte (AF Value.int 257 D)) :: (ba, ARR Z .int (AF Value.int (259 + V) Bt)) :: os) 2 522) → WP X Z 2 522 (RetV fun v os' => ∃ (da : Addr) (D : Nat → Int32), v = .ref da ∧ os' = (da, ARR Z .byte (AF Value.int 257 D)) :: os ∧ own_E (own_b F) (fun j => (D j).toInt) V) 64 [.val (.ref sa), .val (.int wz), .val (.ref ba), .val (.ref da), .val (.int cyz), .val (.int iz), .val (.int wd), .val (.int jz)] [] ((da, ARR Z .byte (AF Value.int 257 D)) :: (ba, ARR Z .int (AF Value.int (259 + V) Bt)) :: os) 2 522 := by
    intro m
    induction m with
    | zero =>
      intro k ba da Bt D i iz cyz wd jz hB hi hi2 hcy hj hk hwd kk
      obtain rfl : k = V + 2 := by omega
      refine W.iload K 66 d2_64 rfl ?_
      refine W.iloadN K 67 d2_66 1 rfl rfl ?_
      refine W.icmp_ge K 91 70 d2_67 (fun h67 => ?_) (fun h67 => False.elim (by omega))
      exact kk _ _ hwd
    | succ m ih =>
      intro k ba da Bt D i iz cyz wd jz hB hi hi2 hcy hj hk hwd kk
      have hk1 : (jz + 1).toInt = ((k + 1 : Nat) : Int) := by rw [toInt_add32 hj e1 (by omega) (by omega)]; omega
      have hik : (iz + jz).toInt = ((i + k : Nat) : Int) := by rw [toInt_add32 hi hj (by omega) (by omega)]; omega
      have hst := own_wstep (b := own_b F) (i := i) (cy := cyz.toInt) hj (by omega) (hB (i + k)) hb1 hcy hwd
      refine W.iload K 66 d2_64 rfl ?_
      refine W.iloadN K 67 d2_66 1 rfl rfl ?_
      refine W.icmp_ge K 91 70 d2_67 (fun h67 => False.elim (by omega)) (fun h67 => ?_)
      refine W.iload K 72 d2_70 rfl ?_
      refine W.aloadN K 73 d2_72 2 rfl rfl rfl ?_
      refine W.iload K 75 d2_73 rfl ?_
      refine W.iload K 77 d2_75 rfl ?_
      refine W.iadd K 78 d2_77 ?_
      refine W.iaload (i + k) K 79 d2_78 (by repeat (first | exact List.mem_cons_self | apply List.mem_cons_of_mem)) hik (AF_at (by omega)) ?_
      refine W.iload K 81 d2_79 rfl ?_
      refine W.ishl K 82 d2_81 ?_
      refine W.iadd K 83 d2_82 ?_
      refine W.istore K 85 d2_83 rfl (by repeat (first | apply setLS | exact setL0)) ?_
      refine W.iinc K 88 d2_85 (1 : Int32) (by decide) rfl (by repeat (first | apply setLS | exact setL0)) ?_
      refine W.goto K 64 d2_88 ?_
      exact ih (k + 1) ba da Bt D i iz cyz _ _ hB hi hi2 hcy hk1 (by omega) hst kk
  have L2 : ∀ (m : Nat) (ba da : Addr) (Bt D : Nat → Int32) (i : Nat) (iz cyz : Int32) (s6 s7 : Slot), (∀ j, (Bt j).toInt = own_b F j) → iz.toInt = (i : Int) → i ≤ 264 → 264 ≤ i + m → own_N (own_b F) (fun j => (D j).toInt) V i cyz.toInt → okS s6 = true → okS s7 = true → WP X Z 2 522 (RetV fun v os' => ∃ (da : Addr) (D : Nat → Int32), v = .ref da ∧ os' = (da, ARR Z .byte (AF Value.int 257 D)) :: os ∧ own_E (own_b F) (fun j => (D j).toInt) V) 50 [.val (.ref sa), .val (.int wz), .val (.ref ba), .val (.ref da), .val (.int cyz), .val (.int iz), s6, s7] [] ((da, ARR Z .byte (AF Value.int 257 D)) :: (ba, ARR Z .int (AF Value.int (259 + V) Bt)) :: os) 2 522 := by
    intro m
    induction m with
    | zero =>
      intro ba da Bt D i iz cyz s6 s7 hB hi hi2 him hN g6 g7
      refine W.iload K 52 d2_50 rfl ?_
      refine W.aloadN K 53 d2_52 3 rfl rfl rfl ?_
      refine W.arraylength (257 : Int32) K 54 d2_53 (by repeat (first | exact List.mem_cons_self | apply List.mem_cons_of_mem)) (by rw [AF_len]; rfl) ?_
      refine W.icmp_ge K 167 57 d2_54 (fun h54 => ?_) (fun h54 => False.elim (by omega))
      refine W.aloadN K 168 d2_167 3 rfl rfl rfl ?_
      refine WP.sub (List.Sublist.cons₂ _ (List.sublist_cons_self _ _)) ?_
      refine W.areturn K d2_168 ⟨_, rfl, da, D, rfl, rfl, own_N_end hb2 hN (by omega) hi2⟩
    | succ m ih =>
      intro ba da Bt D i iz cyz s6 s7 hB hi hi2 him hN g6 g7
      refine W.iload K 52 d2_50 rfl ?_
      refine W.aloadN K 53 d2_52 3 rfl rfl rfl ?_
      refine W.arraylength (257 : Int32) K 54 d2_53 (by repeat (first | exact List.mem_cons_self | apply List.mem_cons_of_mem)) (by rw [AF_len]; rfl) ?_
      refine W.icmp_ge K 167 57 d2_54 (fun h54 => ?_) (fun h54 => ?_)
      · refine W.aloadN K 168 d2_167 3 rfl rfl rfl ?_
        refine WP.sub (List.Sublist.cons₂ _ (List.sublist_cons_self _ _)) ?_
        refine W.areturn K d2_168 ⟨_, rfl, da, D, rfl, rfl, own_N_end hb2 hN (by omega) hi2⟩
      · have hi3 : i < 257 := by omega
        refine W.iload K 59 d2_57 rfl ?_
        refine W.istore K 61 d2_59 (congrArg some g6) (by repeat (first | apply setLS | exact setL0)) ?_
        refine W.iconst K 62 d2_61 (0 : Int32) (by decide) ?_
        refine W.istore K 64 d2_62 (congrArg some g7) (by repeat (first | apply setLS | exact setL0)) ?_
        refine L3 (V + 2) 0 ba da Bt D i iz cyz _ _ hB hi hi3 hN.1 e0 (by omega) (by unfold own_word; simp [own_B]) (fun wd jz hwd => ?_)
        have hr := own_word_rng hb1 hN
        have hodd := c_mask wd 1 1 (by decide) (by decide)
        have hi1 : (iz + 1).toInt = ((i + 1 : Nat) : Int) := by rw [toInt_add32 hi e1 (by omega) (by omega)]; omega
        have hiw : (iz + wz).toInt = ((i + (V + 2) : Nat) : Int) := by rw [toInt_add32 hi hw0 (by omega) (by omega)]; omega
        have hwm : (wd &&& 1).toInt = wd.toInt % 2 := by rw [hodd]; rfl
        refine W.iload K 93 d2_91 rfl ?_
        refine W.iconst K 94 d2_93 (1 : Int32) (by decide) ?_
        refine W.iand K 95 d2_94 ?_
        refine W.if_ne K 115 98 d2_95 (fun h95 => ?_) (fun h95 => ?_)
        · have hod : own_word (own_b F) i cyz.toInt (V + 2) % 2 = 1 := by have q : (wd &&& 1).toInt ≠ 0 := fun h => h95 (Int32.toInt_inj.mp (h.trans (by decide))); omega
          refine W.iload K 117 d2_115 rfl ?_
          refine W.iconst K 118 d2_117 (1 : Int32) (by decide) ?_
          refine W.iloadN K 119 d2_118 1 rfl rfl ?_
          refine W.iconst K 120 d2_119 (1 : Int32) (by decide) ?_
          refine W.isub K 121 d2_120 ?_
          refine W.ishl K 122 d2_121 ?_
          refine W.icmp_lt K 148 125 d2_122 (fun h122 => ?_) (fun h122 => ?_)
          · have hsm : (wd.toInt8.toInt32.toInt8.toInt32).toInt = own_word (own_b F) i cyz.toInt (V + 2) := own_b8' hwd (by omega) (by omega)
            refine W.aloadN K 149 d2_148 3 rfl rfl rfl ?_
            refine W.iload K 151 d2_149 rfl ?_
            refine W.iload K 153 d2_151 rfl ?_
            refine W.i2b K 154 d2_153 ?_
            refine W.bastore i K 155 d2_154 (by repeat (first | exact Upd.here | apply Upd.there)) hi (AF_at (by omega)) ?_
            rw [AF_set]
            refine W.iconst K 156 d2_155 (0 : Int32) (by decide) ?_
            refine W.istore K 158 d2_156 rfl (by repeat (first | apply setLS | exact setL0)) ?_
            refine W.iload K 160 d2_158 rfl ?_
            refine W.iloadN K 161 d2_160 1 rfl rfl ?_
            refine W.iadd K 162 d2_161 ?_
            refine W.istore K 164 d2_162 rfl (by repeat (first | apply setLS | exact setL0)) ?_
            refine W.goto K 50 d2_164 ?_
            exact ih ba da Bt _ (i + (V + 2)) _ 0 _ _ hB hiw (by omega) (by omega) (by rw [own_upd hsm]; exact own_N_small hb1 hN hi3 hod (by omega)) rfl rfl
          · have hbg : ((wd - ((1 : Int32) <<< (wz &&& 31))).toInt8.toInt32.toInt8.toInt32).toInt = own_word (own_b F) i cyz.toInt (V + 2) - 4 * 2 ^ V := own_b8' (toInt_sub32 hwd hp.2 (by omega) (by omega)) (by omega) (by omega)
            refine W.aloadN K 126 d2_125 3 rfl rfl rfl ?_
            refine W.iload K 128 d2_126 rfl ?_
            refine W.iload K 130 d2_128 rfl ?_
            refine W.iconst K 131 d2_130 (1 : Int32) (by decide) ?_
            refine W.iloadN K 132 d2_131 1 rfl rfl ?_
            refine W.ishl K 133 d2_132 ?_
            refine W.isub K 134 d2_133 ?_
            refine W.i2b K 135 d2_134 ?_
            refine W.bastore i K 136 d2_135 (by repeat (first | exact Upd.here | apply Upd.there)) hi (AF_at (by omega)) ?_
            rw [AF_set]
            refine W.iconst K 137 d2_136 (1 : Int32) (by decide) ?_
            refine W.istore K 139 d2_137 rfl (by repeat (first | apply setLS | exact setL0)) ?_
            refine W.iload K 141 d2_139 rfl ?_
            refine W.iloadN K 142 d2_141 1 rfl rfl ?_
            refine W.iadd K 143 d2_142 ?_
            refine W.istore K 145 d2_143 rfl (by repeat (first | apply setLS | exact setL0)) ?_
            refine W.goto K 164 d2_145 ?_
            refine W.goto K 50 d2_164 ?_
            exact ih ba da Bt _ (i + (V + 2)) _ 1 _ _ hB hiw (by omega) (by omega) (by rw [own_upd hbg]; exact own_N_big hb1 hb2 hN hi3 hod (by omega)) rfl rfl
        · have hev : own_word (own_b F) i cyz.toInt (V + 2) % 2 = 0 := by have q := congrArg Int32.toInt h95; have z : (0 : Int32).toInt = 0 := (by decide); omega
          have hs0 : (Bt i + cyz).toInt = own_b F i + cyz.toInt := toInt_add32 (hB i) rfl (by have := hb1 i; have := hN.1; omega) (by have := hb1 i; have := hN.1; omega)
          have hcy2 : ((Bt i + cyz) >>> ((1 : Int32) &&& 31)).toInt = (own_b F i + cyz.toInt) / 2 := by rw [c_ishr (Bt i + cyz) 1 1 (by decide), hs0]; rfl
          refine W.aloadN K 99 d2_98 2 rfl rfl rfl ?_
          refine W.iload K 101 d2_99 rfl ?_
          refine W.iaload i K 102 d2_101 (by repeat (first | exact List.mem_cons_self | apply List.mem_cons_of_mem)) hi (AF_at (by omega)) ?_
          refine W.iload K 104 d2_102 rfl ?_
          refine W.iadd K 105 d2_104 ?_
          refine W.iconst K 106 d2_105 (1 : Int32) (by decide) ?_
          refine W.ishr K 107 d2_106 ?_
          refine W.istore K 109 d2_107 rfl (by repeat (first | apply setLS | exact setL0)) ?_
          refine W.iinc K 112 d2_109 (1 : Int32) (by decide) rfl (by repeat (first | apply setLS | exact setL0)) ?_
          refine W.goto K 164 d2_112 ?_
          refine W.goto K 50 d2_164 ?_
          exact ih ba da Bt _ (i + 1) _ _ _ _ hB hi1 (by omega) (by omega) (by rw [hcy2]; exact own_N_even hb1 hb2 hN hev) rfl rfl
  have L1 : ∀ (m k : Nat) (ba : Addr) (Bt : Nat → Int32) (iz : Int32), iz.toInt = (k : Int) → k + m = 256 → (∀ j, j < k → (Bt j).toInt = own_b F j) → (∀ j, k ≤ j → Bt j = 0) → WP X Z 2 522 (RetV fun v os' => ∃ (da : Addr) (D : Nat → Int32), v = .ref da ∧ os' = (da, ARR Z .byte (AF Value.int 257 D)) :: os ∧ own_E (own_b F) (fun j => (D j).toInt) V) 10 [.val (.ref sa), .val (.int wz), .val (.ref ba), .val (.int iz), .unset, .unset, .unset, .unset] [] ((ba, ARR Z .int (AF Value.int (259 + V) Bt)) :: os) 1 265 := by
    intro m
    induction m with
    | zero =>
      intro k ba Bt iz hk hm0 hB hZ0
      obtain rfl : k = 256 := by omega
      have hB2 : ∀ j, (Bt j).toInt = own_b F j := fun j => by
        by_cases hj : j < 256
        · exact hB j hj
        · rw [hZ0 j (by omega), hb2 j (by omega)]; decide
      refine W.iloadN K 11 d2_10 3 rfl rfl ?_
      refine W.sipush K 14 d2_11 (256 : Int32) (by decide) ?_
      refine W.icmp_ge K 38 17 d2_14 (fun h14 => ?_) (fun h14 => False.elim (by omega))
      refine W.sipush K 41 d2_38 (257 : Int32) (by decide) ?_
      refine W.newarray (ty := .byte) 257 257 K 43 d2_41 (hw _ (List.mem_of_getElem? (i := 1) rfl)) (by decide) (by decide) (fun da => ?_)
      rw [AF_repB]
      refine W.astoreN K 44 d2_43 3 rfl rfl rfl (by repeat (first | apply setLS | exact setL0)) ?_
      refine W.iconst K 45 d2_44 (0 : Int32) (by decide) ?_
      refine W.istore K 47 d2_45 rfl (by repeat (first | apply setLS | exact setL0)) ?_
      refine W.iconst K 48 d2_47 (0 : Int32) (by decide) ?_
      refine W.istore K 50 d2_48 rfl (by repeat (first | apply setLS | exact setL0)) ?_
      exact L2 264 ba da Bt _ 0 0 0 .unset .unset hB2 e0 (by omega) (by omega) (own_N0 _ _) rfl rfl
    | succ m ih =>
      intro k ba Bt iz hk hm0 hB hZ0
      have hk1 : (iz + 1).toInt = ((k + 1 : Nat) : Int) := by rw [toInt_add32 hk e1 (by omega) (by omega)]; omega
      have hbit := own_bit (F := F) hk (by omega)
      refine W.iloadN K 11 d2_10 3 rfl rfl ?_
      refine W.sipush K 14 d2_11 (256 : Int32) (by decide) ?_
      refine W.icmp_ge K 38 17 d2_14 (fun h14 => False.elim (by omega)) (fun h14 => ?_)
      refine W.aloadN K 18 d2_17 2 rfl rfl rfl ?_
      refine W.iloadN K 19 d2_18 3 rfl rfl ?_
      refine W.aloadN K 20 d2_19 0 rfl rfl rfl ?_
      refine W.iloadN K 21 d2_20 3 rfl rfl ?_
      refine W.iconst K 22 d2_21 (3 : Int32) (by decide) ?_
      refine W.ishr K 23 d2_22 ?_
      refine W.baload (k / 8) K 24 d2_23 (List.mem_cons_of_mem _ hm) (own_s3 hk) (AF_at (by omega)) ?_
      refine W.iloadN K 25 d2_24 3 rfl rfl ?_
      refine W.bipush K 27 d2_25 (7 : Int32) (by decide) ?_
      refine W.iand K 28 d2_27 ?_
      refine W.ishr K 29 d2_28 ?_
      refine W.iconst K 30 d2_29 (1 : Int32) (by decide) ?_
      refine W.iand K 31 d2_30 ?_
      refine W.iastore k K 32 d2_31 (by repeat (first | exact Upd.here | apply Upd.there)) hk (AF_at (by omega)) ?_
      rw [AF_set]
      refine W.iinc K 35 d2_32 (1 : Int32) (by decide) rfl (by repeat (first | apply setLS | exact setL0)) ?_
      refine W.goto K 10 d2_35 ?_
      exact ih (k + 1) ba _ _ hk1 (by omega) (fun j hj => by
          by_cases e : j = k
          · subst e; rw [updA_same]; exact hbit
          · rw [updA_ne _ _ e]; exact hB j (by omega)) (fun j hj => by rw [updA_ne _ _ (by omega)]; exact hZ0 j (by omega))
  refine W.sipush K 3 d2_0 (257 : Int32) (by decide) ?_
  refine W.iloadN K 4 d2_3 1 rfl rfl ?_
  refine W.iadd K 5 d2_4 ?_
  refine W.newarray (ty := .int) (259 + V) 265 K 7 d2_5 (hw _ (List.mem_of_getElem? (i := 10) rfl)) hn1 (by omega) (fun ba => ?_)
  rw [AF_repI]
  refine W.astoreN K 8 d2_7 2 rfl rfl rfl (by repeat (first | apply setLS | exact setL0)) ?_
  refine W.iconst K 9 d2_8 (0 : Int32) (by decide) ?_
  refine W.istoreN K 10 d2_9 3 rfl rfl (by repeat (first | apply setLS | exact setL0)) ?_
  exact L1 256 0 ba _ 0 e0 (by omega) (fun j hj => by omega) (fun j _ => rfl)
set_option maxRecDepth 65536 in
set_option maxHeartbeats 40000000 in
theorem spec_4 (l : Launch) (Z : State) (a0 : Array Value) (hw : ∀ d ∈ tables_1, d.before a0 Z = true) (da : Addr) (jz : Int32) (j : Nat) (hj : jz.toInt = (j : Int)) (D : Nat → Int32) (hD : ∀ i, 257 ≤ i → D i = 0) (os : OS) (hm : (da, ARR Z .byte (AF Value.int 257 D)) ∈ os) : OMeets l Z (⟨"com/example/usage_to_ledger/usagetoledger/verify/Scalar25519NonAdjacentFormPinLaw", "at", "([BI)I"⟩ : MethodName) method_4_code 2 (some .int) ({ frames := 0, cells := 0, slots := 0, locals := 0 } : Room) [(.ref da), (.int jz)] os (RetV fun v os' => v = .int (D j) ∧ os' = os) := by
  have e257 : (257 : Int32).toInt = 257 := by decide
  refine OMeets.of_body [.val (.ref da), .val (.int jz)] pn_4 (laid_eq _ _ rfl) ?_
  intro X K
  refine W.iloadN K 1 d4_0 1 rfl rfl ?_
  refine W.aloadN K 2 d4_1 0 rfl rfl rfl ?_
  refine W.arraylength (257 : Int32) K 3 d4_2 hm (by rw [AF_len]; rfl) ?_
  refine W.icmp_ge K 12 6 d4_3 (fun h3 => ?_) (fun h3 => ?_)
  · refine W.iconst K 13 d4_12 (0 : Int32) (by decide) ?_
    refine W.ireturn K d4_13 ⟨_, rfl, by rw [hD j (by omega)], rfl⟩
  · refine W.aloadN K 7 d4_6 0 rfl rfl rfl ?_
    refine W.iloadN K 8 d4_7 1 rfl rfl ?_
    refine W.baload j K 9 d4_8 hm hj (AF_at (by omega)) ?_
    refine W.goto K 13 d4_9 ?_
    refine W.ireturn K d4_13 ⟨_, rfl, rfl, rfl⟩
set_option maxRecDepth 65536 in
set_option maxHeartbeats 40000000 in
theorem spec_6 (l : Launch) (Z : State) (a0 : Array Value) (hw : ∀ d ∈ tables_1, d.before a0 Z = true) (d : Int32) (os : OS) : OMeets l Z (⟨"java/lang/Math", "abs", "(I)I"⟩ : MethodName) jdk_29_method_59_code 1 (some .int) ({ frames := 0, cells := 0, slots := 0, locals := 0 } : Room) [(.int d)] os (RetV fun v os' => v = .int (own_abs d) ∧ os' = os) := by
  refine OMeets.of_body [.val (.int d)] pn_6 (laid_eq _ _ rfl) ?_
  intro X K
  refine W.iloadN K 1 d6_0 0 rfl rfl ?_
  refine W.if_ge K 9 4 d6_1 (fun h1 => ?_) (fun h1 => ?_)
  · refine W.iloadN K 10 d6_9 0 rfl rfl ?_
    refine W.ireturn K d6_10 ⟨_, rfl, by unfold own_abs; rw [if_neg h1], rfl⟩
  · refine W.iloadN K 5 d6_4 0 rfl rfl ?_
    refine W.ineg K 6 d6_5 ?_
    refine W.goto K 10 d6_6 ?_
    refine W.ireturn K d6_10 ⟨_, rfl, by unfold own_abs; rw [if_pos h1], rfl⟩
set_option maxRecDepth 65536 in
set_option maxHeartbeats 40000000 in
theorem spec_5 (l : Launch) (Z : State) (a0 : Array Value) (hw : ∀ d ∈ tables_1, d.before a0 Z = true) (d wz : Int32) (V : Nat) (hw0 : wz.toInt = ((V + 2 : Nat) : Int)) (hV : V ≤ 6) (hd : d.toInt ≠ 0 → d.toInt % 2 = 1 ∧ -(2 * 2 ^ V) < d.toInt ∧ d.toInt < 2 * 2 ^ V) (os : OS) : OMeets l Z (⟨"com/example/usage_to_ledger/usagetoledger/verify/Scalar25519NonAdjacentFormPinLaw", "ok", "(II)Z"⟩ : MethodName) method_5_code 2 (some .boolean) ({ frames := 1, cells := 0, slots := 0, locals := 12 } : Room) [(.int d), (.int wz)] os (RetV fun v os' => v = .int 1 ∧ os' = os) := by
  have hp := own_pw hw0 hV
  have hq := own_pw6 hV
  have e0 : (0 : Int32).toInt = 0 := by decide
  refine OMeets.of_body [.val (.int d), .val (.int wz)] pn_5 (laid_eq _ _ rfl) ?_
  intro X K
  refine W.iloadN K 1 d5_0 0 rfl rfl ?_
  refine W.if_eq K 22 4 d5_1 (fun h1 => ?_) (fun h1 => ?_)
  · refine W.iconst K 23 d5_22 (1 : Int32) (by decide) ?_
    refine W.goto K 27 d5_23 ?_
    refine W.zreturn K d5_27 (Or.inr rfl) ⟨_, rfl, rfl, rfl⟩
  · have hd2 := hd (fun h => h1 (Int32.toInt_inj.mp (h.trans e0.symm)))
    refine W.iloadN K 5 d5_4 0 rfl rfl ?_
    refine W.iconst K 6 d5_5 (1 : Int32) (by decide) ?_
    refine W.iand K 7 d5_6 ?_
    refine W.if_eq K 26 10 d5_7 (fun h7 => False.elim (by have q := congrArg Int32.toInt h7; have q2 := c_mask d 1 1 (by decide) (by decide); have q3 : ((2 ^ 1 : Nat) : Int) = 2 := (by decide); omega)) (fun h7 => ?_)
    refine W.iloadN K 11 d5_10 0 rfl rfl ?_
    refine W.callSv1 K 14 d5_11 (hw _ (List.mem_of_getElem? (i := 22) rfl)) (hw _ (List.mem_of_getElem? (i := 23) rfl)) (hw _ (List.mem_of_getElem? (i := 24) rfl)) (hw _ (List.mem_of_getElem? (i := 25) rfl)) pd_6 (spec_6 l Z a0 hw _ _) (fun v os1 hq => ?_)
    obtain ⟨rfl, rfl⟩ := hq
    refine W.iconst K 15 d5_14 (1 : Int32) (by decide) ?_
    refine W.iloadN K 16 d5_15 1 rfl rfl ?_
    refine W.iconst K 17 d5_16 (1 : Int32) (by decide) ?_
    refine W.isub K 18 d5_17 ?_
    refine W.ishl K 19 d5_18 ?_
    refine W.icmp_ge K 26 22 d5_19 (fun h19 => False.elim (by have q := own_abs_eq (d := d) (by omega) (by omega); split at q <;> omega)) (fun h19 => ?_)
    refine W.iconst K 23 d5_22 (1 : Int32) (by decide) ?_
    refine W.goto K 27 d5_23 ?_
    refine W.zreturn K d5_27 (Or.inr rfl) ⟨_, rfl, rfl, rfl⟩
set_option maxRecDepth 65536 in
set_option maxHeartbeats 40000000 in
theorem spec_7 (l : Launch) (Z : State) (a0 : Array Value) (hw : ∀ d ∈ tables_1, d.before a0 Z = true) (d : Int32) (os : OS) : OMeets l Z (⟨"com/example/usage_to_ledger/usagetoledger/verify/Scalar25519NonAdjacentFormPinLaw", "nz", "(I)I"⟩ : MethodName) method_6_code 1 (some .int) ({ frames := 0, cells := 0, slots := 0, locals := 0 } : Room) [(.int d)] os (RetV fun v os' => v = .int (own_nz d) ∧ os' = os) := by
  refine OMeets.of_body [.val (.int d)] pn_7 (laid_eq _ _ rfl) ?_
  intro X K
  refine W.iloadN K 1 d7_0 0 rfl rfl ?_
  refine W.if_eq K 8 4 d7_1 (fun h1 => ?_) (fun h1 => ?_)
  · refine W.iconst K 9 d7_8 (0 : Int32) (by decide) ?_
    refine W.ireturn K d7_9 ⟨_, rfl, by unfold own_nz; rw [if_pos h1], rfl⟩
  · refine W.iconst K 5 d7_4 (1 : Int32) (by decide) ?_
    refine W.goto K 9 d7_5 ?_
    refine W.ireturn K d7_9 ⟨_, rfl, by unfold own_nz; rw [if_neg h1], rfl⟩
set_option maxRecDepth 65536 in
set_option maxHeartbeats 40000000 in
theorem spec_8 (l : Launch) (Z : State) (a0 : Array Value) (hw : ∀ d ∈ tables_1, d.before a0 Z = true) (m wz : Int32) (h1x : (1 : Int32).toInt < wz.toInt → m &&& ((m.toUInt32 >>> ((1 : Int32) &&& 31).toUInt32).toInt32) = 0) (h2x : (2 : Int32).toInt < wz.toInt → m &&& ((m.toUInt32 >>> ((2 : Int32) &&& 31).toUInt32).toInt32) = 0) (h3x : (3 : Int32).toInt < wz.toInt → m &&& ((m.toUInt32 >>> ((3 : Int32) &&& 31).toUInt32).toInt32) = 0) (h4x : (4 : Int32).toInt < wz.toInt → m &&& ((m.toUInt32 >>> ((4 : Int32) &&& 31).toUInt32).toInt32) = 0) (h5x : (5 : Int32).toInt < wz.toInt → m &&& ((m.toUInt32 >>> ((5 : Int32) &&& 31).toUInt32).toInt32) = 0) (h6x : (6 : Int32).toInt < wz.toInt → m &&& ((m.toUInt32 >>> ((6 : Int32) &&& 31).toUInt32).toInt32) = 0) (h7x : (7 : Int32).toInt < wz.toInt → m &&& ((m.toUInt32 >>> ((7 : Int32) &&& 31).toUInt32).toInt32) = 0) (os : OS) : OMeets l Z (⟨"com/example/usage_to_ledger/usagetoledger/verify/Scalar25519NonAdjacentFormPinLaw", "sparse", "(II)Z"⟩ : MethodName) method_7_code 2 (some .boolean) ({ frames := 0, cells := 0, slots := 0, locals := 0 } : Room) [(.int m), (.int wz)] os (RetV fun v os' => v = .int 1 ∧ os' = os) := by
  refine OMeets.of_body [.val (.int m), .val (.int wz)] pn_8 (laid_eq _ _ rfl) ?_
  intro X K
  refine W.cut0 (S := []) 15 (fun k => ?_) ?_
  · refine W.iconst K 1 d8_0 (1 : Int32) (by decide) ?_
    refine W.iloadN K 2 d8_1 1 rfl rfl ?_
    refine W.icmp_ge K 15 5 d8_2 (fun h2 => ?_) (fun h2 => ?_)
    · exact k
    · refine W.iloadN K 6 d8_5 0 rfl rfl ?_
      refine W.iloadN K 7 d8_6 0 rfl rfl ?_
      refine W.iconst K 8 d8_7 (1 : Int32) (by decide) ?_
      refine W.iushr K 9 d8_8 ?_
      refine W.iand K 10 d8_9 ?_
      refine W.if_eq K 15 13 d8_10 (fun h10 => ?_) (fun h10 => False.elim (h10 (h1x h2)))
      exact k
  refine W.cut0 (S := []) 30 (fun k => ?_) ?_
  · refine W.iconst K 16 d8_15 (2 : Int32) (by decide) ?_
    refine W.iloadN K 17 d8_16 1 rfl rfl ?_
    refine W.icmp_ge K 30 20 d8_17 (fun h17 => ?_) (fun h17 => ?_)
    · exact k
    · refine W.iloadN K 21 d8_20 0 rfl rfl ?_
      refine W.iloadN K 22 d8_21 0 rfl rfl ?_
      refine W.iconst K 23 d8_22 (2 : Int32) (by decide) ?_
      refine W.iushr K 24 d8_23 ?_
      refine W.iand K 25 d8_24 ?_
      refine W.if_eq K 30 28 d8_25 (fun h25 => ?_) (fun h25 => False.elim (h25 (h2x h17)))
      exact k
  refine W.cut0 (S := []) 45 (fun k => ?_) ?_
  · refine W.iconst K 31 d8_30 (3 : Int32) (by decide) ?_
    refine W.iloadN K 32 d8_31 1 rfl rfl ?_
    refine W.icmp_ge K 45 35 d8_32 (fun h32 => ?_) (fun h32 => ?_)
    · exact k
    · refine W.iloadN K 36 d8_35 0 rfl rfl ?_
      refine W.iloadN K 37 d8_36 0 rfl rfl ?_
      refine W.iconst K 38 d8_37 (3 : Int32) (by decide) ?_
      refine W.iushr K 39 d8_38 ?_
      refine W.iand K 40 d8_39 ?_
      refine W.if_eq K 45 43 d8_40 (fun h40 => ?_) (fun h40 => False.elim (h40 (h3x h32)))
      exact k
  refine W.cut0 (S := []) 60 (fun k => ?_) ?_
  · refine W.iconst K 46 d8_45 (4 : Int32) (by decide) ?_
    refine W.iloadN K 47 d8_46 1 rfl rfl ?_
    refine W.icmp_ge K 60 50 d8_47 (fun h47 => ?_) (fun h47 => ?_)
    · exact k
    · refine W.iloadN K 51 d8_50 0 rfl rfl ?_
      refine W.iloadN K 52 d8_51 0 rfl rfl ?_
      refine W.iconst K 53 d8_52 (4 : Int32) (by decide) ?_
      refine W.iushr K 54 d8_53 ?_
      refine W.iand K 55 d8_54 ?_
      refine W.if_eq K 60 58 d8_55 (fun h55 => ?_) (fun h55 => False.elim (h55 (h4x h47)))
      exact k
  refine W.cut0 (S := []) 75 (fun k => ?_) ?_
  · refine W.iconst K 61 d8_60 (5 : Int32) (by decide) ?_
    refine W.iloadN K 62 d8_61 1 rfl rfl ?_
    refine W.icmp_ge K 75 65 d8_62 (fun h62 => ?_) (fun h62 => ?_)
    · exact k
    · refine W.iloadN K 66 d8_65 0 rfl rfl ?_
      refine W.iloadN K 67 d8_66 0 rfl rfl ?_
      refine W.iconst K 68 d8_67 (5 : Int32) (by decide) ?_
      refine W.iushr K 69 d8_68 ?_
      refine W.iand K 70 d8_69 ?_
      refine W.if_eq K 75 73 d8_70 (fun h70 => ?_) (fun h70 => False.elim (h70 (h5x h62)))
      exact k
  refine W.cut0 (S := []) 92 (fun k => ?_) ?_
  · refine W.bipush K 77 d8_75 (6 : Int32) (by decide) ?_
    refine W.iloadN K 78 d8_77 1 rfl rfl ?_
    refine W.icmp_ge K 92 81 d8_78 (fun h78 => ?_) (fun h78 => ?_)
    · exact k
    · refine W.iloadN K 82 d8_81 0 rfl rfl ?_
      refine W.iloadN K 83 d8_82 0 rfl rfl ?_
      refine W.bipush K 85 d8_83 (6 : Int32) (by decide) ?_
      refine W.iushr K 86 d8_85 ?_
      refine W.iand K 87 d8_86 ?_
      refine W.if_eq K 92 90 d8_87 (fun h87 => ?_) (fun h87 => False.elim (h87 (h6x h78)))
      exact k
  refine W.cut0 (S := []) 109 (fun k => ?_) ?_
  · refine W.bipush K 94 d8_92 (7 : Int32) (by decide) ?_
    refine W.iloadN K 95 d8_94 1 rfl rfl ?_
    refine W.icmp_ge K 109 98 d8_95 (fun h95 => ?_) (fun h95 => ?_)
    · exact k
    · refine W.iloadN K 99 d8_98 0 rfl rfl ?_
      refine W.iloadN K 100 d8_99 0 rfl rfl ?_
      refine W.bipush K 102 d8_100 (7 : Int32) (by decide) ?_
      refine W.iushr K 103 d8_102 ?_
      refine W.iand K 104 d8_103 ?_
      refine W.if_eq K 109 107 d8_104 (fun h104 => ?_) (fun h104 => False.elim (h104 (h7x h95)))
      exact k
  refine W.iconst K 110 d8_109 (1 : Int32) (by decide) ?_
  refine W.zreturn K d8_110 (Or.inr rfl) ⟨_, rfl, rfl, rfl⟩
theorem own_step {F D : Nat → Int32} {V k : Nat} {s : Int} {mz : Int32} {sum : Int64} (hV : V ≤ 6) (E : own_E (own_b F) (fun j => (D j).toInt) V) (hk : k < 33) (hs : own_B (fun j => (D j).toInt) (8 * k) = own_B (own_b F) (8 * k) + s * 2 ^ (8 * k)) (s1 : -128 ≤ s) (s2 : s ≤ 128) {sd sb : Int}
    (hsd : sd = (D (8 * k)).toInt + 2 * (D (8 * k + 1)).toInt + 4 * (D (8 * k + 2)).toInt + 8 * (D (8 * k + 3)).toInt + 16 * (D (8 * k + 4)).toInt + 32 * (D (8 * k + 5)).toInt + 64 * (D (8 * k + 6)).toInt + 128 * (D (8 * k + 7)).toInt)
    (hsb : sb = own_b F (8 * k) + 2 * own_b F (8 * k + 1) + 4 * own_b F (8 * k + 2) + 8 * own_b F (8 * k + 3) + 16 * own_b F (8 * k + 4) + 32 * own_b F (8 * k + 5) + 64 * own_b F (8 * k + 6) + 128 * own_b F (8 * k + 7))
    (hsum : sum.toInt = s + sd) (r1 : -32768 ≤ sum.toInt) (r2 : sum.toInt < 32768) (m0 : 0 ≤ mz.toInt) (m1 : mz.toInt < 256) (mb : ∀ t, mz.toBitVec.getLsbD t = true → t < 8 ∧ (D (8 * k + t)).toInt ≠ 0) :
    sum.toInt % 256 = sb ∧ own_P (own_b F) (fun j => (D j).toInt) (k + 1) (((sum >>> ((8 : Int32) &&& 0x3f).toInt64) <<< ((16 : Int32) &&& 0x3f).toInt64) ||| mz.toInt64) := by
  obtain ⟨t, ht, hB⟩ := own_E_step E hk hs hsd hsb
  have b0 := own_b01 F (8 * k)
  have c0 : 0 ≤ sb ∧ sb < 256 := by
    have q : ∀ j, 0 ≤ own_b F j ∧ own_b F j ≤ 1 := fun j => by rcases own_b01 F j with h | h <;> omega
    have := q (8 * k); have := q (8 * k + 1); have := q (8 * k + 2); have := q (8 * k + 3); have := q (8 * k + 4); have := q (8 * k + 5); have := q (8 * k + 6); have := q (8 * k + 7)
    clear b0
    omega
  have hmod : sum.toInt % 256 = sb := by omega
  refine ⟨hmod, t, mz, own_acc_n (by omega) (by omega) (by omega) m0 m1, by omega, by omega, m0, m1, hB, fun i hi => ?_⟩
  obtain ⟨q1, q2⟩ := mb i hi
  exact ⟨q1, by omega, by rw [show 8 * (k + 1) + i - 8 = 8 * k + i by omega]; exact q2⟩
theorem own_bs32 (F : Nat → Int32) (k : Nat) (h : 32 ≤ k) (h2 : k < 33) : (0 : Int32).toInt = own_b F (8 * k) + 2 * own_b F (8 * k + 1) + 4 * own_b F (8 * k + 2) + 8 * own_b F (8 * k + 3) + 16 * own_b F (8 * k + 4) + 32 * own_b F (8 * k + 5) + 64 * own_b F (8 * k + 6) + 128 * own_b F (8 * k + 7) := by
  have q := own_b0 F
  rw [q (8 * k) (by omega), q (8 * k + 1) (by omega), q (8 * k + 2) (by omega), q (8 * k + 3) (by omega), q (8 * k + 4) (by omega), q (8 * k + 5) (by omega), q (8 * k + 6) (by omega), q (8 * k + 7) (by omega)]
  decide
theorem own_apart {b : Nat → Int} {D : Nat → Int32} {V k t e : Nat} (E : own_E b (fun j => (D j).toInt) V) (f1 : (1 ≤ k ∨ 8 ≤ t) ∧ (D (8 * k + t - 8)).toInt ≠ 0) (f2 : (1 ≤ k ∨ 8 ≤ t + e) ∧ (D (8 * k + (t + e) - 8)).toInt ≠ 0) (h : 1 ≤ e ∧ e < V + 2) : False := by
  have q := E.2.2.1 (8 * k + t - 8) (8 * k + (t + e) - 8) (by omega) f1.2 f2.2
  omega
theorem own_cmp {sum : Int64} {bz : Int32} {s sb sd : Int} (h1 : sum.toInt = s + sd) (h2 : bz.toInt = sb) (h3 : sum.toInt % 256 = sb) : sum &&& 255 = bz.toInt64 := by
  apply Int64.toInt_inj.mp
  rw [c_maskL sum 255 8 (by decide) (by decide), c_i2l, h2, ← h3]; rfl
set_option maxRecDepth 65536 in
set_option maxHeartbeats 40000000 in
theorem spec_3 (l : Launch) (Z : State) (a0 : Array Value) (hw : ∀ d ∈ tables_1, d.before a0 Z = true) (da sa : Addr) (kz wz : Int32) (acc : Int64) (k V : Nat) (hk : kz.toInt = (k : Int)) (hk33 : k < 33) (hw0 : wz.toInt = ((V + 2 : Nat) : Int)) (hV : V ≤ 6) (F D : Nat → Int32) (E : own_E (own_b F) (fun j => (D j).toInt) V) (P : (own_P (own_b F) (fun j => (D j).toInt) k acc)) (os : OS) (m1 : (da, ARR Z .byte (AF Value.int 257 D)) ∈ os) (m2 : (sa, ARR Z .byte (AF Value.int 32 F)) ∈ os) : OMeets l Z (⟨"com/example/usage_to_ledger/usagetoledger/verify/Scalar25519NonAdjacentFormPinLaw", "step", "([B[BIIJ)J"⟩ : MethodName) method_8_code 22 (some .long) ({ frames := 2, cells := 0, slots := 0, locals := 25 } : Room) [(.ref da), (.ref sa), (.int kz), (.int wz), (.long acc)] os (RetV fun v os' => ∃ ac : Int64, v = .long ac ∧ os' = os ∧ (own_P (own_b F) (fun j => (D j).toInt) (k + 1) ac)) := by
  have hne := own_P_ne P
  obtain ⟨s, pm, ha, s1, s2, p0, p1, hs, pb⟩ := P
  obtain ⟨hsz, hpm⟩ := own_acc_s ha p0 p1
  have hq := own_pw6 hV
  have e8 : (8 : Int32).toInt = 8 := by decide
  have e32 : (32 : Int32).toInt = 32 := by decide
  have hD : ∀ i, 257 ≤ i → D i = 0 := fun i hi => Classical.byContradiction fun h => absurd (E.2.2.2 i (fun q => h (Int32.toInt_inj.mp (q.trans (by decide))))) (by omega)
  have h8 : (8 * kz).toInt = ((8 * k : Nat) : Int) := by have q := c_imul 8 kz; have r := rng32 (8 * kz); rw [e8] at q; omega
  have e1j : (1 : Int32).toInt = 1 := by decide
  have h81 : (8 * kz + 1).toInt = ((8 * k + 1 : Nat) : Int) := by rw [toInt_add32 h8 e1j (by omega) (by omega)]; omega
  have e2j : (2 : Int32).toInt = 2 := by decide
  have h82 : (8 * kz + 2).toInt = ((8 * k + 2 : Nat) : Int) := by rw [toInt_add32 h8 e2j (by omega) (by omega)]; omega
  have e3j : (3 : Int32).toInt = 3 := by decide
  have h83 : (8 * kz + 3).toInt = ((8 * k + 3 : Nat) : Int) := by rw [toInt_add32 h8 e3j (by omega) (by omega)]; omega
  have e4j : (4 : Int32).toInt = 4 := by decide
  have h84 : (8 * kz + 4).toInt = ((8 * k + 4 : Nat) : Int) := by rw [toInt_add32 h8 e4j (by omega) (by omega)]; omega
  have e5j : (5 : Int32).toInt = 5 := by decide
  have h85 : (8 * kz + 5).toInt = ((8 * k + 5 : Nat) : Int) := by rw [toInt_add32 h8 e5j (by omega) (by omega)]; omega
  have e6j : (6 : Int32).toInt = 6 := by decide
  have h86 : (8 * kz + 6).toInt = ((8 * k + 6 : Nat) : Int) := by rw [toInt_add32 h8 e6j (by omega) (by omega)]; omega
  have e7j : (7 : Int32).toInt = 7 := by decide
  have h87 : (8 * kz + 7).toInt = ((8 * k + 7 : Nat) : Int) := by rw [toInt_add32 h8 e7j (by omega) (by omega)]; omega
  have hdr : ∀ j, -128 < (D j).toInt ∧ (D j).toInt < 128 := fun j => by
    by_cases h : (D j).toInt = 0
    · omega
    · have q : (D j).toInt % 2 = 1 ∧ -(2 * 2 ^ V) < (D j).toInt ∧ (D j).toInt < 2 * 2 ^ V := E.2.1 j h
      omega
  refine OMeets.of_body [.val (.ref da), .val (.ref sa), .val (.int kz), .val (.int wz), .val (.long acc), .second, .unset, .unset, .unset, .unset, .unset, .unset, .unset, .unset, .unset, .unset, .unset, .unset, .unset, .unset, .unset, .unset] pn_3 (laid_eq _ _ rfl) ?_
  intro X K
  refine W.lload K 2 d3_0 rfl ?_
  refine W.ldc2 K 5 d3_2 (hw _ (List.mem_of_getElem? (i := 14) rfl)) ?_
  refine W.lcmp_ne K 6 12 9 d3_5 d3_6 (fun h6 => ?_) (fun h6 => False.elim (hne h6))
  refine W.lload K 14 d3_12 rfl ?_
  refine W.bipush K 16 d3_14 (16 : Int32) (by decide) ?_
  refine W.lshr K 17 d3_16 ?_
  refine W.lstore K 19 d3_17 (by repeat (first | apply setLS | exact setL0)) (by repeat (first | apply setLS | exact setL0)) ?_
  refine W.lload K 21 d3_19 rfl ?_
  refine W.ldc2 K 24 d3_21 (hw _ (List.mem_of_getElem? (i := 15) rfl)) ?_
  refine W.land K 25 d3_24 ?_
  refine W.l2i K 26 d3_25 ?_
  rw [hpm]
  refine W.istore K 28 d3_26 rfl (by repeat (first | apply setLS | exact setL0)) ?_
  refine W.bipush K 30 d3_28 (8 : Int32) (by decide) ?_
  refine W.iloadN K 31 d3_30 2 rfl rfl ?_
  refine W.imul K 32 d3_31 ?_
  refine W.istore K 34 d3_32 rfl (by repeat (first | apply setLS | exact setL0)) ?_
  refine W.aloadN K 35 d3_34 0 rfl rfl rfl ?_
  refine W.iload K 37 d3_35 rfl ?_
  refine W.callSv2 K 40 d3_37 (hw _ (List.mem_of_getElem? (i := 16) rfl)) (hw _ (List.mem_of_getElem? (i := 17) rfl)) (hw _ (List.mem_of_getElem? (i := 4) rfl)) (hw _ (List.mem_of_getElem? (i := 18) rfl)) pd_4 (spec_4 l Z a0 hw da _ (8 * k) h8 D hD _ m1) (fun v os1 hq => ?_)
  obtain ⟨rfl, rfl⟩ := hq
  refine W.istore K 42 d3_40 rfl (by repeat (first | apply setLS | exact setL0)) ?_
  refine W.aloadN K 43 d3_42 0 rfl rfl rfl ?_
  refine W.iload K 45 d3_43 rfl ?_
  refine W.iconst K 46 d3_45 (1 : Int32) (by decide) ?_
  refine W.iadd K 47 d3_46 ?_
  refine W.callSv2 K 50 d3_47 (hw _ (List.mem_of_getElem? (i := 16) rfl)) (hw _ (List.mem_of_getElem? (i := 17) rfl)) (hw _ (List.mem_of_getElem? (i := 4) rfl)) (hw _ (List.mem_of_getElem? (i := 18) rfl)) pd_4 (spec_4 l Z a0 hw da _ (8 * k + 1) h81 D hD _ m1) (fun v os1 hq => ?_)
  obtain ⟨rfl, rfl⟩ := hq
  refine W.istore K 52 d3_50 rfl (by repeat (first | apply setLS | exact setL0)) ?_
  refine W.aloadN K 53 d3_52 0 rfl rfl rfl ?_
  refine W.iload K 55 d3_53 rfl ?_
  refine W.iconst K 56 d3_55 (2 : Int32) (by decide) ?_
  refine W.iadd K 57 d3_56 ?_
  refine W.callSv2 K 60 d3_57 (hw _ (List.mem_of_getElem? (i := 16) rfl)) (hw _ (List.mem_of_getElem? (i := 17) rfl)) (hw _ (List.mem_of_getElem? (i := 4) rfl)) (hw _ (List.mem_of_getElem? (i := 18) rfl)) pd_4 (spec_4 l Z a0 hw da _ (8 * k + 2) h82 D hD _ m1) (fun v os1 hq => ?_)
  obtain ⟨rfl, rfl⟩ := hq
  refine W.istore K 62 d3_60 rfl (by repeat (first | apply setLS | exact setL0)) ?_
  refine W.aloadN K 63 d3_62 0 rfl rfl rfl ?_
  refine W.iload K 65 d3_63 rfl ?_
  refine W.iconst K 66 d3_65 (3 : Int32) (by decide) ?_
  refine W.iadd K 67 d3_66 ?_
  refine W.callSv2 K 70 d3_67 (hw _ (List.mem_of_getElem? (i := 16) rfl)) (hw _ (List.mem_of_getElem? (i := 17) rfl)) (hw _ (List.mem_of_getElem? (i := 4) rfl)) (hw _ (List.mem_of_getElem? (i := 18) rfl)) pd_4 (spec_4 l Z a0 hw da _ (8 * k + 3) h83 D hD _ m1) (fun v os1 hq => ?_)
  obtain ⟨rfl, rfl⟩ := hq
  refine W.istore K 72 d3_70 rfl (by repeat (first | apply setLS | exact setL0)) ?_
  refine W.aloadN K 73 d3_72 0 rfl rfl rfl ?_
  refine W.iload K 75 d3_73 rfl ?_
  refine W.iconst K 76 d3_75 (4 : Int32) (by decide) ?_
  refine W.iadd K 77 d3_76 ?_
  refine W.callSv2 K 80 d3_77 (hw _ (List.mem_of_getElem? (i := 16) rfl)) (hw _ (List.mem_of_getElem? (i := 17) rfl)) (hw _ (List.mem_of_getElem? (i := 4) rfl)) (hw _ (List.mem_of_getElem? (i := 18) rfl)) pd_4 (spec_4 l Z a0 hw da _ (8 * k + 4) h84 D hD _ m1) (fun v os1 hq => ?_)
  obtain ⟨rfl, rfl⟩ := hq
  refine W.istore K 82 d3_80 rfl (by repeat (first | apply setLS | exact setL0)) ?_
  refine W.aloadN K 83 d3_82 0 rfl rfl rfl ?_
  refine W.iload K 85 d3_83 rfl ?_
  refine W.iconst K 86 d3_85 (5 : Int32) (by decide) ?_
  refine W.iadd K 87 d3_86 ?_
  refine W.callSv2 K 90 d3_87 (hw _ (List.mem_of_getElem? (i := 16) rfl)) (hw _ (List.mem_of_getElem? (i := 17) rfl)) (hw _ (List.mem_of_getElem? (i := 4) rfl)) (hw _ (List.mem_of_getElem? (i := 18) rfl)) pd_4 (spec_4 l Z a0 hw da _ (8 * k + 5) h85 D hD _ m1) (fun v os1 hq => ?_)
  obtain ⟨rfl, rfl⟩ := hq
  refine W.istore K 92 d3_90 rfl (by repeat (first | apply setLS | exact setL0)) ?_
  refine W.aloadN K 93 d3_92 0 rfl rfl rfl ?_
  refine W.iload K 95 d3_93 rfl ?_
  refine W.bipush K 97 d3_95 (6 : Int32) (by decide) ?_
  refine W.iadd K 98 d3_97 ?_
  refine W.callSv2 K 101 d3_98 (hw _ (List.mem_of_getElem? (i := 16) rfl)) (hw _ (List.mem_of_getElem? (i := 17) rfl)) (hw _ (List.mem_of_getElem? (i := 4) rfl)) (hw _ (List.mem_of_getElem? (i := 18) rfl)) pd_4 (spec_4 l Z a0 hw da _ (8 * k + 6) h86 D hD _ m1) (fun v os1 hq => ?_)
  obtain ⟨rfl, rfl⟩ := hq
  refine W.istore K 103 d3_101 rfl (by repeat (first | apply setLS | exact setL0)) ?_
  refine W.aloadN K 104 d3_103 0 rfl rfl rfl ?_
  refine W.iload K 106 d3_104 rfl ?_
  refine W.bipush K 108 d3_106 (7 : Int32) (by decide) ?_
  refine W.iadd K 109 d3_108 ?_
  refine W.callSv2 K 112 d3_109 (hw _ (List.mem_of_getElem? (i := 16) rfl)) (hw _ (List.mem_of_getElem? (i := 17) rfl)) (hw _ (List.mem_of_getElem? (i := 4) rfl)) (hw _ (List.mem_of_getElem? (i := 18) rfl)) pd_4 (spec_4 l Z a0 hw da _ (8 * k + 7) h87 D hD _ m1) (fun v os1 hq => ?_)
  obtain ⟨rfl, rfl⟩ := hq
  refine W.istore K 114 d3_112 rfl (by repeat (first | apply setLS | exact setL0)) ?_
  refine W.iload K 116 d3_114 rfl ?_
  refine W.iloadN K 117 d3_116 3 rfl rfl ?_
  refine W.callSv2 K 120 d3_117 (hw _ (List.mem_of_getElem? (i := 19) rfl)) (hw _ (List.mem_of_getElem? (i := 20) rfl)) (hw _ (List.mem_of_getElem? (i := 4) rfl)) (hw _ (List.mem_of_getElem? (i := 21) rfl)) pd_5 (spec_5 l Z a0 hw _ wz V hw0 hV (fun h => E.2.1 _ h) _) (fun v os1 hq => ?_)
  obtain ⟨rfl, rfl⟩ := hq
  refine W.if_eq K 186 123 d3_120 (fun h120 => False.elim (absurd h120 (by decide))) (fun h120 => ?_)
  refine W.iload K 125 d3_123 rfl ?_
  refine W.iloadN K 126 d3_125 3 rfl rfl ?_
  refine W.callSv2 K 129 d3_126 (hw _ (List.mem_of_getElem? (i := 19) rfl)) (hw _ (List.mem_of_getElem? (i := 20) rfl)) (hw _ (List.mem_of_getElem? (i := 4) rfl)) (hw _ (List.mem_of_getElem? (i := 21) rfl)) pd_5 (spec_5 l Z a0 hw _ wz V hw0 hV (fun h => E.2.1 _ h) _) (fun v os1 hq => ?_)
  obtain ⟨rfl, rfl⟩ := hq
  refine W.if_eq K 186 132 d3_129 (fun h129 => False.elim (absurd h129 (by decide))) (fun h129 => ?_)
  refine W.iload K 134 d3_132 rfl ?_
  refine W.iloadN K 135 d3_134 3 rfl rfl ?_
  refine W.callSv2 K 138 d3_135 (hw _ (List.mem_of_getElem? (i := 19) rfl)) (hw _ (List.mem_of_getElem? (i := 20) rfl)) (hw _ (List.mem_of_getElem? (i := 4) rfl)) (hw _ (List.mem_of_getElem? (i := 21) rfl)) pd_5 (spec_5 l Z a0 hw _ wz V hw0 hV (fun h => E.2.1 _ h) _) (fun v os1 hq => ?_)
  obtain ⟨rfl, rfl⟩ := hq
  refine W.if_eq K 186 141 d3_138 (fun h138 => False.elim (absurd h138 (by decide))) (fun h138 => ?_)
  refine W.iload K 143 d3_141 rfl ?_
  refine W.iloadN K 144 d3_143 3 rfl rfl ?_
  refine W.callSv2 K 147 d3_144 (hw _ (List.mem_of_getElem? (i := 19) rfl)) (hw _ (List.mem_of_getElem? (i := 20) rfl)) (hw _ (List.mem_of_getElem? (i := 4) rfl)) (hw _ (List.mem_of_getElem? (i := 21) rfl)) pd_5 (spec_5 l Z a0 hw _ wz V hw0 hV (fun h => E.2.1 _ h) _) (fun v os1 hq => ?_)
  obtain ⟨rfl, rfl⟩ := hq
  refine W.if_eq K 186 150 d3_147 (fun h147 => False.elim (absurd h147 (by decide))) (fun h147 => ?_)
  refine W.iload K 152 d3_150 rfl ?_
  refine W.iloadN K 153 d3_152 3 rfl rfl ?_
  refine W.callSv2 K 156 d3_153 (hw _ (List.mem_of_getElem? (i := 19) rfl)) (hw _ (List.mem_of_getElem? (i := 20) rfl)) (hw _ (List.mem_of_getElem? (i := 4) rfl)) (hw _ (List.mem_of_getElem? (i := 21) rfl)) pd_5 (spec_5 l Z a0 hw _ wz V hw0 hV (fun h => E.2.1 _ h) _) (fun v os1 hq => ?_)
  obtain ⟨rfl, rfl⟩ := hq
  refine W.if_eq K 186 159 d3_156 (fun h156 => False.elim (absurd h156 (by decide))) (fun h156 => ?_)
  refine W.iload K 161 d3_159 rfl ?_
  refine W.iloadN K 162 d3_161 3 rfl rfl ?_
  refine W.callSv2 K 165 d3_162 (hw _ (List.mem_of_getElem? (i := 19) rfl)) (hw _ (List.mem_of_getElem? (i := 20) rfl)) (hw _ (List.mem_of_getElem? (i := 4) rfl)) (hw _ (List.mem_of_getElem? (i := 21) rfl)) pd_5 (spec_5 l Z a0 hw _ wz V hw0 hV (fun h => E.2.1 _ h) _) (fun v os1 hq => ?_)
  obtain ⟨rfl, rfl⟩ := hq
  refine W.if_eq K 186 168 d3_165 (fun h165 => False.elim (absurd h165 (by decide))) (fun h165 => ?_)
  refine W.iload K 170 d3_168 rfl ?_
  refine W.iloadN K 171 d3_170 3 rfl rfl ?_
  refine W.callSv2 K 174 d3_171 (hw _ (List.mem_of_getElem? (i := 19) rfl)) (hw _ (List.mem_of_getElem? (i := 20) rfl)) (hw _ (List.mem_of_getElem? (i := 4) rfl)) (hw _ (List.mem_of_getElem? (i := 21) rfl)) pd_5 (spec_5 l Z a0 hw _ wz V hw0 hV (fun h => E.2.1 _ h) _) (fun v os1 hq => ?_)
  obtain ⟨rfl, rfl⟩ := hq
  refine W.if_eq K 186 177 d3_174 (fun h174 => False.elim (absurd h174 (by decide))) (fun h174 => ?_)
  refine W.iload K 179 d3_177 rfl ?_
  refine W.iloadN K 180 d3_179 3 rfl rfl ?_
  refine W.callSv2 K 183 d3_180 (hw _ (List.mem_of_getElem? (i := 19) rfl)) (hw _ (List.mem_of_getElem? (i := 20) rfl)) (hw _ (List.mem_of_getElem? (i := 4) rfl)) (hw _ (List.mem_of_getElem? (i := 21) rfl)) pd_5 (spec_5 l Z a0 hw _ wz V hw0 hV (fun h => E.2.1 _ h) _) (fun v os1 hq => ?_)
  obtain ⟨rfl, rfl⟩ := hq
  refine W.if_ne K 190 186 d3_183 (fun h183 => ?_) (fun h183 => False.elim (absurd h183 (by decide)))
  refine W.lload K 192 d3_190 rfl ?_
  refine W.iload K 194 d3_192 rfl ?_
  refine W.i2l K 195 d3_194 ?_
  refine W.ladd K 196 d3_195 ?_
  refine W.ldc2 K 199 d3_196 (hw _ (List.mem_of_getElem? (i := 26) rfl)) ?_
  refine W.iload K 201 d3_199 rfl ?_
  refine W.i2l K 202 d3_201 ?_
  refine W.lmul K 203 d3_202 ?_
  refine W.ladd K 204 d3_203 ?_
  refine W.ldc2 K 207 d3_204 (hw _ (List.mem_of_getElem? (i := 27) rfl)) ?_
  refine W.iload K 209 d3_207 rfl ?_
  refine W.i2l K 210 d3_209 ?_
  refine W.lmul K 211 d3_210 ?_
  refine W.ladd K 212 d3_211 ?_
  refine W.ldc2 K 215 d3_212 (hw _ (List.mem_of_getElem? (i := 28) rfl)) ?_
  refine W.iload K 217 d3_215 rfl ?_
  refine W.i2l K 218 d3_217 ?_
  refine W.lmul K 219 d3_218 ?_
  refine W.ladd K 220 d3_219 ?_
  refine W.ldc2 K 223 d3_220 (hw _ (List.mem_of_getElem? (i := 29) rfl)) ?_
  refine W.iload K 225 d3_223 rfl ?_
  refine W.i2l K 226 d3_225 ?_
  refine W.lmul K 227 d3_226 ?_
  refine W.ladd K 228 d3_227 ?_
  refine W.ldc2 K 231 d3_228 (hw _ (List.mem_of_getElem? (i := 30) rfl)) ?_
  refine W.iload K 233 d3_231 rfl ?_
  refine W.i2l K 234 d3_233 ?_
  refine W.lmul K 235 d3_234 ?_
  refine W.ladd K 236 d3_235 ?_
  refine W.ldc2 K 239 d3_236 (hw _ (List.mem_of_getElem? (i := 31) rfl)) ?_
  refine W.iload K 241 d3_239 rfl ?_
  refine W.i2l K 242 d3_241 ?_
  refine W.lmul K 243 d3_242 ?_
  refine W.ladd K 244 d3_243 ?_
  refine W.ldc2 K 247 d3_244 (hw _ (List.mem_of_getElem? (i := 32) rfl)) ?_
  refine W.iload K 249 d3_247 rfl ?_
  refine W.i2l K 250 d3_249 ?_
  refine W.lmul K 251 d3_250 ?_
  refine W.ladd K 252 d3_251 ?_
  have hlin := own_lin (s := acc >>> ((16 : Int32) &&& 0x3f).toInt64) (d0 := D (8 * k)) (d1 := D (8 * k + 1)) (d2 := D (8 * k + 2)) (d3 := D (8 * k + 3)) (d4 := D (8 * k + 4)) (d5 := D (8 * k + 5)) (d6 := D (8 * k + 6)) (d7 := D (8 * k + 7)) (by rw [hsz]; omega) (hdr _) (hdr _) (hdr _) (hdr _) (hdr _) (hdr _) (hdr _) (hdr _)
  rw [hsz] at hlin
  generalize hSS : ((((((((acc >>> ((16 : Int32) &&& 0x3f).toInt64) + (D (8 * k)).toInt64 + 2 * (D (8 * k + 1)).toInt64) + 4 * (D (8 * k + 2)).toInt64) + 8 * (D (8 * k + 3)).toInt64) + 16 * (D (8 * k + 4)).toInt64) + 32 * (D (8 * k + 5)).toInt64) + 64 * (D (8 * k + 6)).toInt64) + 128 * (D (8 * k + 7)).toInt64) = sum at hlin ⊢
  obtain ⟨l1, l2, l3⟩ := hlin
  refine W.lstore K 254 d3_252 (by repeat (first | apply setLS | exact setL0)) (by repeat (first | apply setLS | exact setL0)) ?_
  refine W.cutS (S := []) (G := fun v => ∃ bz : Int32, v = .int bz ∧ bz.toInt = own_b F (8 * k) + 2 * own_b F (8 * k + 1) + 4 * own_b F (8 * k + 2) + 8 * own_b F (8 * k + 3) + 16 * own_b F (8 * k + 4) + 32 * own_b F (8 * k + 5) + 64 * own_b F (8 * k + 6) + 128 * own_b F (8 * k + 7)) 271 (fun kk => ?_) ?_
  · refine W.iloadN K 255 d3_254 2 rfl rfl ?_
    refine W.bipush K 257 d3_255 (32 : Int32) (by decide) ?_
    refine W.icmp_ge K 270 260 d3_257 (fun h257 => ?_) (fun h257 => ?_)
    · refine W.iconst K 271 d3_270 (0 : Int32) (by decide) ?_
      exact kk _ ⟨_, rfl, own_bs32 F k (by omega) (by omega)⟩
    · refine W.aloadN K 261 d3_260 1 rfl rfl rfl ?_
      refine W.iloadN K 262 d3_261 2 rfl rfl ?_
      refine W.baload k K 263 d3_262 m2 hk (AF_at (by omega)) ?_
      refine W.sipush K 266 d3_263 (255 : Int32) (by decide) ?_
      refine W.iand K 267 d3_266 ?_
      refine W.goto K 271 d3_267 ?_
      exact kk _ ⟨_, rfl, by rw [c_mask (F k) 255 8 (by decide) (by decide)]; exact own_bsum F k (by omega)⟩
  intro v ⟨bz, ev, hbz⟩
  subst ev
  refine W.istore K 273 d3_271 rfl (by repeat (first | apply setLS | exact setL0)) ?_
  obtain ⟨hmod, -⟩ := own_step hV E hk33 hs s1 s2 rfl rfl l1 l2 l3 (mz := 0) (by decide) (by decide) (fun t h => by rw [show (0 : Int32).toBitVec = 0#32 from rfl, BitVec.getLsbD_zero] at h; cases h)
  refine W.lload K 275 d3_273 rfl ?_
  refine W.ldc2 K 278 d3_275 (hw _ (List.mem_of_getElem? (i := 15) rfl)) ?_
  refine W.land K 279 d3_278 ?_
  refine W.iload K 281 d3_279 rfl ?_
  refine W.i2l K 282 d3_281 ?_
  refine W.lcmp_eq K 283 290 286 d3_282 d3_283 (fun h283 => ?_) (fun h283 => False.elim (h283 (own_cmp l1 hbz hmod)))
  refine W.iload K 292 d3_290 rfl ?_
  refine W.callSv1 K 295 d3_292 (hw _ (List.mem_of_getElem? (i := 33) rfl)) (hw _ (List.mem_of_getElem? (i := 34) rfl)) (hw _ (List.mem_of_getElem? (i := 4) rfl)) (hw _ (List.mem_of_getElem? (i := 35) rfl)) pd_7 (spec_7 l Z a0 hw _ _) (fun v os1 hq => ?_)
  obtain ⟨rfl, rfl⟩ := hq
  refine W.iload K 297 d3_295 rfl ?_
  refine W.callSv1 K 300 d3_297 (hw _ (List.mem_of_getElem? (i := 33) rfl)) (hw _ (List.mem_of_getElem? (i := 34) rfl)) (hw _ (List.mem_of_getElem? (i := 4) rfl)) (hw _ (List.mem_of_getElem? (i := 35) rfl)) pd_7 (spec_7 l Z a0 hw _ _) (fun v os1 hq => ?_)
  obtain ⟨rfl, rfl⟩ := hq
  refine W.iconst K 301 d3_300 (1 : Int32) (by decide) ?_
  refine W.ishl K 302 d3_301 ?_
  refine W.ior K 303 d3_302 ?_
  refine W.iload K 305 d3_303 rfl ?_
  refine W.callSv1 K 308 d3_305 (hw _ (List.mem_of_getElem? (i := 33) rfl)) (hw _ (List.mem_of_getElem? (i := 34) rfl)) (hw _ (List.mem_of_getElem? (i := 4) rfl)) (hw _ (List.mem_of_getElem? (i := 35) rfl)) pd_7 (spec_7 l Z a0 hw _ _) (fun v os1 hq => ?_)
  obtain ⟨rfl, rfl⟩ := hq
  refine W.iconst K 309 d3_308 (2 : Int32) (by decide) ?_
  refine W.ishl K 310 d3_309 ?_
  refine W.ior K 311 d3_310 ?_
  refine W.iload K 313 d3_311 rfl ?_
  refine W.callSv1 K 316 d3_313 (hw _ (List.mem_of_getElem? (i := 33) rfl)) (hw _ (List.mem_of_getElem? (i := 34) rfl)) (hw _ (List.mem_of_getElem? (i := 4) rfl)) (hw _ (List.mem_of_getElem? (i := 35) rfl)) pd_7 (spec_7 l Z a0 hw _ _) (fun v os1 hq => ?_)
  obtain ⟨rfl, rfl⟩ := hq
  refine W.iconst K 317 d3_316 (3 : Int32) (by decide) ?_
  refine W.ishl K 318 d3_317 ?_
  refine W.ior K 319 d3_318 ?_
  refine W.iload K 321 d3_319 rfl ?_
  refine W.callSv1 K 324 d3_321 (hw _ (List.mem_of_getElem? (i := 33) rfl)) (hw _ (List.mem_of_getElem? (i := 34) rfl)) (hw _ (List.mem_of_getElem? (i := 4) rfl)) (hw _ (List.mem_of_getElem? (i := 35) rfl)) pd_7 (spec_7 l Z a0 hw _ _) (fun v os1 hq => ?_)
  obtain ⟨rfl, rfl⟩ := hq
  refine W.iconst K 325 d3_324 (4 : Int32) (by decide) ?_
  refine W.ishl K 326 d3_325 ?_
  refine W.ior K 327 d3_326 ?_
  refine W.iload K 329 d3_327 rfl ?_
  refine W.callSv1 K 332 d3_329 (hw _ (List.mem_of_getElem? (i := 33) rfl)) (hw _ (List.mem_of_getElem? (i := 34) rfl)) (hw _ (List.mem_of_getElem? (i := 4) rfl)) (hw _ (List.mem_of_getElem? (i := 35) rfl)) pd_7 (spec_7 l Z a0 hw _ _) (fun v os1 hq => ?_)
  obtain ⟨rfl, rfl⟩ := hq
  refine W.iconst K 333 d3_332 (5 : Int32) (by decide) ?_
  refine W.ishl K 334 d3_333 ?_
  refine W.ior K 335 d3_334 ?_
  refine W.iload K 337 d3_335 rfl ?_
  refine W.callSv1 K 340 d3_337 (hw _ (List.mem_of_getElem? (i := 33) rfl)) (hw _ (List.mem_of_getElem? (i := 34) rfl)) (hw _ (List.mem_of_getElem? (i := 4) rfl)) (hw _ (List.mem_of_getElem? (i := 35) rfl)) pd_7 (spec_7 l Z a0 hw _ _) (fun v os1 hq => ?_)
  obtain ⟨rfl, rfl⟩ := hq
  refine W.bipush K 342 d3_340 (6 : Int32) (by decide) ?_
  refine W.ishl K 343 d3_342 ?_
  refine W.ior K 344 d3_343 ?_
  refine W.iload K 346 d3_344 rfl ?_
  refine W.callSv1 K 349 d3_346 (hw _ (List.mem_of_getElem? (i := 33) rfl)) (hw _ (List.mem_of_getElem? (i := 34) rfl)) (hw _ (List.mem_of_getElem? (i := 4) rfl)) (hw _ (List.mem_of_getElem? (i := 35) rfl)) pd_7 (spec_7 l Z a0 hw _ _) (fun v os1 hq => ?_)
  obtain ⟨rfl, rfl⟩ := hq
  refine W.bipush K 351 d3_349 (7 : Int32) (by decide) ?_
  refine W.ishl K 352 d3_351 ?_
  refine W.ior K 353 d3_352 ?_
  have hmk := own_mask (own_nz_le (D (8 * k))) (own_nz_le (D (8 * k + 1))) (own_nz_le (D (8 * k + 2))) (own_nz_le (D (8 * k + 3))) (own_nz_le (D (8 * k + 4))) (own_nz_le (D (8 * k + 5))) (own_nz_le (D (8 * k + 6))) (own_nz_le (D (8 * k + 7)))
  generalize hMM : (((((((own_nz (D (8 * k)) ||| (own_nz (D (8 * k + 1)) <<< ((1 : Int32) &&& 31))) ||| (own_nz (D (8 * k + 2)) <<< ((2 : Int32) &&& 31))) ||| (own_nz (D (8 * k + 3)) <<< ((3 : Int32) &&& 31))) ||| (own_nz (D (8 * k + 4)) <<< ((4 : Int32) &&& 31))) ||| (own_nz (D (8 * k + 5)) <<< ((5 : Int32) &&& 31))) ||| (own_nz (D (8 * k + 6)) <<< ((6 : Int32) &&& 31))) ||| (own_nz (D (8 * k + 7)) <<< ((7 : Int32) &&& 31))) = mz at hmk ⊢
  obtain ⟨z0, z1, zb⟩ := own_bits (d := fun t => D (8 * k + t)) hmk
  obtain ⟨-, hP1⟩ := own_step hV E hk33 hs s1 s2 rfl rfl l1 l2 l3 z0 z1 zb
  refine W.istore K 355 d3_353 rfl (by repeat (first | apply setLS | exact setL0)) ?_
  refine W.iload K 357 d3_355 rfl ?_
  refine W.iload K 359 d3_357 rfl ?_
  refine W.bipush K 361 d3_359 (8 : Int32) (by decide) ?_
  refine W.ishl K 362 d3_361 ?_
  refine W.ior K 363 d3_362 ?_
  have hbits := own_m16 (f := fun t => (1 ≤ k ∨ 8 ≤ t) ∧ (D (8 * k + t - 8)).toInt ≠ 0) (p := pm) (m := mz) (fun t h => by obtain ⟨q1, q2, q3⟩ := pb t h; exact ⟨Or.inl q2, q3⟩) (fun t h => by obtain ⟨q1, q2⟩ := zb t h; exact ⟨Or.inr (by omega), by rw [show 8 * k + (t + 8) - 8 = 8 * k + t by omega]; exact q2⟩)
  have j1 : (1 : Int32).toInt = 1 := by decide
  have j2 : (2 : Int32).toInt = 2 := by decide
  have j3 : (3 : Int32).toInt = 3 := by decide
  have j4 : (4 : Int32).toInt = 4 := by decide
  have j5 : (5 : Int32).toInt = 5 := by decide
  have j6 : (6 : Int32).toInt = 6 := by decide
  have j7 : (7 : Int32).toInt = 7 := by decide
  refine W.iloadN K 364 d3_363 3 rfl rfl ?_
  refine W.callSv2 K 367 d3_364 (hw _ (List.mem_of_getElem? (i := 36) rfl)) (hw _ (List.mem_of_getElem? (i := 37) rfl)) (hw _ (List.mem_of_getElem? (i := 4) rfl)) (hw _ (List.mem_of_getElem? (i := 38) rfl)) pd_8 (spec_8 l Z a0 hw _ wz (fun h => own_sp1 hbits (fun t f1 f2 => own_apart E f1 f2 (by omega))) (fun h => own_sp2 hbits (fun t f1 f2 => own_apart E f1 f2 (by omega))) (fun h => own_sp3 hbits (fun t f1 f2 => own_apart E f1 f2 (by omega))) (fun h => own_sp4 hbits (fun t f1 f2 => own_apart E f1 f2 (by omega))) (fun h => own_sp5 hbits (fun t f1 f2 => own_apart E f1 f2 (by omega))) (fun h => own_sp6 hbits (fun t f1 f2 => own_apart E f1 f2 (by omega))) (fun h => own_sp7 hbits (fun t f1 f2 => own_apart E f1 f2 (by omega))) _) (fun v os1 hq => ?_)
  obtain ⟨rfl, rfl⟩ := hq
  refine W.if_ne K 374 370 d3_367 (fun h367 => ?_) (fun h367 => False.elim (absurd h367 (by decide)))
  refine W.lload K 376 d3_374 rfl ?_
  refine W.bipush K 378 d3_376 (8 : Int32) (by decide) ?_
  refine W.lshr K 379 d3_378 ?_
  refine W.bipush K 381 d3_379 (16 : Int32) (by decide) ?_
  refine W.lshl K 382 d3_381 ?_
  refine W.iload K 384 d3_382 rfl ?_
  refine W.i2l K 385 d3_384 ?_
  refine W.lor K 386 d3_385 ?_
  refine W.lreturn K d3_386 ⟨_, rfl, _, rfl, rfl, hP1⟩
theorem own_wid (x : Int32) : ∃ V : Nat, V ≤ 6 ∧ (2 + (x &&& 2147483647) % 7).toInt = ((V + 2 : Nat) : Int) := by
  have h1 := c_mask x 2147483647 31 (by decide) (by decide)
  have h2 := c_irem (x &&& 2147483647) 7 7 (by decide)
  have h0 : 0 ≤ (x &&& 2147483647).toInt := by rw [h1]; exact Int.emod_nonneg _ (by decide)
  have h3 := h2.1 h0
  have e2 : (2 : Int32).toInt = 2 := by decide
  have h4 : (2 + (x &&& 2147483647) % 7).toInt = 2 + (x &&& 2147483647).toInt % 7 := toInt_add32 e2 h3 (by omega) (by omega)
  exact ⟨((x &&& 2147483647).toInt % 7).toNat, by omega, by rw [h4]; omega⟩
theorem own_last {b d : Nat → Int} {V : Nat} {acc : Int64} (E : own_E b d V) (P : own_P b d 33 acc) : acc >>> ((16 : Int32) &&& 0x3f).toInt64 = 0 := by
  obtain ⟨s, pm, ha, s1, s2, p0, p1, hs, pb⟩ := P
  have h0 := own_E_fin E hs
  have h1 := (own_acc_s ha p0 p1).1
  exact Int64.toInt_inj.mp (by rw [h1, h0]; decide)
set_option maxRecDepth 65536 in
set_option maxHeartbeats 40000000 in
theorem spec_0 (l : Launch) (Z : State) (a0 : Array Value) (hw : ∀ d ∈ tables_1, d.before a0 Z = true) (i0 i1 i2 i3 : Int64) (i4 : Int32) : OMeets l Z x code maxLocals ret room_1 [(.long i0), (.long i1), (.long i2), (.long i3), (.int i4)] [] (RetV fun v _ => v = .int 1) := by
  refine OMeets.of_body [.val (.long i0), .second, .val (.long i1), .second, .val (.long i2), .second, .val (.long i3), .second, .val (.int i4), .unset, .unset, .unset, .unset, .unset] pn_0 (laid_eq _ _ rfl) ?_
  intro X K
  refine W.iconst K 1 at_0 (2 : Int32) (by decide) ?_
  refine W.iload K 3 at_1 rfl ?_
  refine W.ldcI K 5 at_3 (hw _ (List.mem_of_getElem? (i := 0) rfl)) ?_
  refine W.iand K 6 at_5 ?_
  refine W.bipush K 8 at_6 (7 : Int32) (by decide) ?_
  refine W.irem K 9 at_8 (by decide) ?_
  refine W.iadd K 10 at_9 ?_
  obtain ⟨V, hV, hwz⟩ := own_wid i4
  generalize 2 + (i4 &&& 2147483647) % 7 = wz at hwz ⊢
  refine W.istore K 12 at_10 rfl (by repeat (first | apply setLS | exact setL0)) ?_
  refine W.bipush K 14 at_12 (32 : Int32) (by decide) ?_
  refine W.newarray (ty := .byte) 32 32 K 16 at_14 (hw _ (List.mem_of_getElem? (i := 1) rfl)) (by decide) (by decide) (fun b14 => ?_)
  rw [AF_repB]
  refine W.astore K 18 at_16 rfl rfl (by repeat (first | apply setLS | exact setL0)) ?_
  refine W.aload K 20 at_18 rfl rfl ?_
  refine W.iconst K 21 at_20 (0 : Int32) (by decide) ?_
  refine W.lloadN K 22 at_21 0 rfl rfl ?_
  refine W.callSn3 K 25 at_22 (hw _ (List.mem_of_getElem? (i := 2) rfl)) (hw _ (List.mem_of_getElem? (i := 3) rfl)) (hw _ (List.mem_of_getElem? (i := 4) rfl)) (hw _ (List.mem_of_getElem? (i := 5) rfl)) pd_1 (spec_1 l Z a0 hw b14 _ _ _ 32 0 (by decide) (by omega) (by omega) []) (fun os1 hq => ?_)
  obtain rfl := hq
  refine W.aload K 27 at_25 rfl rfl ?_
  refine W.bipush K 29 at_27 (8 : Int32) (by decide) ?_
  refine W.lloadN K 30 at_29 2 rfl rfl ?_
  refine W.callSn3 K 33 at_30 (hw _ (List.mem_of_getElem? (i := 2) rfl)) (hw _ (List.mem_of_getElem? (i := 3) rfl)) (hw _ (List.mem_of_getElem? (i := 4) rfl)) (hw _ (List.mem_of_getElem? (i := 5) rfl)) pd_1 (spec_1 l Z a0 hw b14 _ _ _ 32 8 (by decide) (by omega) (by omega) []) (fun os1 hq => ?_)
  obtain rfl := hq
  refine W.aload K 35 at_33 rfl rfl ?_
  refine W.bipush K 37 at_35 (16 : Int32) (by decide) ?_
  refine W.lload K 39 at_37 rfl ?_
  refine W.callSn3 K 42 at_39 (hw _ (List.mem_of_getElem? (i := 2) rfl)) (hw _ (List.mem_of_getElem? (i := 3) rfl)) (hw _ (List.mem_of_getElem? (i := 4) rfl)) (hw _ (List.mem_of_getElem? (i := 5) rfl)) pd_1 (spec_1 l Z a0 hw b14 _ _ _ 32 16 (by decide) (by omega) (by omega) []) (fun os1 hq => ?_)
  obtain rfl := hq
  refine W.aload K 44 at_42 rfl rfl ?_
  refine W.bipush K 46 at_44 (24 : Int32) (by decide) ?_
  refine W.lload K 48 at_46 rfl ?_
  refine W.callSn3 K 51 at_48 (hw _ (List.mem_of_getElem? (i := 2) rfl)) (hw _ (List.mem_of_getElem? (i := 3) rfl)) (hw _ (List.mem_of_getElem? (i := 4) rfl)) (hw _ (List.mem_of_getElem? (i := 5) rfl)) pd_1 (spec_1 l Z a0 hw b14 _ _ _ 32 24 (by decide) (by omega) (by omega) []) (fun os1 hq => ?_)
  obtain rfl := hq
  generalize own_put (own_put (own_put (own_put (fun _ => 0) 0 i0) 8 i1) 16 i2) 24 i3 = F
  refine W.aload K 53 at_51 rfl rfl ?_
  refine W.iload K 55 at_53 rfl ?_
  refine W.callSv2 K 58 at_55 (hw _ (List.mem_of_getElem? (i := 6) rfl)) (hw _ (List.mem_of_getElem? (i := 7) rfl)) (hw _ (List.mem_of_getElem? (i := 8) rfl)) (hw _ (List.mem_of_getElem? (i := 9) rfl)) pd_2 (spec_2 l Z a0 hw b14 wz V hwz hV F _ (by repeat (first | exact List.mem_cons_self | apply List.mem_cons_of_mem))) (fun v os1 hq => ?_)
  obtain ⟨da, D, rfl, rfl, E⟩ := hq
  refine W.astore K 60 at_58 rfl rfl (by repeat (first | apply setLS | exact setL0)) ?_
  refine W.aload K 62 at_60 rfl rfl ?_
  refine W.ifnullN K 65 at_62 ?_
  refine W.aload K 67 at_65 rfl rfl ?_
  refine W.arraylength (257 : Int32) K 68 at_67 (by repeat (first | exact List.mem_cons_self | apply List.mem_cons_of_mem)) (by rw [AF_len]; rfl) ?_
  refine W.sipush K 71 at_68 (257 : Int32) (by decide) ?_
  refine W.icmp_eq K 76 74 at_71 (fun h71 => ?_) (fun h71 => False.elim (h71 rfl))
  refine W.lconst K 77 at_76 (0 : Int64) (by decide) ?_
  refine W.lstore K 79 at_77 (by repeat (first | apply setLS | exact setL0)) (by repeat (first | apply setLS | exact setL0)) ?_
  have P0 := own_P0 (own_b F) (fun j => (D j).toInt)
  refine W.aload K 81 at_79 rfl rfl ?_
  refine W.aload K 83 at_81 rfl rfl ?_
  refine W.iconst K 84 at_83 (0 : Int32) (by decide) ?_
  refine W.iload K 86 at_84 rfl ?_
  refine W.lload K 88 at_86 rfl ?_
  refine W.callSv5 K 91 at_88 (hw _ (List.mem_of_getElem? (i := 11) rfl)) (hw _ (List.mem_of_getElem? (i := 12) rfl)) (hw _ (List.mem_of_getElem? (i := 4) rfl)) (hw _ (List.mem_of_getElem? (i := 13) rfl)) pd_3 (spec_3 l Z a0 hw da b14 _ wz _ 0 V (by decide) (by omega) hwz hV F D E P0 _ (by repeat (first | exact List.mem_cons_self | apply List.mem_cons_of_mem)) (by repeat (first | exact List.mem_cons_self | apply List.mem_cons_of_mem))) (fun v os1 hq => ?_)
  obtain ⟨ac1, rfl, rfl, P1⟩ := hq
  refine W.lstore K 93 at_91 (by repeat (first | apply setLS | exact setL0)) (by repeat (first | apply setLS | exact setL0)) ?_
  refine W.aload K 95 at_93 rfl rfl ?_
  refine W.aload K 97 at_95 rfl rfl ?_
  refine W.iconst K 98 at_97 (1 : Int32) (by decide) ?_
  refine W.iload K 100 at_98 rfl ?_
  refine W.lload K 102 at_100 rfl ?_
  refine W.callSv5 K 105 at_102 (hw _ (List.mem_of_getElem? (i := 11) rfl)) (hw _ (List.mem_of_getElem? (i := 12) rfl)) (hw _ (List.mem_of_getElem? (i := 4) rfl)) (hw _ (List.mem_of_getElem? (i := 13) rfl)) pd_3 (spec_3 l Z a0 hw da b14 _ wz _ 1 V (by decide) (by omega) hwz hV F D E P1 _ (by repeat (first | exact List.mem_cons_self | apply List.mem_cons_of_mem)) (by repeat (first | exact List.mem_cons_self | apply List.mem_cons_of_mem))) (fun v os1 hq => ?_)
  obtain ⟨ac2, rfl, rfl, P2⟩ := hq
  refine W.lstore K 107 at_105 (by repeat (first | apply setLS | exact setL0)) (by repeat (first | apply setLS | exact setL0)) ?_
  refine W.aload K 109 at_107 rfl rfl ?_
  refine W.aload K 111 at_109 rfl rfl ?_
  refine W.iconst K 112 at_111 (2 : Int32) (by decide) ?_
  refine W.iload K 114 at_112 rfl ?_
  refine W.lload K 116 at_114 rfl ?_
  refine W.callSv5 K 119 at_116 (hw _ (List.mem_of_getElem? (i := 11) rfl)) (hw _ (List.mem_of_getElem? (i := 12) rfl)) (hw _ (List.mem_of_getElem? (i := 4) rfl)) (hw _ (List.mem_of_getElem? (i := 13) rfl)) pd_3 (spec_3 l Z a0 hw da b14 _ wz _ 2 V (by decide) (by omega) hwz hV F D E P2 _ (by repeat (first | exact List.mem_cons_self | apply List.mem_cons_of_mem)) (by repeat (first | exact List.mem_cons_self | apply List.mem_cons_of_mem))) (fun v os1 hq => ?_)
  obtain ⟨ac3, rfl, rfl, P3⟩ := hq
  refine W.lstore K 121 at_119 (by repeat (first | apply setLS | exact setL0)) (by repeat (first | apply setLS | exact setL0)) ?_
  refine W.aload K 123 at_121 rfl rfl ?_
  refine W.aload K 125 at_123 rfl rfl ?_
  refine W.iconst K 126 at_125 (3 : Int32) (by decide) ?_
  refine W.iload K 128 at_126 rfl ?_
  refine W.lload K 130 at_128 rfl ?_
  refine W.callSv5 K 133 at_130 (hw _ (List.mem_of_getElem? (i := 11) rfl)) (hw _ (List.mem_of_getElem? (i := 12) rfl)) (hw _ (List.mem_of_getElem? (i := 4) rfl)) (hw _ (List.mem_of_getElem? (i := 13) rfl)) pd_3 (spec_3 l Z a0 hw da b14 _ wz _ 3 V (by decide) (by omega) hwz hV F D E P3 _ (by repeat (first | exact List.mem_cons_self | apply List.mem_cons_of_mem)) (by repeat (first | exact List.mem_cons_self | apply List.mem_cons_of_mem))) (fun v os1 hq => ?_)
  obtain ⟨ac4, rfl, rfl, P4⟩ := hq
  refine W.lstore K 135 at_133 (by repeat (first | apply setLS | exact setL0)) (by repeat (first | apply setLS | exact setL0)) ?_
  refine W.aload K 137 at_135 rfl rfl ?_
  refine W.aload K 139 at_137 rfl rfl ?_
  refine W.iconst K 140 at_139 (4 : Int32) (by decide) ?_
  refine W.iload K 142 at_140 rfl ?_
  refine W.lload K 144 at_142 rfl ?_
  refine W.callSv5 K 147 at_144 (hw _ (List.mem_of_getElem? (i := 11) rfl)) (hw _ (List.mem_of_getElem? (i := 12) rfl)) (hw _ (List.mem_of_getElem? (i := 4) rfl)) (hw _ (List.mem_of_getElem? (i := 13) rfl)) pd_3 (spec_3 l Z a0 hw da b14 _ wz _ 4 V (by decide) (by omega) hwz hV F D E P4 _ (by repeat (first | exact List.mem_cons_self | apply List.mem_cons_of_mem)) (by repeat (first | exact List.mem_cons_self | apply List.mem_cons_of_mem))) (fun v os1 hq => ?_)
  obtain ⟨ac5, rfl, rfl, P5⟩ := hq
  refine W.lstore K 149 at_147 (by repeat (first | apply setLS | exact setL0)) (by repeat (first | apply setLS | exact setL0)) ?_
  refine W.aload K 151 at_149 rfl rfl ?_
  refine W.aload K 153 at_151 rfl rfl ?_
  refine W.iconst K 154 at_153 (5 : Int32) (by decide) ?_
  refine W.iload K 156 at_154 rfl ?_
  refine W.lload K 158 at_156 rfl ?_
  refine W.callSv5 K 161 at_158 (hw _ (List.mem_of_getElem? (i := 11) rfl)) (hw _ (List.mem_of_getElem? (i := 12) rfl)) (hw _ (List.mem_of_getElem? (i := 4) rfl)) (hw _ (List.mem_of_getElem? (i := 13) rfl)) pd_3 (spec_3 l Z a0 hw da b14 _ wz _ 5 V (by decide) (by omega) hwz hV F D E P5 _ (by repeat (first | exact List.mem_cons_self | apply List.mem_cons_of_mem)) (by repeat (first | exact List.mem_cons_self | apply List.mem_cons_of_mem))) (fun v os1 hq => ?_)
  obtain ⟨ac6, rfl, rfl, P6⟩ := hq
  refine W.lstore K 163 at_161 (by repeat (first | apply setLS | exact setL0)) (by repeat (first | apply setLS | exact setL0)) ?_
  refine W.aload K 165 at_163 rfl rfl ?_
  refine W.aload K 167 at_165 rfl rfl ?_
  refine W.bipush K 169 at_167 (6 : Int32) (by decide) ?_
  refine W.iload K 171 at_169 rfl ?_
  refine W.lload K 173 at_171 rfl ?_
  refine W.callSv5 K 176 at_173 (hw _ (List.mem_of_getElem? (i := 11) rfl)) (hw _ (List.mem_of_getElem? (i := 12) rfl)) (hw _ (List.mem_of_getElem? (i := 4) rfl)) (hw _ (List.mem_of_getElem? (i := 13) rfl)) pd_3 (spec_3 l Z a0 hw da b14 _ wz _ 6 V (by decide) (by omega) hwz hV F D E P6 _ (by repeat (first | exact List.mem_cons_self | apply List.mem_cons_of_mem)) (by repeat (first | exact List.mem_cons_self | apply List.mem_cons_of_mem))) (fun v os1 hq => ?_)
  obtain ⟨ac7, rfl, rfl, P7⟩ := hq
  refine W.lstore K 178 at_176 (by repeat (first | apply setLS | exact setL0)) (by repeat (first | apply setLS | exact setL0)) ?_
  refine W.aload K 180 at_178 rfl rfl ?_
  refine W.aload K 182 at_180 rfl rfl ?_
  refine W.bipush K 184 at_182 (7 : Int32) (by decide) ?_
  refine W.iload K 186 at_184 rfl ?_
  refine W.lload K 188 at_186 rfl ?_
  refine W.callSv5 K 191 at_188 (hw _ (List.mem_of_getElem? (i := 11) rfl)) (hw _ (List.mem_of_getElem? (i := 12) rfl)) (hw _ (List.mem_of_getElem? (i := 4) rfl)) (hw _ (List.mem_of_getElem? (i := 13) rfl)) pd_3 (spec_3 l Z a0 hw da b14 _ wz _ 7 V (by decide) (by omega) hwz hV F D E P7 _ (by repeat (first | exact List.mem_cons_self | apply List.mem_cons_of_mem)) (by repeat (first | exact List.mem_cons_self | apply List.mem_cons_of_mem))) (fun v os1 hq => ?_)
  obtain ⟨ac8, rfl, rfl, P8⟩ := hq
  refine W.lstore K 193 at_191 (by repeat (first | apply setLS | exact setL0)) (by repeat (first | apply setLS | exact setL0)) ?_
  refine W.aload K 195 at_193 rfl rfl ?_
  refine W.aload K 197 at_195 rfl rfl ?_
  refine W.bipush K 199 at_197 (8 : Int32) (by decide) ?_
  refine W.iload K 201 at_199 rfl ?_
  refine W.lload K 203 at_201 rfl ?_
  refine W.callSv5 K 206 at_203 (hw _ (List.mem_of_getElem? (i := 11) rfl)) (hw _ (List.mem_of_getElem? (i := 12) rfl)) (hw _ (List.mem_of_getElem? (i := 4) rfl)) (hw _ (List.mem_of_getElem? (i := 13) rfl)) pd_3 (spec_3 l Z a0 hw da b14 _ wz _ 8 V (by decide) (by omega) hwz hV F D E P8 _ (by repeat (first | exact List.mem_cons_self | apply List.mem_cons_of_mem)) (by repeat (first | exact List.mem_cons_self | apply List.mem_cons_of_mem))) (fun v os1 hq => ?_)
  obtain ⟨ac9, rfl, rfl, P9⟩ := hq
  refine W.lstore K 208 at_206 (by repeat (first | apply setLS | exact setL0)) (by repeat (first | apply setLS | exact setL0)) ?_
  refine W.aload K 210 at_208 rfl rfl ?_
  refine W.aload K 212 at_210 rfl rfl ?_
  refine W.bipush K 214 at_212 (9 : Int32) (by decide) ?_
  refine W.iload K 216 at_214 rfl ?_
  refine W.lload K 218 at_216 rfl ?_
  refine W.callSv5 K 221 at_218 (hw _ (List.mem_of_getElem? (i := 11) rfl)) (hw _ (List.mem_of_getElem? (i := 12) rfl)) (hw _ (List.mem_of_getElem? (i := 4) rfl)) (hw _ (List.mem_of_getElem? (i := 13) rfl)) pd_3 (spec_3 l Z a0 hw da b14 _ wz _ 9 V (by decide) (by omega) hwz hV F D E P9 _ (by repeat (first | exact List.mem_cons_self | apply List.mem_cons_of_mem)) (by repeat (first | exact List.mem_cons_self | apply List.mem_cons_of_mem))) (fun v os1 hq => ?_)
  obtain ⟨ac10, rfl, rfl, P10⟩ := hq
  refine W.lstore K 223 at_221 (by repeat (first | apply setLS | exact setL0)) (by repeat (first | apply setLS | exact setL0)) ?_
  refine W.aload K 225 at_223 rfl rfl ?_
  refine W.aload K 227 at_225 rfl rfl ?_
  refine W.bipush K 229 at_227 (10 : Int32) (by decide) ?_
  refine W.iload K 231 at_229 rfl ?_
  refine W.lload K 233 at_231 rfl ?_
  refine W.callSv5 K 236 at_233 (hw _ (List.mem_of_getElem? (i := 11) rfl)) (hw _ (List.mem_of_getElem? (i := 12) rfl)) (hw _ (List.mem_of_getElem? (i := 4) rfl)) (hw _ (List.mem_of_getElem? (i := 13) rfl)) pd_3 (spec_3 l Z a0 hw da b14 _ wz _ 10 V (by decide) (by omega) hwz hV F D E P10 _ (by repeat (first | exact List.mem_cons_self | apply List.mem_cons_of_mem)) (by repeat (first | exact List.mem_cons_self | apply List.mem_cons_of_mem))) (fun v os1 hq => ?_)
  obtain ⟨ac11, rfl, rfl, P11⟩ := hq
  refine W.lstore K 238 at_236 (by repeat (first | apply setLS | exact setL0)) (by repeat (first | apply setLS | exact setL0)) ?_
  refine W.aload K 240 at_238 rfl rfl ?_
  refine W.aload K 242 at_240 rfl rfl ?_
  refine W.bipush K 244 at_242 (11 : Int32) (by decide) ?_
  refine W.iload K 246 at_244 rfl ?_
  refine W.lload K 248 at_246 rfl ?_
  refine W.callSv5 K 251 at_248 (hw _ (List.mem_of_getElem? (i := 11) rfl)) (hw _ (List.mem_of_getElem? (i := 12) rfl)) (hw _ (List.mem_of_getElem? (i := 4) rfl)) (hw _ (List.mem_of_getElem? (i := 13) rfl)) pd_3 (spec_3 l Z a0 hw da b14 _ wz _ 11 V (by decide) (by omega) hwz hV F D E P11 _ (by repeat (first | exact List.mem_cons_self | apply List.mem_cons_of_mem)) (by repeat (first | exact List.mem_cons_self | apply List.mem_cons_of_mem))) (fun v os1 hq => ?_)
  obtain ⟨ac12, rfl, rfl, P12⟩ := hq
  refine W.lstore K 253 at_251 (by repeat (first | apply setLS | exact setL0)) (by repeat (first | apply setLS | exact setL0)) ?_
  refine W.aload K 255 at_253 rfl rfl ?_
  refine W.aload K 257 at_255 rfl rfl ?_
  refine W.bipush K 259 at_257 (12 : Int32) (by decide) ?_
  refine W.iload K 261 at_259 rfl ?_
  refine W.lload K 263 at_261 rfl ?_
  refine W.callSv5 K 266 at_263 (hw _ (List.mem_of_getElem? (i := 11) rfl)) (hw _ (List.mem_of_getElem? (i := 12) rfl)) (hw _ (List.mem_of_getElem? (i := 4) rfl)) (hw _ (List.mem_of_getElem? (i := 13) rfl)) pd_3 (spec_3 l Z a0 hw da b14 _ wz _ 12 V (by decide) (by omega) hwz hV F D E P12 _ (by repeat (first | exact List.mem_cons_self | apply List.mem_cons_of_mem)) (by repeat (first | exact List.mem_cons_self | apply List.mem_cons_of_mem))) (fun v os1 hq => ?_)
  obtain ⟨ac13, rfl, rfl, P13⟩ := hq
  refine W.lstore K 268 at_266 (by repeat (first | apply setLS | exact setL0)) (by repeat (first | apply setLS | exact setL0)) ?_
  refine W.aload K 270 at_268 rfl rfl ?_
  refine W.aload K 272 at_270 rfl rfl ?_
  refine W.bipush K 274 at_272 (13 : Int32) (by decide) ?_
  refine W.iload K 276 at_274 rfl ?_
  refine W.lload K 278 at_276 rfl ?_
  refine W.callSv5 K 281 at_278 (hw _ (List.mem_of_getElem? (i := 11) rfl)) (hw _ (List.mem_of_getElem? (i := 12) rfl)) (hw _ (List.mem_of_getElem? (i := 4) rfl)) (hw _ (List.mem_of_getElem? (i := 13) rfl)) pd_3 (spec_3 l Z a0 hw da b14 _ wz _ 13 V (by decide) (by omega) hwz hV F D E P13 _ (by repeat (first | exact List.mem_cons_self | apply List.mem_cons_of_mem)) (by repeat (first | exact List.mem_cons_self | apply List.mem_cons_of_mem))) (fun v os1 hq => ?_)
  obtain ⟨ac14, rfl, rfl, P14⟩ := hq
  refine W.lstore K 283 at_281 (by repeat (first | apply setLS | exact setL0)) (by repeat (first | apply setLS | exact setL0)) ?_
  refine W.aload K 285 at_283 rfl rfl ?_
  refine W.aload K 287 at_285 rfl rfl ?_
  refine W.bipush K 289 at_287 (14 : Int32) (by decide) ?_
  refine W.iload K 291 at_289 rfl ?_
  refine W.lload K 293 at_291 rfl ?_
  refine W.callSv5 K 296 at_293 (hw _ (List.mem_of_getElem? (i := 11) rfl)) (hw _ (List.mem_of_getElem? (i := 12) rfl)) (hw _ (List.mem_of_getElem? (i := 4) rfl)) (hw _ (List.mem_of_getElem? (i := 13) rfl)) pd_3 (spec_3 l Z a0 hw da b14 _ wz _ 14 V (by decide) (by omega) hwz hV F D E P14 _ (by repeat (first | exact List.mem_cons_self | apply List.mem_cons_of_mem)) (by repeat (first | exact List.mem_cons_self | apply List.mem_cons_of_mem))) (fun v os1 hq => ?_)
  obtain ⟨ac15, rfl, rfl, P15⟩ := hq
  refine W.lstore K 298 at_296 (by repeat (first | apply setLS | exact setL0)) (by repeat (first | apply setLS | exact setL0)) ?_
  refine W.aload K 300 at_298 rfl rfl ?_
  refine W.aload K 302 at_300 rfl rfl ?_
  refine W.bipush K 304 at_302 (15 : Int32) (by decide) ?_
  refine W.iload K 306 at_304 rfl ?_
  refine W.lload K 308 at_306 rfl ?_
  refine W.callSv5 K 311 at_308 (hw _ (List.mem_of_getElem? (i := 11) rfl)) (hw _ (List.mem_of_getElem? (i := 12) rfl)) (hw _ (List.mem_of_getElem? (i := 4) rfl)) (hw _ (List.mem_of_getElem? (i := 13) rfl)) pd_3 (spec_3 l Z a0 hw da b14 _ wz _ 15 V (by decide) (by omega) hwz hV F D E P15 _ (by repeat (first | exact List.mem_cons_self | apply List.mem_cons_of_mem)) (by repeat (first | exact List.mem_cons_self | apply List.mem_cons_of_mem))) (fun v os1 hq => ?_)
  obtain ⟨ac16, rfl, rfl, P16⟩ := hq
  refine W.lstore K 313 at_311 (by repeat (first | apply setLS | exact setL0)) (by repeat (first | apply setLS | exact setL0)) ?_
  refine W.aload K 315 at_313 rfl rfl ?_
  refine W.aload K 317 at_315 rfl rfl ?_
  refine W.bipush K 319 at_317 (16 : Int32) (by decide) ?_
  refine W.iload K 321 at_319 rfl ?_
  refine W.lload K 323 at_321 rfl ?_
  refine W.callSv5 K 326 at_323 (hw _ (List.mem_of_getElem? (i := 11) rfl)) (hw _ (List.mem_of_getElem? (i := 12) rfl)) (hw _ (List.mem_of_getElem? (i := 4) rfl)) (hw _ (List.mem_of_getElem? (i := 13) rfl)) pd_3 (spec_3 l Z a0 hw da b14 _ wz _ 16 V (by decide) (by omega) hwz hV F D E P16 _ (by repeat (first | exact List.mem_cons_self | apply List.mem_cons_of_mem)) (by repeat (first | exact List.mem_cons_self | apply List.mem_cons_of_mem))) (fun v os1 hq => ?_)
  obtain ⟨ac17, rfl, rfl, P17⟩ := hq
  refine W.lstore K 328 at_326 (by repeat (first | apply setLS | exact setL0)) (by repeat (first | apply setLS | exact setL0)) ?_
  refine W.aload K 330 at_328 rfl rfl ?_
  refine W.aload K 332 at_330 rfl rfl ?_
  refine W.bipush K 334 at_332 (17 : Int32) (by decide) ?_
  refine W.iload K 336 at_334 rfl ?_
  refine W.lload K 338 at_336 rfl ?_
  refine W.callSv5 K 341 at_338 (hw _ (List.mem_of_getElem? (i := 11) rfl)) (hw _ (List.mem_of_getElem? (i := 12) rfl)) (hw _ (List.mem_of_getElem? (i := 4) rfl)) (hw _ (List.mem_of_getElem? (i := 13) rfl)) pd_3 (spec_3 l Z a0 hw da b14 _ wz _ 17 V (by decide) (by omega) hwz hV F D E P17 _ (by repeat (first | exact List.mem_cons_self | apply List.mem_cons_of_mem)) (by repeat (first | exact List.mem_cons_self | apply List.mem_cons_of_mem))) (fun v os1 hq => ?_)
  obtain ⟨ac18, rfl, rfl, P18⟩ := hq
  refine W.lstore K 343 at_341 (by repeat (first | apply setLS | exact setL0)) (by repeat (first | apply setLS | exact setL0)) ?_
  refine W.aload K 345 at_343 rfl rfl ?_
  refine W.aload K 347 at_345 rfl rfl ?_
  refine W.bipush K 349 at_347 (18 : Int32) (by decide) ?_
  refine W.iload K 351 at_349 rfl ?_
  refine W.lload K 353 at_351 rfl ?_
  refine W.callSv5 K 356 at_353 (hw _ (List.mem_of_getElem? (i := 11) rfl)) (hw _ (List.mem_of_getElem? (i := 12) rfl)) (hw _ (List.mem_of_getElem? (i := 4) rfl)) (hw _ (List.mem_of_getElem? (i := 13) rfl)) pd_3 (spec_3 l Z a0 hw da b14 _ wz _ 18 V (by decide) (by omega) hwz hV F D E P18 _ (by repeat (first | exact List.mem_cons_self | apply List.mem_cons_of_mem)) (by repeat (first | exact List.mem_cons_self | apply List.mem_cons_of_mem))) (fun v os1 hq => ?_)
  obtain ⟨ac19, rfl, rfl, P19⟩ := hq
  refine W.lstore K 358 at_356 (by repeat (first | apply setLS | exact setL0)) (by repeat (first | apply setLS | exact setL0)) ?_
  refine W.aload K 360 at_358 rfl rfl ?_
  refine W.aload K 362 at_360 rfl rfl ?_
  refine W.bipush K 364 at_362 (19 : Int32) (by decide) ?_
  refine W.iload K 366 at_364 rfl ?_
  refine W.lload K 368 at_366 rfl ?_
  refine W.callSv5 K 371 at_368 (hw _ (List.mem_of_getElem? (i := 11) rfl)) (hw _ (List.mem_of_getElem? (i := 12) rfl)) (hw _ (List.mem_of_getElem? (i := 4) rfl)) (hw _ (List.mem_of_getElem? (i := 13) rfl)) pd_3 (spec_3 l Z a0 hw da b14 _ wz _ 19 V (by decide) (by omega) hwz hV F D E P19 _ (by repeat (first | exact List.mem_cons_self | apply List.mem_cons_of_mem)) (by repeat (first | exact List.mem_cons_self | apply List.mem_cons_of_mem))) (fun v os1 hq => ?_)
  obtain ⟨ac20, rfl, rfl, P20⟩ := hq
  refine W.lstore K 373 at_371 (by repeat (first | apply setLS | exact setL0)) (by repeat (first | apply setLS | exact setL0)) ?_
  refine W.aload K 375 at_373 rfl rfl ?_
  refine W.aload K 377 at_375 rfl rfl ?_
  refine W.bipush K 379 at_377 (20 : Int32) (by decide) ?_
  refine W.iload K 381 at_379 rfl ?_
  refine W.lload K 383 at_381 rfl ?_
  refine W.callSv5 K 386 at_383 (hw _ (List.mem_of_getElem? (i := 11) rfl)) (hw _ (List.mem_of_getElem? (i := 12) rfl)) (hw _ (List.mem_of_getElem? (i := 4) rfl)) (hw _ (List.mem_of_getElem? (i := 13) rfl)) pd_3 (spec_3 l Z a0 hw da b14 _ wz _ 20 V (by decide) (by omega) hwz hV F D E P20 _ (by repeat (first | exact List.mem_cons_self | apply List.mem_cons_of_mem)) (by repeat (first | exact List.mem_cons_self | apply List.mem_cons_of_mem))) (fun v os1 hq => ?_)
  obtain ⟨ac21, rfl, rfl, P21⟩ := hq
  refine W.lstore K 388 at_386 (by repeat (first | apply setLS | exact setL0)) (by repeat (first | apply setLS | exact setL0)) ?_
  refine W.aload K 390 at_388 rfl rfl ?_
  refine W.aload K 392 at_390 rfl rfl ?_
  refine W.bipush K 394 at_392 (21 : Int32) (by decide) ?_
  refine W.iload K 396 at_394 rfl ?_
  refine W.lload K 398 at_396 rfl ?_
  refine W.callSv5 K 401 at_398 (hw _ (List.mem_of_getElem? (i := 11) rfl)) (hw _ (List.mem_of_getElem? (i := 12) rfl)) (hw _ (List.mem_of_getElem? (i := 4) rfl)) (hw _ (List.mem_of_getElem? (i := 13) rfl)) pd_3 (spec_3 l Z a0 hw da b14 _ wz _ 21 V (by decide) (by omega) hwz hV F D E P21 _ (by repeat (first | exact List.mem_cons_self | apply List.mem_cons_of_mem)) (by repeat (first | exact List.mem_cons_self | apply List.mem_cons_of_mem))) (fun v os1 hq => ?_)
  obtain ⟨ac22, rfl, rfl, P22⟩ := hq
  refine W.lstore K 403 at_401 (by repeat (first | apply setLS | exact setL0)) (by repeat (first | apply setLS | exact setL0)) ?_
  refine W.aload K 405 at_403 rfl rfl ?_
  refine W.aload K 407 at_405 rfl rfl ?_
  refine W.bipush K 409 at_407 (22 : Int32) (by decide) ?_
  refine W.iload K 411 at_409 rfl ?_
  refine W.lload K 413 at_411 rfl ?_
  refine W.callSv5 K 416 at_413 (hw _ (List.mem_of_getElem? (i := 11) rfl)) (hw _ (List.mem_of_getElem? (i := 12) rfl)) (hw _ (List.mem_of_getElem? (i := 4) rfl)) (hw _ (List.mem_of_getElem? (i := 13) rfl)) pd_3 (spec_3 l Z a0 hw da b14 _ wz _ 22 V (by decide) (by omega) hwz hV F D E P22 _ (by repeat (first | exact List.mem_cons_self | apply List.mem_cons_of_mem)) (by repeat (first | exact List.mem_cons_self | apply List.mem_cons_of_mem))) (fun v os1 hq => ?_)
  obtain ⟨ac23, rfl, rfl, P23⟩ := hq
  refine W.lstore K 418 at_416 (by repeat (first | apply setLS | exact setL0)) (by repeat (first | apply setLS | exact setL0)) ?_
  refine W.aload K 420 at_418 rfl rfl ?_
  refine W.aload K 422 at_420 rfl rfl ?_
  refine W.bipush K 424 at_422 (23 : Int32) (by decide) ?_
  refine W.iload K 426 at_424 rfl ?_
  refine W.lload K 428 at_426 rfl ?_
  refine W.callSv5 K 431 at_428 (hw _ (List.mem_of_getElem? (i := 11) rfl)) (hw _ (List.mem_of_getElem? (i := 12) rfl)) (hw _ (List.mem_of_getElem? (i := 4) rfl)) (hw _ (List.mem_of_getElem? (i := 13) rfl)) pd_3 (spec_3 l Z a0 hw da b14 _ wz _ 23 V (by decide) (by omega) hwz hV F D E P23 _ (by repeat (first | exact List.mem_cons_self | apply List.mem_cons_of_mem)) (by repeat (first | exact List.mem_cons_self | apply List.mem_cons_of_mem))) (fun v os1 hq => ?_)
  obtain ⟨ac24, rfl, rfl, P24⟩ := hq
  refine W.lstore K 433 at_431 (by repeat (first | apply setLS | exact setL0)) (by repeat (first | apply setLS | exact setL0)) ?_
  refine W.aload K 435 at_433 rfl rfl ?_
  refine W.aload K 437 at_435 rfl rfl ?_
  refine W.bipush K 439 at_437 (24 : Int32) (by decide) ?_
  refine W.iload K 441 at_439 rfl ?_
  refine W.lload K 443 at_441 rfl ?_
  refine W.callSv5 K 446 at_443 (hw _ (List.mem_of_getElem? (i := 11) rfl)) (hw _ (List.mem_of_getElem? (i := 12) rfl)) (hw _ (List.mem_of_getElem? (i := 4) rfl)) (hw _ (List.mem_of_getElem? (i := 13) rfl)) pd_3 (spec_3 l Z a0 hw da b14 _ wz _ 24 V (by decide) (by omega) hwz hV F D E P24 _ (by repeat (first | exact List.mem_cons_self | apply List.mem_cons_of_mem)) (by repeat (first | exact List.mem_cons_self | apply List.mem_cons_of_mem))) (fun v os1 hq => ?_)
  obtain ⟨ac25, rfl, rfl, P25⟩ := hq
  refine W.lstore K 448 at_446 (by repeat (first | apply setLS | exact setL0)) (by repeat (first | apply setLS | exact setL0)) ?_
  refine W.aload K 450 at_448 rfl rfl ?_
  refine W.aload K 452 at_450 rfl rfl ?_
  refine W.bipush K 454 at_452 (25 : Int32) (by decide) ?_
  refine W.iload K 456 at_454 rfl ?_
  refine W.lload K 458 at_456 rfl ?_
  refine W.callSv5 K 461 at_458 (hw _ (List.mem_of_getElem? (i := 11) rfl)) (hw _ (List.mem_of_getElem? (i := 12) rfl)) (hw _ (List.mem_of_getElem? (i := 4) rfl)) (hw _ (List.mem_of_getElem? (i := 13) rfl)) pd_3 (spec_3 l Z a0 hw da b14 _ wz _ 25 V (by decide) (by omega) hwz hV F D E P25 _ (by repeat (first | exact List.mem_cons_self | apply List.mem_cons_of_mem)) (by repeat (first | exact List.mem_cons_self | apply List.mem_cons_of_mem))) (fun v os1 hq => ?_)
  obtain ⟨ac26, rfl, rfl, P26⟩ := hq
  refine W.lstore K 463 at_461 (by repeat (first | apply setLS | exact setL0)) (by repeat (first | apply setLS | exact setL0)) ?_
  refine W.aload K 465 at_463 rfl rfl ?_
  refine W.aload K 467 at_465 rfl rfl ?_
  refine W.bipush K 469 at_467 (26 : Int32) (by decide) ?_
  refine W.iload K 471 at_469 rfl ?_
  refine W.lload K 473 at_471 rfl ?_
  refine W.callSv5 K 476 at_473 (hw _ (List.mem_of_getElem? (i := 11) rfl)) (hw _ (List.mem_of_getElem? (i := 12) rfl)) (hw _ (List.mem_of_getElem? (i := 4) rfl)) (hw _ (List.mem_of_getElem? (i := 13) rfl)) pd_3 (spec_3 l Z a0 hw da b14 _ wz _ 26 V (by decide) (by omega) hwz hV F D E P26 _ (by repeat (first | exact List.mem_cons_self | apply List.mem_cons_of_mem)) (by repeat (first | exact List.mem_cons_self | apply List.mem_cons_of_mem))) (fun v os1 hq => ?_)
  obtain ⟨ac27, rfl, rfl, P27⟩ := hq
  refine W.lstore K 478 at_476 (by repeat (first | apply setLS | exact setL0)) (by repeat (first | apply setLS | exact setL0)) ?_
  refine W.aload K 480 at_478 rfl rfl ?_
  refine W.aload K 482 at_480 rfl rfl ?_
  refine W.bipush K 484 at_482 (27 : Int32) (by decide) ?_
  refine W.iload K 486 at_484 rfl ?_
  refine W.lload K 488 at_486 rfl ?_
  refine W.callSv5 K 491 at_488 (hw _ (List.mem_of_getElem? (i := 11) rfl)) (hw _ (List.mem_of_getElem? (i := 12) rfl)) (hw _ (List.mem_of_getElem? (i := 4) rfl)) (hw _ (List.mem_of_getElem? (i := 13) rfl)) pd_3 (spec_3 l Z a0 hw da b14 _ wz _ 27 V (by decide) (by omega) hwz hV F D E P27 _ (by repeat (first | exact List.mem_cons_self | apply List.mem_cons_of_mem)) (by repeat (first | exact List.mem_cons_self | apply List.mem_cons_of_mem))) (fun v os1 hq => ?_)
  obtain ⟨ac28, rfl, rfl, P28⟩ := hq
  refine W.lstore K 493 at_491 (by repeat (first | apply setLS | exact setL0)) (by repeat (first | apply setLS | exact setL0)) ?_
  refine W.aload K 495 at_493 rfl rfl ?_
  refine W.aload K 497 at_495 rfl rfl ?_
  refine W.bipush K 499 at_497 (28 : Int32) (by decide) ?_
  refine W.iload K 501 at_499 rfl ?_
  refine W.lload K 503 at_501 rfl ?_
  refine W.callSv5 K 506 at_503 (hw _ (List.mem_of_getElem? (i := 11) rfl)) (hw _ (List.mem_of_getElem? (i := 12) rfl)) (hw _ (List.mem_of_getElem? (i := 4) rfl)) (hw _ (List.mem_of_getElem? (i := 13) rfl)) pd_3 (spec_3 l Z a0 hw da b14 _ wz _ 28 V (by decide) (by omega) hwz hV F D E P28 _ (by repeat (first | exact List.mem_cons_self | apply List.mem_cons_of_mem)) (by repeat (first | exact List.mem_cons_self | apply List.mem_cons_of_mem))) (fun v os1 hq => ?_)
  obtain ⟨ac29, rfl, rfl, P29⟩ := hq
  refine W.lstore K 508 at_506 (by repeat (first | apply setLS | exact setL0)) (by repeat (first | apply setLS | exact setL0)) ?_
  refine W.aload K 510 at_508 rfl rfl ?_
  refine W.aload K 512 at_510 rfl rfl ?_
  refine W.bipush K 514 at_512 (29 : Int32) (by decide) ?_
  refine W.iload K 516 at_514 rfl ?_
  refine W.lload K 518 at_516 rfl ?_
  refine W.callSv5 K 521 at_518 (hw _ (List.mem_of_getElem? (i := 11) rfl)) (hw _ (List.mem_of_getElem? (i := 12) rfl)) (hw _ (List.mem_of_getElem? (i := 4) rfl)) (hw _ (List.mem_of_getElem? (i := 13) rfl)) pd_3 (spec_3 l Z a0 hw da b14 _ wz _ 29 V (by decide) (by omega) hwz hV F D E P29 _ (by repeat (first | exact List.mem_cons_self | apply List.mem_cons_of_mem)) (by repeat (first | exact List.mem_cons_self | apply List.mem_cons_of_mem))) (fun v os1 hq => ?_)
  obtain ⟨ac30, rfl, rfl, P30⟩ := hq
  refine W.lstore K 523 at_521 (by repeat (first | apply setLS | exact setL0)) (by repeat (first | apply setLS | exact setL0)) ?_
  refine W.aload K 525 at_523 rfl rfl ?_
  refine W.aload K 527 at_525 rfl rfl ?_
  refine W.bipush K 529 at_527 (30 : Int32) (by decide) ?_
  refine W.iload K 531 at_529 rfl ?_
  refine W.lload K 533 at_531 rfl ?_
  refine W.callSv5 K 536 at_533 (hw _ (List.mem_of_getElem? (i := 11) rfl)) (hw _ (List.mem_of_getElem? (i := 12) rfl)) (hw _ (List.mem_of_getElem? (i := 4) rfl)) (hw _ (List.mem_of_getElem? (i := 13) rfl)) pd_3 (spec_3 l Z a0 hw da b14 _ wz _ 30 V (by decide) (by omega) hwz hV F D E P30 _ (by repeat (first | exact List.mem_cons_self | apply List.mem_cons_of_mem)) (by repeat (first | exact List.mem_cons_self | apply List.mem_cons_of_mem))) (fun v os1 hq => ?_)
  obtain ⟨ac31, rfl, rfl, P31⟩ := hq
  refine W.lstore K 538 at_536 (by repeat (first | apply setLS | exact setL0)) (by repeat (first | apply setLS | exact setL0)) ?_
  refine W.aload K 540 at_538 rfl rfl ?_
  refine W.aload K 542 at_540 rfl rfl ?_
  refine W.bipush K 544 at_542 (31 : Int32) (by decide) ?_
  refine W.iload K 546 at_544 rfl ?_
  refine W.lload K 548 at_546 rfl ?_
  refine W.callSv5 K 551 at_548 (hw _ (List.mem_of_getElem? (i := 11) rfl)) (hw _ (List.mem_of_getElem? (i := 12) rfl)) (hw _ (List.mem_of_getElem? (i := 4) rfl)) (hw _ (List.mem_of_getElem? (i := 13) rfl)) pd_3 (spec_3 l Z a0 hw da b14 _ wz _ 31 V (by decide) (by omega) hwz hV F D E P31 _ (by repeat (first | exact List.mem_cons_self | apply List.mem_cons_of_mem)) (by repeat (first | exact List.mem_cons_self | apply List.mem_cons_of_mem))) (fun v os1 hq => ?_)
  obtain ⟨ac32, rfl, rfl, P32⟩ := hq
  refine W.lstore K 553 at_551 (by repeat (first | apply setLS | exact setL0)) (by repeat (first | apply setLS | exact setL0)) ?_
  refine W.aload K 555 at_553 rfl rfl ?_
  refine W.aload K 557 at_555 rfl rfl ?_
  refine W.bipush K 559 at_557 (32 : Int32) (by decide) ?_
  refine W.iload K 561 at_559 rfl ?_
  refine W.lload K 563 at_561 rfl ?_
  refine W.callSv5 K 566 at_563 (hw _ (List.mem_of_getElem? (i := 11) rfl)) (hw _ (List.mem_of_getElem? (i := 12) rfl)) (hw _ (List.mem_of_getElem? (i := 4) rfl)) (hw _ (List.mem_of_getElem? (i := 13) rfl)) pd_3 (spec_3 l Z a0 hw da b14 _ wz _ 32 V (by decide) (by omega) hwz hV F D E P32 _ (by repeat (first | exact List.mem_cons_self | apply List.mem_cons_of_mem)) (by repeat (first | exact List.mem_cons_self | apply List.mem_cons_of_mem))) (fun v os1 hq => ?_)
  obtain ⟨ac33, rfl, rfl, P33⟩ := hq
  refine W.lstore K 568 at_566 (by repeat (first | apply setLS | exact setL0)) (by repeat (first | apply setLS | exact setL0)) ?_
  refine W.lload K 570 at_568 rfl ?_
  refine W.ldc2 K 573 at_570 (hw _ (List.mem_of_getElem? (i := 14) rfl)) ?_
  refine W.lcmp_eq K 574 591 577 at_573 at_574 (fun h574 => False.elim (own_P_ne P33 h574)) (fun h574 => ?_)
  refine W.lload K 579 at_577 rfl ?_
  refine W.bipush K 581 at_579 (16 : Int32) (by decide) ?_
  refine W.lshr K 582 at_581 ?_
  refine W.lconst K 583 at_582 (0 : Int64) (by decide) ?_
  refine W.lcmp_ne K 584 591 587 at_583 at_584 (fun h584 => False.elim (h584 (own_last E P33))) (fun h584 => ?_)
  refine W.iconst K 588 at_587 (1 : Int32) (by decide) ?_
  refine W.goto K 592 at_588 ?_
  refine W.zreturn K at_592 (Or.inr rfl) ⟨_, rfl, rfl⟩
set_option maxRecDepth 65536 in
set_option maxHeartbeats 40000000 in
theorem comes_1 {Post : Tables → Env → Array Value → State → Outcome → State → Prop} (hpost : ∀ tb e args s v u, (limb_1_1.after args s (.returned v) u = true ∧ limb_1_2.after args s (.returned v) u = true ∧ True) → FrameEnd s (.returned v) u (Jvm.fieldLocs frame_1_writes args s ++ Jvm.arrayLocs frame_1_arrays args s ++ Jvm.staticLocs frame_1_statics s) 16 1216 → Post tb e args s (.returned v) u) :
    ArmFor flags0 classFile x code maxLocals ret World_1 tables_1 room_1 Calls_1 rest_1 Pre_1 Post := by
  intro l hfl _ _ p e ha hc hk s m args below hf hA hF happ hP
  obtain ⟨hcalls, hrest, hpre⟩ := hP
  obtain ⟨-, -, -, hnamed, -, -, -, hat⟩ := (Spec.applies_iff hf).mp happ
  obtain ⟨hg, hn⟩ := and_e (Cond.before_iff.mp (show (Jvm.Cond.and given_1 narrow_1).before args s = true from hpre))
  obtain ⟨gc, g0⟩ := and_e hg
  obtain ⟨k0, g1⟩ := and_e g0
  obtain ⟨k1, g2⟩ := and_e g1
  obtain ⟨k2, g3⟩ := and_e g2
  obtain ⟨k3, g4⟩ := and_e g3
  have k4 := g4
  obtain ⟨w0, w1, w2, w3, w4, rfl⟩ : ∃ w0 w1 w2 w3 w4 : Value, args = #[w0, w1, w2, w3, w4] := by
    have hs : args.size = 5 := by simpa [Cond.value, given_1] using gc
    obtain ⟨L⟩ := args
    match L, hs with
    | [w0, w1, w2, w3, w4], _ => exact ⟨w0, w1, w2, w3, w4, rfl⟩
  have hw := fun d (hd : d ∈ tables_1) => atoms_spec (ws := Jvm.Cond.code x code maxLocals ret :: tables_1) hat d (List.mem_cons_of_mem _ hd)
  have hfit : Fit s := fun {y c} hc i hi => by
    obtain ⟨ha, rfl⟩ := Array.getElem?_eq_some_iff.mp hc
    have q := List.all_eq_true.mp ((Array.all_eq_true_iff_forall_mem.mp hF) _ (Array.getElem_mem ha)) i (List.mem_range.mpr hi)
    simpa [Array.getElem?_eq_getElem hi] using q
  obtain ⟨i0, ei0⟩ := isL_v k0
  obtain rfl : w0 = (.long i0) := Option.some.inj ei0
  obtain ⟨i1, ei1⟩ := isL_v k1
  obtain rfl : w1 = (.long i1) := Option.some.inj ei1
  obtain ⟨i2, ei2⟩ := isL_v k2
  obtain rfl : w2 = (.long i2) := Option.some.inj ei2
  obtain ⟨i3, ei3⟩ := isL_v k3
  obtain rfl : w3 = (.long i3) := Option.some.inj ei3
  obtain ⟨i4, ei4⟩ := is_v k4
  obtain rfl : w4 = (.int i4) := Option.some.inj ei4
  obtain ⟨n, o, h1, h2, h3, _, L, rfl, ⟨os1, ⟨_, rfl, rfl⟩, -, N⟩, hq⟩ := spec_0 l s _ hw i0 i1 i2 i3 i4 s.heap (Hp.nil s) tables_1 p e ha hc hk s m _ below hf ((Spec.applies_iff_loose hf).mp happ).1 ⟨rfl, State.Warmed39.refl s, rfl⟩ trivial
  refine ⟨n, _, h1, h2, h3, hpost _ _ _ _ _ _ ⟨Cond.after_iff.mpr rfl, Cond.after_iff.mpr (eq_i res_at (Term.int_eval (1)) rfl), trivial⟩ ⟨hq.1, hq.2.1, (hq.2.2.sift fun y hy => Or.inr (N y hy)).mono (by decide) (by decide)⟩⟩
theorem main_1_1 : Claimed_1_1 := comes_1 fun _ _ _ _ _ _ h hF => ⟨h.1, hF⟩
theorem main_1_2 : Claimed_1_2 := comes_1 fun _ _ _ _ _ _ h hF => ⟨h.2.1, hF⟩
end Jvm.Pilot.@@N@@
namespace Jvm.Pilot.@@N@@
open Jvm Jvm.ClassFile Sem Op Lib Jvm.Free Jvm.Stand Jvm.Pilot.@@N@@.Jvm.D
/-! MADE BY PROGRAM (witnessworld.py) out of the Statement's table words and the real class files: 10 classes; the members and pool entries that the words name. The judged class is class 1, her method 1. -/
namespace start1
open Jvm.ClassFile
def u (s : String) : CpInfo := .utf8 (stringToUtf16 s)
/-- a pool by its gaps: so many unusable entries, then the entry; so many at the end -/
def gap : Nat → List CpInfo → List CpInfo
  | 0, r => r
  | n + 1, r => .unusable :: gap n r
def poolList (es : List (Nat × CpInfo)) (last : Nat) : List CpInfo := es.foldr (fun e r => gap e.1 (e.2 :: r)) (gap last [])
def pool (es : List (Nat × CpInfo)) (last : Nat) : Array CpInfo := ⟨poolList es last⟩
def fileOf (pool : Array CpInfo) (this : Nat) (attrs : Array Attribute := #[]) (ms : Array MethodInfo := #[]) (fl : Nat := 33) (sup : Nat := 0) (ifs : Array Nat := #[]) (fds : Array FieldInfo := #[]) : ClassFile where
  minorVersion := 0
  majorVersion := 65
  constantPool := pool
  accessFlags := fl
  thisClass := this
  superClass := sup
  interfaces := ifs
  fields := fds
  methods := ms
  attributes := attrs
def plain (name : String) (sup : Option ClassId) : Class where
  name := name
  kind := .ordinary
  loader := none
  accessFlags := 33
  super := sup
  interfaces := #[]
  cf := none
  fields := #[]
  methods := #[]
  instanceTypes := #[]
  staticTypes := #[]
  resolved := #[]
  callSites := []
  init := .initialized
  statics := none
  mirror := none

def pool0 : Array CpInfo := pool [(5, u "<init>"), (0, u "()V"), (1, .class_ 10), (1, u "java/lang/Object")] 113

def k0m0 : Method := { name := "<init>", desc := "()V", sig := { parameters := [], returnType := none }, accessFlags := 1, code := none }
/-- java/lang/Object -/
def k0 : Class := { plain "java/lang/Object" none with
  accessFlags := 33
  interfaces := #[]
  cf := some (fileOf pool0 8 #[] #[{ accessFlags := 1, nameIndex := 5, descriptorIndex := 6, attributes := #[] }] 33 0 #[] #[])
  fields := #[]
  methods := #[k0m0]
  instanceTypes := #[]
  staticTypes := #[]
  resolved := Array.replicate 124 none
  statics := none }

def pool1 : Array CpInfo := pool [(2, .class_ 4), (1, u "java/lang/Object"), (0, u "<init>"), (0, u "()V"), (0, .integer 2147483647), (0, .methodref 9 10), (0, .class_ 11), (0, .nameAndType 12 13), (0, u "com/example/usage_to_ledger/usagetoledger/verify/Scalar25519NonAdjacentFormPinLaw"), (0, u "put"), (0, u "([BIJ)V"), (0, .methodref 15 16), (0, .class_ 17), (0, .nameAndType 18 19), (0, u "com/example/usage_to_ledger/usagetoledger/verify/Scalar25519"), (0, u "nonAdjacentForm"), (0, u "([BI)[B"), (0, .methodref 9 21), (0, .nameAndType 22 23), (0, u "step"), (0, u "([B[BIIJ)J"), (2, .long 9223372036854775808), (1, .methodref 29 30), (0, .class_ 31), (0, .nameAndType 32 33), (0, u "java/lang/Math"), (0, u "abs"), (0, u "(I)I"), (0, .long 255), (1, .methodref 9 37), (0, .nameAndType 38 39), (0, u "at"), (0, u "([BI)I"), (0, .methodref 9 41), (0, .nameAndType 42 43), (0, u "ok"), (0, u "(II)Z"), (0, .long 2), (1, .long 4), (1, .long 8), (1, .long 16), (1, .long 32), (1, .long 64), (1, .long 128), (1, .methodref 9 59), (0, .nameAndType 60 33), (0, u "nz"), (0, .methodref 9 62), (0, .nameAndType 63 43), (0, u "sparse"), (2, u "law"), (0, u "(JJJJI)Z")] 5

def k1m0 : Method := { name := "<init>", desc := "()V", sig := { parameters := [], returnType := none }, accessFlags := 1, code := none }
def k1c1 : Code := { maxStack := 6, maxLocals := 14, code := code, exceptionTable := #[], attributes := #[] }
def k1m1 : Method := { name := "law", desc := "(JJJJI)Z", sig := { parameters := [.long, .long, .long, .long, .int], returnType := some .boolean }, accessFlags := 9, code := some k1c1 }
def k1c2 : Code := { maxStack := 5, maxLocals := 4, code := method_3_code, exceptionTable := #[], attributes := #[] }
def k1m2 : Method := { name := "put", desc := "([BIJ)V", sig := { parameters := [(.array .byte), .int, .long], returnType := none }, accessFlags := 10, code := some k1c2 }
def k1c3 : Code := { maxStack := 2, maxLocals := 2, code := method_4_code, exceptionTable := #[], attributes := #[] }
def k1m3 : Method := { name := "at", desc := "([BI)I", sig := { parameters := [(.array .byte), .int], returnType := some .int }, accessFlags := 10, code := some k1c3 }
def k1c4 : Code := { maxStack := 4, maxLocals := 2, code := method_5_code, exceptionTable := #[], attributes := #[] }
def k1m4 : Method := { name := "ok", desc := "(II)Z", sig := { parameters := [.int, .int], returnType := some .boolean }, accessFlags := 10, code := some k1c4 }
def k1c5 : Code := { maxStack := 1, maxLocals := 1, code := method_6_code, exceptionTable := #[], attributes := #[] }
def k1m5 : Method := { name := "nz", desc := "(I)I", sig := { parameters := [.int], returnType := some .int }, accessFlags := 10, code := some k1c5 }
def k1c6 : Code := { maxStack := 3, maxLocals := 2, code := method_7_code, exceptionTable := #[], attributes := #[] }
def k1m6 : Method := { name := "sparse", desc := "(II)Z", sig := { parameters := [.int, .int], returnType := some .boolean }, accessFlags := 10, code := some k1c6 }
def k1c7 : Code := { maxStack := 6, maxLocals := 22, code := method_8_code, exceptionTable := #[], attributes := #[] }
def k1m7 : Method := { name := "step", desc := "([B[BIIJ)J", sig := { parameters := [(.array .byte), (.array .byte), .int, .int, .long], returnType := some .long }, accessFlags := 10, code := some k1c7 }
/-- com/example/usage_to_ledger/usagetoledger/verify/Scalar25519NonAdjacentFormPinLaw -/
def k1 : Class := { plain "com/example/usage_to_ledger/usagetoledger/verify/Scalar25519NonAdjacentFormPinLaw" (some 0) with
  accessFlags := 49
  interfaces := #[]
  cf := some (fileOf pool1 9 #[] #[{ accessFlags := 1, nameIndex := 5, descriptorIndex := 6, attributes := #[] }, { accessFlags := 9, nameIndex := 66, descriptorIndex := 67, attributes := #[] }, { accessFlags := 10, nameIndex := 12, descriptorIndex := 13, attributes := #[] }, { accessFlags := 10, nameIndex := 38, descriptorIndex := 39, attributes := #[] }, { accessFlags := 10, nameIndex := 42, descriptorIndex := 43, attributes := #[] }, { accessFlags := 10, nameIndex := 60, descriptorIndex := 33, attributes := #[] }, { accessFlags := 10, nameIndex := 63, descriptorIndex := 43, attributes := #[] }, { accessFlags := 10, nameIndex := 22, descriptorIndex := 23, attributes := #[] }] 49 2 #[] #[])
  fields := #[]
  methods := #[k1m0, k1m1, k1m2, k1m3, k1m4, k1m5, k1m6, k1m7]
  instanceTypes := #[]
  staticTypes := #[]
  resolved := Array.replicate 73 none
  statics := none }

def pool2 : Array CpInfo := pool [(1, .class_ 2), (0, u "com/example/usage_to_ledger/usagetoledger/verify/Scalar25519"), (1, .class_ 6), (1, u "java/lang/Object"), (0, u "<init>"), (0, u "()V"), (10, u "L_BYTES"), (0, u "[B"), (9, u "L"), (0, u "[J"), (4, u "C"), (13, u "Ljava/math/BigInteger;"), (15, u "ORDER"), (7, u "LENGTH"), (0, u "I"), (2, u "BITS"), (1, u "MASK"), (0, u "J"), (0, u "HIGH"), (1, u "LIMBS"), (3, u "([BI)[B"), (9, u "nonAdjacentForm")] 5

def k2m0 : Method := { name := "<init>", desc := "()V", sig := { parameters := [], returnType := none }, accessFlags := 2, code := none }
def k2c1 : Code := { maxStack := 5, maxLocals := 8, code := prog_71_method_6_code, exceptionTable := #[], attributes := #[] }
def k2m1 : Method := { name := "nonAdjacentForm", desc := "([BI)[B", sig := { parameters := [(.array .byte), .int], returnType := some (.array .byte) }, accessFlags := 8, code := some k2c1 }
/-- com/example/usage_to_ledger/usagetoledger/verify/Scalar25519 -/
def k2 : Class := { plain "com/example/usage_to_ledger/usagetoledger/verify/Scalar25519" (some 0) with
  accessFlags := 32
  interfaces := #[]
  cf := some (fileOf pool2 1 #[] #[{ accessFlags := 2, nameIndex := 7, descriptorIndex := 8, attributes := #[] }, { accessFlags := 8, nameIndex := 98, descriptorIndex := 88, attributes := #[] }] 32 4 #[] #[{ accessFlags := 24, nameIndex := 74, descriptorIndex := 75, attributes := #[] }, { accessFlags := 26, nameIndex := 66, descriptorIndex := 50, attributes := #[] }, { accessFlags := 26, nameIndex := 78, descriptorIndex := 75, attributes := #[] }, { accessFlags := 26, nameIndex := 80, descriptorIndex := 81, attributes := #[] }, { accessFlags := 26, nameIndex := 82, descriptorIndex := 75, attributes := #[] }, { accessFlags := 26, nameIndex := 84, descriptorIndex := 75, attributes := #[] }, { accessFlags := 26, nameIndex := 36, descriptorIndex := 31, attributes := #[] }, { accessFlags := 26, nameIndex := 30, descriptorIndex := 31, attributes := #[] }, { accessFlags := 26, nameIndex := 19, descriptorIndex := 20, attributes := #[] }])
  fields := #[{ name := "LENGTH", type := .int, accessFlags := 24, slot := 0, constantValue := 0 }, { name := "ORDER", type := (.object "java/math/BigInteger"), accessFlags := 26, slot := 1, constantValue := 0 }, { name := "BITS", type := .int, accessFlags := 26, slot := 2, constantValue := 0 }, { name := "MASK", type := .long, accessFlags := 26, slot := 3, constantValue := 0 }, { name := "HIGH", type := .int, accessFlags := 26, slot := 4, constantValue := 0 }, { name := "LIMBS", type := .int, accessFlags := 26, slot := 5, constantValue := 0 }, { name := "C", type := (.array .long), accessFlags := 26, slot := 6, constantValue := 0 }, { name := "L", type := (.array .long), accessFlags := 26, slot := 7, constantValue := 0 }, { name := "L_BYTES", type := (.array .byte), accessFlags := 26, slot := 8, constantValue := 0 }]
  methods := #[k2m0, k2m1]
  instanceTypes := #[]
  staticTypes := #[.int, (.object "java/math/BigInteger"), .int, .long, .int, .int, (.array .long), (.array .long), (.array .byte)]
  resolved := Array.replicate 104 none
  statics := none }

def pool3 : Array CpInfo := pool [(1, .class_ 2), (0, u "java/lang/Math"), (1, .class_ 6), (1, u "java/lang/Object"), (0, u "<init>"), (0, u "()V"), (89, .class_ 100), (1, u "java/lang/Math$RandomNumberGeneratorHolder"), (23, u "abs"), (34, u "(I)I"), (12, u "negativeZeroFloatBits"), (0, u "J"), (2, u "negativeZeroDoubleBits"), (68, u "$assertionsDisabled"), (0, u "Z"), (91, u "twoToTheDoubleScaleDown"), (0, u "D"), (4, u "twoToTheDoubleScaleUp"), (9, u "E"), (3, u "PI"), (2, u "TAU"), (2, u "DEGREES_TO_RADIANS"), (0, u "RADIANS_TO_DEGREES")] 94

def k3m0 : Method := { name := "<init>", desc := "()V", sig := { parameters := [], returnType := none }, accessFlags := 2, code := none }
def k3c1 : Code := { maxStack := 1, maxLocals := 1, code := jdk_29_method_59_code, exceptionTable := #[], attributes := #[] }
def k3m1 : Method := { name := "abs", desc := "(I)I", sig := { parameters := [.int], returnType := some .int }, accessFlags := 9, code := some k3c1 }
/-- java/lang/Math -/
def k3 : Class := { plain "java/lang/Math" (some 0) with
  accessFlags := 49
  interfaces := #[]
  cf := some (fileOf pool3 1 #[.nestMembers #[98]] #[{ accessFlags := 2, nameIndex := 7, descriptorIndex := 8, attributes := #[] }, { accessFlags := 9, nameIndex := 124, descriptorIndex := 159, attributes := #[] }] 49 4 #[] #[{ accessFlags := 25, nameIndex := 354, descriptorIndex := 339, attributes := #[] }, { accessFlags := 25, nameIndex := 358, descriptorIndex := 339, attributes := #[] }, { accessFlags := 25, nameIndex := 361, descriptorIndex := 339, attributes := #[] }, { accessFlags := 26, nameIndex := 364, descriptorIndex := 339, attributes := #[] }, { accessFlags := 26, nameIndex := 365, descriptorIndex := 339, attributes := #[] }, { accessFlags := 26, nameIndex := 172, descriptorIndex := 173, attributes := #[] }, { accessFlags := 26, nameIndex := 176, descriptorIndex := 173, attributes := #[] }, { accessFlags := 8, nameIndex := 344, descriptorIndex := 339, attributes := #[] }, { accessFlags := 8, nameIndex := 338, descriptorIndex := 339, attributes := #[] }, { accessFlags := 4120, nameIndex := 245, descriptorIndex := 246, attributes := #[] }])
  fields := #[{ name := "E", type := .double, accessFlags := 25, slot := 0, constantValue := 0 }, { name := "PI", type := .double, accessFlags := 25, slot := 1, constantValue := 0 }, { name := "TAU", type := .double, accessFlags := 25, slot := 2, constantValue := 0 }, { name := "DEGREES_TO_RADIANS", type := .double, accessFlags := 26, slot := 3, constantValue := 0 }, { name := "RADIANS_TO_DEGREES", type := .double, accessFlags := 26, slot := 4, constantValue := 0 }, { name := "negativeZeroFloatBits", type := .long, accessFlags := 26, slot := 5, constantValue := 0 }, { name := "negativeZeroDoubleBits", type := .long, accessFlags := 26, slot := 6, constantValue := 0 }, { name := "twoToTheDoubleScaleUp", type := .double, accessFlags := 8, slot := 7, constantValue := 0 }, { name := "twoToTheDoubleScaleDown", type := .double, accessFlags := 8, slot := 8, constantValue := 0 }, { name := "$assertionsDisabled", type := .boolean, accessFlags := 4120, slot := 9, constantValue := 0 }]
  methods := #[k3m0, k3m1]
  instanceTypes := #[]
  staticTypes := #[.double, .double, .double, .double, .double, .long, .long, .double, .double, .boolean]
  resolved := Array.replicate 460 none
  statics := none }

def pool4 : Array CpInfo := pool [(1, u "java/lang/Cloneable"), (0, .class_ 1), (0, u "java/lang/Object"), (0, .class_ 3)] 3

/-- java/lang/Cloneable -/
def k4 : Class := { plain "java/lang/Cloneable" (some 0) with
  accessFlags := 1537
  interfaces := #[]
  cf := some (fileOf pool4 2 #[] #[] 1537 4 #[] #[])
  fields := #[]
  methods := #[]
  instanceTypes := #[]
  staticTypes := #[]
  resolved := Array.replicate 8 none
  statics := none }

def pool5 : Array CpInfo := pool [(1, u "java/io/Serializable"), (0, .class_ 1), (0, u "java/lang/Object"), (0, .class_ 3)] 3

/-- java/io/Serializable -/
def k5 : Class := { plain "java/io/Serializable" (some 0) with
  accessFlags := 1537
  interfaces := #[]
  cf := some (fileOf pool5 2 #[] #[] 1537 4 #[] #[])
  fields := #[]
  methods := #[]
  instanceTypes := #[]
  staticTypes := #[]
  resolved := Array.replicate 8 none
  statics := none }

/-- the primitive byte -/
def k6 : Class := { plain "byte" none with kind := .primitive 'B', accessFlags := 0x411 }
/-- [B -/
def k7 : Class := { plain "[B" (some 0) with kind := .array 6 .byte, interfaces := #[4, 5], accessFlags := 1041 }

/-- the primitive int -/
def k8 : Class := { plain "int" none with kind := .primitive 'I', accessFlags := 0x411 }
/-- [I -/
def k9 : Class := { plain "[I" (some 0) with kind := .array 8 .int, interfaces := #[4, 5], accessFlags := 1041 }

def heap : Heap := #[]
def classes : Array Class := #[k0, k1, k2, k3, k4, k5, k6, k7, k8, k9]
def interned : List (Array UInt16 × Addr) := []
def slotsUsed : Nat := 0
def theMethod : MethodId := ⟨1, 1⟩
def args0 : Array Value := #[.long 1, .long 2, .long 3, .long 4, .int 5]
def aboutOver (below : List Frame) : State where
  vm := { classes := classes, interned := interned.toArray }
  heap := heap
  slotsUsed := slotsUsed
  threads := #[{ frames := .invoking theMethod args0 :: below }]
def below0 : List Frame := [.native { method := ⟨0, 0⟩, args := #[] }]
def about1 : State := aboutOver below0
def p0 : Program := .bare "" "" ""
def e0 : Env := launch0.env 0 0 0
theorem w_frames : about1.frames = Frame.invoking theMethod args0 :: below0 := rfl
set_option maxRecDepth 65536 in
theorem w_args : argsFit about1.vm theMethod args0 = true := by decide +kernel
set_option maxRecDepth 65536 in
theorem w_heap : heapFits about1 = true := by decide +kernel
set_option maxRecDepth 65536 in
theorem w_runnable : about1.curStatus? = some .runnable := by decide +kernel
set_option maxRecDepth 65536 in
theorem w_alone : about1.alone = true := by decide +kernel
set_option maxRecDepth 65536 in
theorem w_named : about1.methodNamed? x = some theMethod := by decide +kernel
set_option maxRecDepth 65536 in
theorem w_hears : about1.hears theMethod below0 = true := by decide +kernel
set_option maxRecDepth 65536 in
theorem w_ripe : about1.ripe theMethod args0 below0 = true := by decide +kernel
theorem w_running : about1.status = .running := rfl
set_option maxRecDepth 65536 in
theorem w_room : about1.hasRoom e0.platform room_1 = true :=
  launch0.hasRoom_least _ room_1 (by decide +kernel) (by decide +kernel) (by decide +kernel) (by decide +kernel) (by decide +kernel) (by decide +kernel)
theorem allAtoms_all (ts : List Jvm.Cond) (a : Array Jvm.Value) (st : Jvm.State) : (allAtoms ts).before a st = ts.all (fun c => c.before a st) := by
  induction ts with
  | nil => rfl
  | cons c t ih =>
    show (Jvm.Cond.and c (allAtoms t)).before a st = _
    rw [Jvm.Cond.before_and, ih, List.all_cons]
def words1 : List Jvm.Cond := Jvm.Cond.code x code maxLocals ret :: tables_1
/-- a 'code' word, met by the world's own term for the bytes: nothing is compared byte by byte -/
theorem code_word {y : MethodName} {bytes : ByteArray} {mx : Nat} {rt : Option FieldType} {a : Array Value} {s : State} {m : MethodId} {meth : Method} {c : Code} (h1 : s.methodNamed? y = some m) (h2 : s.vm.method? m = some meth) (h3 : meth.code = some c) (h4 : c.code = bytes)
    (h5 : (c.maxLocals == mx && c.exceptionTable.isEmpty && decide (c.maxStack ≤ mostOperands) && decide (meth.sig.returnType = rt) && !meth.locks && decide (parseMethodDescriptor y.desc = some meth.sig)) = true) : (Jvm.Cond.code y bytes mx rt).before a s = true := by
  simp only [Bool.and_eq_true, beq_iff_eq, Bool.not_eq_true', decide_eq_true_eq] at h5
  obtain ⟨⟨⟨⟨⟨g1, g2⟩, g3⟩, g4⟩, g5⟩, g6⟩ := h5
  simp [Cond.before, Cond.holds, Cond.value, h1, h2, h3, h4, g1, g2, g3, g4, g5, g6]
def isCode : Jvm.Cond → Bool
  | .code _ _ _ _ => true
  | _ => false
theorem all_split {L : List Jvm.Cond} {P : Jvm.Cond → Bool} (h1 : L.all (fun c => isCode c || P c) = true) (h2 : ∀ c ∈ L.filter isCode, P c = true) : L.all P = true := by
  refine List.all_eq_true.mpr fun c hc => ?_
  have h := List.all_eq_true.mp h1 c hc
  rcases Bool.eq_false_or_eq_true (isCode c) with hi | hi
  · exact h2 c (List.mem_filter.mpr ⟨hc, hi⟩)
  · simpa [hi] using h
set_option maxRecDepth 65536 in
theorem w_c0 : (Jvm.Cond.code x code maxLocals ret).before args0 about1 = true := code_word (m := ⟨1, 1⟩) (meth := k1m1) (c := k1c1) (by decide +kernel) rfl rfl rfl (by decide +kernel)
set_option maxRecDepth 65536 in
theorem w_c1 : (Jvm.Cond.code ({ cls := "com/example/usage_to_ledger/usagetoledger/verify/Scalar25519NonAdjacentFormPinLaw", name := "put", desc := "([BIJ)V" } : Jvm.MethodName) method_3_code (4 : Nat) (Option.none : Option Jvm.ClassFile.FieldType)).before args0 about1 = true := code_word (m := ⟨1, 2⟩) (meth := k1m2) (c := k1c2) (by decide +kernel) rfl rfl rfl (by decide +kernel)
set_option maxRecDepth 65536 in
theorem w_c2 : (Jvm.Cond.code ({ cls := "com/example/usage_to_ledger/usagetoledger/verify/Scalar25519", name := "nonAdjacentForm", desc := "([BI)[B" } : Jvm.MethodName) prog_71_method_6_code (8 : Nat) (Option.some (Jvm.ClassFile.FieldType.array Jvm.ClassFile.FieldType.byte))).before args0 about1 = true := code_word (m := ⟨2, 1⟩) (meth := k2m1) (c := k2c1) (by decide +kernel) rfl rfl rfl (by decide +kernel)
set_option maxRecDepth 65536 in
theorem w_c3 : (Jvm.Cond.code ({ cls := "com/example/usage_to_ledger/usagetoledger/verify/Scalar25519NonAdjacentFormPinLaw", name := "step", desc := "([B[BIIJ)J" } : Jvm.MethodName) method_8_code (22 : Nat) (Option.some Jvm.ClassFile.FieldType.long)).before args0 about1 = true := code_word (m := ⟨1, 7⟩) (meth := k1m7) (c := k1c7) (by decide +kernel) rfl rfl rfl (by decide +kernel)
set_option maxRecDepth 65536 in
theorem w_c4 : (Jvm.Cond.code ({ cls := "com/example/usage_to_ledger/usagetoledger/verify/Scalar25519NonAdjacentFormPinLaw", name := "at", desc := "([BI)I" } : Jvm.MethodName) method_4_code (2 : Nat) (Option.some Jvm.ClassFile.FieldType.int)).before args0 about1 = true := code_word (m := ⟨1, 3⟩) (meth := k1m3) (c := k1c3) (by decide +kernel) rfl rfl rfl (by decide +kernel)
set_option maxRecDepth 65536 in
theorem w_c5 : (Jvm.Cond.code ({ cls := "com/example/usage_to_ledger/usagetoledger/verify/Scalar25519NonAdjacentFormPinLaw", name := "ok", desc := "(II)Z" } : Jvm.MethodName) method_5_code (2 : Nat) (Option.some Jvm.ClassFile.FieldType.boolean)).before args0 about1 = true := code_word (m := ⟨1, 4⟩) (meth := k1m4) (c := k1c4) (by decide +kernel) rfl rfl rfl (by decide +kernel)
set_option maxRecDepth 65536 in
theorem w_c6 : (Jvm.Cond.code ({ cls := "java/lang/Math", name := "abs", desc := "(I)I" } : Jvm.MethodName) jdk_29_method_59_code (1 : Nat) (Option.some Jvm.ClassFile.FieldType.int)).before args0 about1 = true := code_word (m := ⟨3, 1⟩) (meth := k3m1) (c := k3c1) (by decide +kernel) rfl rfl rfl (by decide +kernel)
set_option maxRecDepth 65536 in
theorem w_c7 : (Jvm.Cond.code ({ cls := "com/example/usage_to_ledger/usagetoledger/verify/Scalar25519NonAdjacentFormPinLaw", name := "nz", desc := "(I)I" } : Jvm.MethodName) method_6_code (1 : Nat) (Option.some Jvm.ClassFile.FieldType.int)).before args0 about1 = true := code_word (m := ⟨1, 5⟩) (meth := k1m5) (c := k1c5) (by decide +kernel) rfl rfl rfl (by decide +kernel)
set_option maxRecDepth 65536 in
theorem w_c8 : (Jvm.Cond.code ({ cls := "com/example/usage_to_ledger/usagetoledger/verify/Scalar25519NonAdjacentFormPinLaw", name := "sparse", desc := "(II)Z" } : Jvm.MethodName) method_7_code (2 : Nat) (Option.some Jvm.ClassFile.FieldType.boolean)).before args0 about1 = true := code_word (m := ⟨1, 6⟩) (meth := k1m6) (c := k1c6) (by decide +kernel) rfl rfl rfl (by decide +kernel)
def codes1 : List Jvm.Cond := [Jvm.Cond.code x code maxLocals ret, Jvm.Cond.code ({ cls := "com/example/usage_to_ledger/usagetoledger/verify/Scalar25519NonAdjacentFormPinLaw", name := "put", desc := "([BIJ)V" } : Jvm.MethodName) method_3_code (4 : Nat) (Option.none : Option Jvm.ClassFile.FieldType), Jvm.Cond.code ({ cls := "com/example/usage_to_ledger/usagetoledger/verify/Scalar25519", name := "nonAdjacentForm", desc := "([BI)[B" } : Jvm.MethodName) prog_71_method_6_code (8 : Nat) (Option.some (Jvm.ClassFile.FieldType.array Jvm.ClassFile.FieldType.byte)), Jvm.Cond.code ({ cls := "com/example/usage_to_ledger/usagetoledger/verify/Scalar25519NonAdjacentFormPinLaw", name := "step", desc := "([B[BIIJ)J" } : Jvm.MethodName) method_8_code (22 : Nat) (Option.some Jvm.ClassFile.FieldType.long), Jvm.Cond.code ({ cls := "com/example/usage_to_ledger/usagetoledger/verify/Scalar25519NonAdjacentFormPinLaw", name := "at", desc := "([BI)I" } : Jvm.MethodName) method_4_code (2 : Nat) (Option.some Jvm.ClassFile.FieldType.int), Jvm.Cond.code ({ cls := "com/example/usage_to_ledger/usagetoledger/verify/Scalar25519NonAdjacentFormPinLaw", name := "ok", desc := "(II)Z" } : Jvm.MethodName) method_5_code (2 : Nat) (Option.some Jvm.ClassFile.FieldType.boolean), Jvm.Cond.code ({ cls := "java/lang/Math", name := "abs", desc := "(I)I" } : Jvm.MethodName) jdk_29_method_59_code (1 : Nat) (Option.some Jvm.ClassFile.FieldType.int), Jvm.Cond.code ({ cls := "com/example/usage_to_ledger/usagetoledger/verify/Scalar25519NonAdjacentFormPinLaw", name := "nz", desc := "(I)I" } : Jvm.MethodName) method_6_code (1 : Nat) (Option.some Jvm.ClassFile.FieldType.int), Jvm.Cond.code ({ cls := "com/example/usage_to_ledger/usagetoledger/verify/Scalar25519NonAdjacentFormPinLaw", name := "sparse", desc := "(II)Z" } : Jvm.MethodName) method_7_code (2 : Nat) (Option.some Jvm.ClassFile.FieldType.boolean)]
set_option maxRecDepth 65536 in
theorem codes_eq : words1.filter isCode = codes1 := rfl
theorem w_codes : ∀ c ∈ words1.filter isCode, c.before args0 about1 = true := by
  rw [codes_eq]
  intro c hc
  simp only [codes1, List.mem_cons, List.not_mem_nil, or_false] at hc
  rcases hc with rfl | rfl | rfl | rfl | rfl | rfl | rfl | rfl | rfl
  · exact w_c0
  · exact w_c1
  · exact w_c2
  · exact w_c3
  · exact w_c4
  · exact w_c5
  · exact w_c6
  · exact w_c7
  · exact w_c8
set_option maxRecDepth 65536 in
theorem w_t1 : (words1.take 24).all (fun c => isCode c || c.before args0 about1) = true := by decide +kernel
set_option maxRecDepth 65536 in
theorem w_t2 : (words1.drop 24).all (fun c => isCode c || c.before args0 about1) = true := by decide +kernel
theorem w_tables : (allAtoms (Jvm.Cond.code x code maxLocals ret :: tables_1)).before args0 about1 = true := by
  rw [allAtoms_all]
  show words1.all (fun c => c.before args0 about1) = true
  refine all_split ?_ w_codes
  rw [← List.take_append_drop 24 words1, List.all_append, w_t1, w_t2]
  rfl
set_option maxRecDepth 65536 in
theorem w_case : (Jvm.Cond.and given_1 narrow_1).before args0 about1 = true := by decide +kernel
theorem w_applies : (headSpec (Jvm.Cond.code x code maxLocals ret :: tables_1) room_1).applies x e0.platform about1 = true :=
  (Spec.applies_iff w_frames).mpr ⟨w_running, w_runnable, w_alone, w_named, w_hears, w_ripe, w_room, w_tables⟩
theorem atStart : AtStart classFile x code maxLocals ret World_1 tables_1 room_1 Calls_1 rest_1 Pre_1 launch0 p0 e0 about1 theMethod args0 below0 :=
  ⟨lists_1, trivial, launch0.admits_env _ _ _, launch0.least_env, fairChoices_fair.cas, fairChoices_fair.clock, w_frames, w_args, w_heap, w_applies, trivial, trivial, w_case⟩
end start1
theorem witness_1 : WitnessClaimed_1 := ⟨start1.p0, start1.e0, start1.about1, start1.theMethod, start1.args0, start1.below0, start1.atStart⟩
end Jvm.Pilot.@@N@@
