import JvmDerived
import JvmDerived.Pilot.@@N@@Statement
import JvmDerived.Pilot.@@N@@Code
set_option linter.unusedVariables false
set_option linter.unusedSimpArgs false
namespace Jvm.OwnW
open Sem ClassFile Op Lib Jvm.Stand Jvm.Free Jvm.LawKit Jvm.RoadKit
/-! THE OWN LAYER: a walk as a backward reckoning over an abstract heap. -/
abbrev OS := List (Addr × (Cell → Prop))
abbrev FV := String × String × String × Value
abbrev Cx := Program × Launch × Env × Room × State × MethodId × Array Value × List Frame × Method × Code
/-- what the walk knows of a heap: the start's cells stand in it unchanged; the listed cells are new, lie apart, and are as described -/
def Hp (Z : State) (h : Heap) (os : OS) : Prop :=
  Ext Z.heap h ∧ (os.map Prod.fst).Nodup ∧ ∀ (k : Nat) (x : Addr × (Cell → Prop)), os[k]? = some x → Z.heap.size ≤ x.1 ∧ ∃ c, h[x.1]? = some c ∧ x.2 c
def FldC (Z : State) (c : Cell) (f : FV) : Prop := ∃ (cf : ClassId) (k : Class) (i : Nat) (fd : Field), Z.fieldFound? f.1 f.2.1 f.2.2.1 = some (cf, k, i, fd) ∧ fd.isStatic = false ∧ c.vm ≠ .unknown ∧ c.vm.isStatics = false ∧ Z.vm.assignable c.cls cf = true ∧ c.slots[fd.slot]? = some f.2.2.2
def ExaC (Z : State) (C : String) (c : Cell) : Prop := ∃ k : Class, Z.vm.findClass C = some c.cls ∧ Z.vm.classes[c.cls]? = some k ∧ c.vm.isStatics = false ∧ (k.kind = .ordinary → c.slots.size = k.instanceTypes.size)
def sl3 (Z : State) (f : FV) : Nat := RoadKit.slotOf Z f.1 f.2.1 f.2.2.1
/-- an object of just the class C with these fields -/
def OBJ (Z : State) (C : String) (fs : List FV) (c : Cell) : Prop := ExaC Z C c ∧ (fs.map (sl3 Z)).Nodup ∧ ∀ f ∈ fs, FldC Z c f
/-- an array of this component kind with these values -/
def ARR (Z : State) (ty : FieldType) (vs : List Value) (c : Cell) : Prop := Z.isArrayOf c ty ∧ c.vm ≠ .unknown ∧ c.slots = vs.toArray ∧ (∀ v ∈ vs, fits ty v = true) ∧ vs.length < 2 ^ 31

section Heap
variable {Z : State} {h h' : Heap} {os os' : OS} {a b : Addr} {P P' : Cell → Prop} {C O n d : String} {fs fs' : List FV} {v w : Value} {ty : FieldType} {vs : List Value} {c : Cell}
theorem Hp.nil (Z : State) : Hp Z Z.heap [] := ⟨⟨Nat.le_refl _, fun _ _ q => q⟩, List.nodup_nil, fun k x hx => by simp at hx⟩
theorem Hp.get (H : Hp Z h os) (hm : (a, P) ∈ os) : Z.heap.size ≤ a ∧ ∃ c, h[a]? = some c ∧ P c := by
  obtain ⟨k, hk⟩ := List.getElem?_of_mem hm
  exact H.2.2 k _ hk
theorem OBJ.exa (hc : h[a]? = some c) (q : OBJ Z C fs c) : Exa Z h a C := by
  obtain ⟨⟨k, h1, h2, h3, h4⟩, -⟩ := q
  exact ⟨c, k, hc, h1, h2, h3, h4⟩
theorem OBJ.fld (hc : h[a]? = some c) (q : OBJ Z C fs c) (hm : (O, n, d, v) ∈ fs) : Fld Z h a O n d v := by
  obtain ⟨cf, k, i, fd, h1, h2, h3, h4, h5, h6⟩ := q.2.2 _ hm
  exact ⟨c, cf, k, i, fd, hc, h1, h2, h3, h4, h5, h6⟩
theorem Hp.ne (H : Hp Z h os) {i j : Nat} {P P' : Cell → Prop} (hi : os[i]? = some (a, P)) (hj : os[j]? = some (b, P')) (hn : i ≠ j) : a ≠ b := by
  intro e
  subst e
  have h1 : (os.map Prod.fst)[i]? = some a := by simp [hi]
  have h2 : (os.map Prod.fst)[j]? = some a := by simp [hj]
  exact hn ((List.getElem?_inj (List.getElem?_eq_some_iff.mp h1).1 H.2.1).mp (h1.trans h2.symm))
theorem Hp.upd (H : Hp Z h os) {i : Nat} (hi : os[i]? = some (a, P)) {sl : Nat} (W : Wr h h' a sl v) (q : ∀ c c', h[a]? = some c → P c → h'[a]? = some c' → c' = c.setSlot sl v → P' c') : Hp Z h' (os.set i (a, P')) := by
  obtain ⟨ha, ca, hca, hPa⟩ := H.2.2 i _ hi
  refine ⟨⟨by rw [W.size]; exact H.1.1, fun x cx hx => ?_⟩, ?_, fun k x hx => ?_⟩
  · obtain ⟨cx', e1, -, -, -, e5, -⟩ := wr_at W (H.1.2 x cx hx)
    have ne : x ≠ a := fun e => by
      subst e
      exact absurd (Array.getElem?_eq_some_iff.mp hx).1 (Nat.not_lt.mpr ha)
    rw [e5 ne] at e1; exact e1
  · have e : (os.set i (a, P')).map Prod.fst = os.map Prod.fst := by
      apply List.ext_getElem?
      intro k
      simp only [List.getElem?_map, List.getElem?_set]
      split
      · rename_i e; subst e
        rw [if_pos (List.getElem?_eq_some_iff.mp hi).1, hi]; rfl
      · rfl
    rw [e]; exact H.2.1
  · rw [List.getElem?_set] at hx
    split at hx
    · rename_i e; subst e
      split at hx
      · cases hx
        obtain ⟨c', e1, -, -, -, -, -, e7⟩ := wr_at W hca
        exact ⟨ha, c', e1, q ca c' hca hPa e1 (e7 rfl).1⟩
      · cases hx
    · rename_i hne
      obtain ⟨g1, cx, g2, g3⟩ := H.2.2 k x hx
      obtain ⟨c', e1, -, -, -, e5, -⟩ := wr_at W g2
      have ne : x.1 ≠ a := H.ne (i := k) (j := i) (P := x.2) hx hi (fun e => hne e.symm)
      rw [e5 ne] at e1
      exact ⟨g1, cx, e1, g3⟩
theorem Hp.new (H : Hp Z h os) (E : Ext h h') (hc : h'[h.size]? = some c) (hP : P c) : Hp Z h' ((h.size, P) :: os) := by
  refine ⟨⟨Nat.le_trans H.1.1 E.1, fun x cx q => E.2 _ _ (H.1.2 _ _ q)⟩, ?_, fun k x hx => ?_⟩
  · rw [List.map_cons, List.nodup_cons]
    refine ⟨fun hm => ?_, H.2.1⟩
    obtain ⟨⟨y1, y2⟩, hy, he⟩ := List.mem_map.mp hm
    obtain ⟨-, cy, hcy, -⟩ := H.get hy
    have := (Array.getElem?_eq_some_iff.mp hcy).1
    dsimp at he
    rw [he] at this; exact Nat.lt_irrefl _ this
  · cases k with
    | zero => cases hx; exact ⟨H.1.1, c, hc, hP⟩
    | succ k =>
      obtain ⟨g1, cx, g2, g3⟩ := H.2.2 k x hx
      exact ⟨g1, cx, E.2 _ _ g2, g3⟩
theorem Hp.ext (H : Hp Z h os) (E : Ext h h') : Hp Z h' os :=
  ⟨⟨Nat.le_trans H.1.1 E.1, fun x cx q => E.2 _ _ (H.1.2 _ _ q)⟩, H.2.1, fun k x hx => by
    obtain ⟨g1, cx, g2, g3⟩ := H.2.2 k x hx; exact ⟨g1, cx, E.2 _ _ g2, g3⟩⟩
theorem Hp.perm (H : Hp Z h os) (p : os.Perm os') : Hp Z h os' :=
  ⟨H.1, (p.map Prod.fst).nodup_iff.mp H.2.1, fun k x hx => by
    obtain ⟨k', hk'⟩ := List.getElem?_of_mem (p.symm.subset (List.mem_of_getElem? hx))
    exact H.2.2 k' x hk'⟩
theorem Hp.sub (H : Hp Z h os) (p : List.Sublist os' os) : Hp Z h os' :=
  ⟨H.1, H.2.1.sublist (p.map Prod.fst), fun k x hx => by
    obtain ⟨k', hk'⟩ := List.getElem?_of_mem (p.subset (List.mem_of_getElem? hx))
    exact H.2.2 k' x hk'⟩
theorem Hp.imp (H : Hp Z h ((a, P) :: os)) (q : ∀ c, P c → P' c) : Hp Z h ((a, P') :: os) :=
  ⟨H.1, H.2.1, fun k x hx => by
    cases k with
    | zero => cases hx; obtain ⟨g1, c, g2, g3⟩ := H.2.2 0 (a, P) rfl; exact ⟨g1, c, g2, q c g3⟩
    | succ k => exact H.2.2 (k + 1) x hx⟩
/-- the list os with the entry at a turned from P to P' is os' -/
def Upd (os : OS) (a : Addr) (P P' : Cell → Prop) (os' : OS) : Prop := ∃ i : Nat, os[i]? = some (a, P) ∧ os' = os.set i (a, P')
theorem Upd.here {r : OS} : Upd ((a, P) :: r) a P P' ((a, P') :: r) := ⟨0, rfl, rfl⟩
theorem Upd.there {r r' : OS} {x : Addr × (Cell → Prop)} (u : Upd r a P P' r') : Upd (x :: r) a P P' (x :: r') := by
  obtain ⟨i, h1, rfl⟩ := u; exact ⟨i + 1, h1, rfl⟩
/-- the fields fs with (O, n, d) now at v are fs' -/
def UpdF (fs : List FV) (O n d : String) (w v : Value) (fs' : List FV) : Prop := ∃ i : Nat, fs[i]? = some (O, n, d, w) ∧ fs' = fs.set i (O, n, d, v)
theorem UpdF.here {r : List FV} : UpdF ((O, n, d, w) :: r) O n d w v ((O, n, d, v) :: r) := ⟨0, rfl, rfl⟩
theorem UpdF.there {r r' : List FV} {x : FV} (u : UpdF r O n d w v r') : UpdF (x :: r) O n d w v (x :: r') := by
  obtain ⟨i, h1, rfl⟩ := u; exact ⟨i + 1, h1, rfl⟩
theorem OBJ.put {c : Cell} (q : OBJ Z C fs c) (u : UpdF fs O n d w v fs') : OBJ Z C fs' (c.setSlot (RoadKit.slotOf Z O n d) v) := by
  obtain ⟨i, hi, rfl⟩ := u
  obtain ⟨⟨k, e1, e2, e3, e4⟩, nd, ff⟩ := q
  have hslots : ∀ j : Nat, (c.setSlot (RoadKit.slotOf Z O n d) v).slots[j]? = if RoadKit.slotOf Z O n d = j then (if j < c.slots.size then some v else none) else c.slots[j]? := fun j => by
    simp only [Cell.setSlot, Array.getElem?_setIfInBounds]
    by_cases e : RoadKit.slotOf Z O n d = j
    · rw [if_pos e, if_pos e, e]
    · rw [if_neg e, if_neg e]
  have hes : ∀ x ∈ fs, ∃ fd : Field, sl3 Z x = fd.slot ∧ ∃ cf k' i', Z.fieldFound? x.1 x.2.1 x.2.2.1 = some (cf, k', i', fd) := fun x hx => by
    obtain ⟨cf, k', i', fd, g1, -⟩ := ff x hx
    exact ⟨fd, by simp [sl3, RoadKit.slotOf, g1], cf, k', i', g1⟩
  refine ⟨⟨k, e1, e2, e3, fun z => by rw [show (c.setSlot (RoadKit.slotOf Z O n d) v).slots.size = c.slots.size by simp [Cell.setSlot]]; exact e4 z⟩, ?_, fun x hx => ?_⟩
  · have e : (fs.set i (O, n, d, v)).map (sl3 Z) = fs.map (sl3 Z) := by
      apply List.ext_getElem?
      intro k
      simp only [List.getElem?_map, List.getElem?_set]
      split
      · rename_i e; subst e
        rw [if_pos (List.getElem?_eq_some_iff.mp hi).1, hi]; rfl
      · rfl
    rw [e]; exact nd
  · obtain ⟨m, hm⟩ := List.getElem?_of_mem hx
    rw [List.getElem?_set] at hm
    split at hm
    · split at hm
      · cases hm
        obtain ⟨cf, k', i', fd, g1, g2, g3, g4, g5, g6⟩ := ff _ (List.mem_of_getElem? hi)
        refine ⟨cf, k', i', fd, g1, g2, g3, g4, g5, ?_⟩
        have es : RoadKit.slotOf Z O n d = fd.slot := by have g1' : Z.fieldFound? O n d = some (cf, k', i', fd) := g1; simp [RoadKit.slotOf, g1']
        rw [hslots, if_pos es, if_pos (Array.getElem?_eq_some_iff.mp g6).1]
      · cases hm
    · rename_i hne
      obtain ⟨cf, k', i', fd, g1, g2, g3, g4, g5, g6⟩ := ff x (List.mem_of_getElem? hm)
      refine ⟨cf, k', i', fd, g1, g2, g3, g4, g5, ?_⟩
      have es : sl3 Z x = fd.slot := by simp [sl3, RoadKit.slotOf, g1]
      have ne : RoadKit.slotOf Z O n d ≠ fd.slot := fun e => by
        have h1 : (fs.map (sl3 Z))[i]? = some fd.slot := by simp [hi, sl3, e]
        have h2 : (fs.map (sl3 Z))[m]? = some fd.slot := by simp [hm, es]
        exact hne ((List.getElem?_inj (List.getElem?_eq_some_iff.mp h1).1 nd).mp (h1.trans h2.symm))
      rw [hslots, if_neg ne]; exact g6
theorem ARR.put {c : Cell} (q : ARR Z ty vs c) {k : Nat} (hv : fits ty v = true) : ARR Z ty (vs.set k v) (c.setSlot k v) := by
  obtain ⟨h1, h2, h3, h4, h5⟩ := q
  refine ⟨h1, h2, by simp [Cell.setSlot, h3], fun x hx => ?_, by simpa using h5⟩
  rcases List.mem_or_eq_of_mem_set hx with g | g
  · exact h4 x g
  · rw [g]; exact hv
/-- the sheet's words on the fields of a class, and their first values -/
def Laids (Z : State) (a0 : Array Value) (C : String) : List FV → Prop
  | [] => True
  | f :: r => (Laid Z a0 C f.1 f.2.1 f.2.2.1 ∧ ∃ ty, parseFieldDescriptor f.2.2.1 = some ty ∧ defaultValue ty = f.2.2.2) ∧ Laids Z a0 C r
theorem Laids.mem {a0 : Array Value} : ∀ {fs : List FV}, Laids Z a0 C fs → ∀ f ∈ fs, Laid Z a0 C f.1 f.2.1 f.2.2.1 ∧ ∃ ty, parseFieldDescriptor f.2.2.1 = some ty ∧ defaultValue ty = f.2.2.2
  | [], _, f, hf => nomatch hf
  | g :: r, q, f, hf => by
    rcases List.mem_cons.mp hf with rfl | hf
    · exact q.1
    · exact Laids.mem q.2 f hf
theorem Laids.nodup {a0 : Array Value} : ∀ {fs : List FV}, Laids Z a0 C fs → (fs.map (fun f => f.2.1)).Nodup → (fs.map (sl3 Z)).Nodup
  | [], _, _ => List.nodup_nil
  | g :: r, q, nd => by
    rw [List.map_cons, List.nodup_cons] at nd ⊢
    refine ⟨fun hm => ?_, Laids.nodup q.2 nd.2⟩
    obtain ⟨x, hx, he⟩ := List.mem_map.mp hm
    obtain ⟨l1, t1, p1, -⟩ := q.1
    obtain ⟨l2, t2, p2, -⟩ := Laids.mem q.2 x hx
    exact RoadKit.slot_ne l2 l1 (fun e => nd.1 (List.mem_map.mpr ⟨x, hx, e⟩)) p2 p1 he
theorem OBJ.new {a0 : Array Value} (E : Exa Z h a C) (D : ∀ {O nm d : String} {ty : FieldType}, Laid Z a0 C O nm d → parseFieldDescriptor d = some ty → Fld Z h a O nm d (defaultValue ty)) (q : Laids Z a0 C fs) (nd : (fs.map (fun f => f.2.1)).Nodup) :
    ∃ c, h[a]? = some c ∧ OBJ Z C fs c := by
  obtain ⟨c, k, h1, h2, h3, h4, h5⟩ := E
  refine ⟨c, h1, ⟨k, h2, h3, h4, h5⟩, q.nodup nd, fun f hf => ?_⟩
  obtain ⟨l1, ty, p1, e1⟩ := q.mem f hf
  obtain ⟨c', cf, k', i, fd, g1, g2, g3, g4, g5, g6, g7⟩ := D l1 p1
  cases h1.symm.trans g1
  exact ⟨cf, k', i, fd, g2, g3, g4, g5, g6, by rw [← e1]; exact g7⟩
end Heap
end Jvm.OwnW
namespace Jvm.OwnW
open Sem ClassFile Op Lib Jvm.Stand Jvm.Free Jvm.LawKit Jvm.RoadKit
def Stn (X : Cx) (T : State) (locs : List Loc) (ce sl : Nat) : Prop := Stand X.1 X.2.1 X.2.2.1 X.2.2.2.1 X.2.2.2.2.1 X.2.2.2.2.2.1 X.2.2.2.2.2.2.1 X.2.2.2.2.2.2.2.1 X.2.2.2.2.2.2.2.2.1 X.2.2.2.2.2.2.2.2.2 T locs ce sl
/-- from here the run comes to the method's end, and there Q holds -/
def Fn (X : Cx) (Z : State) (rc rs : Nat) (Q : Option Value → OS → Prop) (start : State) : Prop :=
  ∃ s₂ o, Steps X.1.tables X.2.2.1 X.2.2.2.2.2.2.2.1 start s₂ ∧ s₂.status = .running ∧ Ended s₂ X.2.2.2.2.2.2.2.1 o ∧ ∃ v L, o = .returned v ∧ (∃ os', Q v os' ∧ Hp Z s₂.heap os' ∧ Fr Z.heap.size L) ∧ FrameEnd X.2.2.2.2.1 o s₂ L rc rs
def WP (X : Cx) (Z : State) (rc rs : Nat) (Q : Option Value → OS → Prop) (pc : Nat) (L : List Slot) (S : List Value) (os : OS) (ce sl : Nat) : Prop :=
  ∀ T locs, Stn X T locs ce sl → Hp Z T.heap os → Fr Z.heap.size locs → Fn X Z rc rs Q (T.setTop (mkF X.2.2.2.2.2.1 pc L.toArray S))
def Ctx (X : Cx) (l : Launch) (Z : State) (R : Room) (y : MethodName) (code : ByteArray) (maxL : Nat) (ret : Option FieldType) : Prop :=
  X.2.1 = l ∧ X.2.2.2.1 = R ∧ X.1.tables.exec = Jvm.exec ∧ Z.Warmed39 X.2.2.2.2.1.vm ∧ X.2.2.2.2.2.2.2.2.2.code = code ∧ X.2.2.2.2.2.2.2.2.2.maxLocals = maxL ∧ X.2.2.2.2.1.vm.findClass y.cls = some X.2.2.2.2.2.1.cls ∧ X.2.2.2.2.2.2.2.2.1.name = y.name ∧ X.2.2.2.2.2.2.2.2.1.sig.returnType = ret ∧ X.2.2.2.2.2.2.2.2.1.locks = false
/-- the contract of a method, called with these arguments over this abstract heap -/
def OMeets (l : Launch) (Z : State) (y : MethodName) (bytes : ByteArray) (maxL : Nat) (ret : Option FieldType) (rm : Room) (as : List Value) (os : OS) (Q : Option Value → OS → Prop) : Prop :=
  ∀ h0, Hp Z h0 os → ∀ ws : List Jvm.Cond, MetFree l y (head1 (Jvm.Cond.code y bytes maxL ret :: ws) rm) (fun a U => a = as.toArray ∧ Z.Warmed39 U.vm ∧ U.heap = h0) (fun _ _ _ _ _ => True)
    (fun _ U o U' => ∃ v L, o = .returned v ∧ (∃ os', Q v os' ∧ Hp Z U'.heap os' ∧ Fr Z.heap.size L) ∧ FrameEnd U o U' L rm.cells rm.slots)
def RetV (q : Value → OS → Prop) : Option Value → OS → Prop := fun v os => ∃ x, v = some x ∧ q x os
def RetN (q : OS → Prop) : Option Value → OS → Prop := fun v os => v = none ∧ q os
def laid : List Value → List Slot
  | [] => []
  | v :: r => match v.category with
    | 2 => .val v :: .second :: laid r
    | _ => .val v :: laid r
theorem laid_fold : ∀ (as : List Value) (acc : Array Slot), as.foldl (fun acc v => if v.category = 2 then (acc.push (.val v)).push .second else acc.push (.val v)) acc = acc ++ (laid as).toArray
  | [], acc => by simp [laid]
  | v :: r, acc => by
    rw [List.foldl_cons, laid_fold r]
    have hv : v.category = 2 ∨ v.category = 1 := by cases v <;> simp [Value.category]
    rcases hv with h | h
    · rw [if_pos h]
      simp only [laid, h]
      apply Array.ext'
      simp
    · rw [if_neg (by rw [h]; decide)]
      simp only [laid, h]
      apply Array.ext'
      simp
theorem laid_eq (as : List Value) (n : Nat) {L : List Slot} (h : laid as ++ List.replicate (n - (laid as).length) .unset = L) : argsToLocals as.toArray n = L.toArray := by
  subst h
  unfold argsToLocals
  rw [List.foldl_toArray, laid_fold]
  apply Array.ext'
  simp
theorem OMeets.of_body {l : Launch} {Z : State} {y : MethodName} {bytes : ByteArray} {maxL : Nat} {ret : Option FieldType} {rm : Room} {as : List Value} {os : OS} {Q : Option Value → OS → Prop} (L : List Slot)
    (hpn : plainFor y = true) (hef : argsToLocals as.toArray maxL = L.toArray) (hk : ∀ X : Cx, Ctx X l Z rm y bytes maxL ret → WP X Z rm.cells rm.slots Q 0 L [] os 0 0) : OMeets l Z y bytes maxL ret rm as os Q := by
  intro h0 H ws
  refine MetFree.of_bodySF hpn hisR ?_
  intro p e s m args below meth c s₁ Bd hml0 hP hK
  obtain ⟨rfl, hZ, hh⟩ := hP
  have X0 : Stand p l e rm s m as.toArray below meth c s₁ [] 0 0 := Stand.of_body Bd
  have e0 : s₁.heap = h0 := by rw [← hh, Bd.state]; rfl
  obtain ⟨s2, o, st, r⟩ := hk (p, l, e, rm, s, m, as.toArray, below, meth, c) ⟨rfl, rfl, Bd.exec, hZ, Bd.bytes, hml0, findClass_of_methodNamed Bd.named, (name_of_methodNamed Bd.named Bd.method).1, Bd.returns, Bd.notSynchronized⟩ s₁ [] X0 (by rw [e0]; exact H) (Fr.nil _)
  refine ⟨s2, o, castTop (g' := mkF m 0 L.toArray []) ?_ st, r⟩
  simp only [entryFrame, mkF, hef]
theorem OMeets.weaken {l : Launch} {Z : State} {y : MethodName} {bytes : ByteArray} {maxL : Nat} {ret : Option FieldType} {rm : Room} {as : List Value} {os : OS} {Q Q' : Option Value → OS → Prop}
    (h : OMeets l Z y bytes maxL ret rm as os Q) (q : ∀ v os', Q v os' → Q' v os') : OMeets l Z y bytes maxL ret rm as os Q' := by
  intro h0 H ws p e ha hc hk s m args below hf happ hP hK
  obtain ⟨n, o, h1, h2, h3, v, L, h4, ⟨os', h5, h6⟩, h7⟩ := h h0 H ws p e ha hc hk s m args below hf happ hP hK
  exact ⟨n, o, h1, h2, h3, v, L, h4, ⟨os', q v os' h5, h6⟩, h7⟩
section Ops
variable {X : Cx} {l : Launch} {Z : State} {R : Room} {y : MethodName} {code : ByteArray} {maxL : Nat} {ret : Option FieldType} {rc rs : Nat} {Q : Option Value → OS → Prop} {pc : Nat} {L : List Slot} {S : List Value} {os os' : OS} {ce sl : Nat} {a0 : Array Value}
theorem WP.perm (p : os.Perm os') (k : WP X Z rc rs Q pc L S os' ce sl) : WP X Z rc rs Q pc L S os ce sl := fun T locs hT hH hF => k T locs hT (hH.perm p) hF
theorem WP.sub (p : List.Sublist os' os) (k : WP X Z rc rs Q pc L S os' ce sl) : WP X Z rc rs Q pc L S os ce sl := fun T locs hT hH hF => k T locs hT (hH.sub p) hF
/-- a fact out of the abstract heap -/
theorem WP.fact {F : Prop} (f : ∀ h, Hp Z h os → F) (k : F → WP X Z rc rs Q pc L S os ce sl) : WP X Z rc rs Q pc L S os ce sl := fun T locs hT hH hF => k (f _ hH) T locs hT hH hF
theorem perm_front {α : Type} {x : α} : ∀ {os : List α} (i : Nat), os[i]? = some x → os.Perm (x :: os.eraseIdx i)
  | [], i, h => by simp at h
  | y :: r, 0, h => by cases h; exact List.Perm.refl _
  | y :: r, i + 1, h => ((perm_front (os := r) i h).cons y).trans (List.Perm.swap x y _)
theorem pickHere {α : Type} {x : α} {r : List α} : (x :: r).Perm (x :: r) := List.Perm.refl _
theorem pickThere {α : Type} {x z : α} {r r' : List α} (h : r.Perm (x :: r')) : (z :: r).Perm (x :: z :: r') := (h.cons z).trans (List.Perm.swap x z r')
/-- the entry of address a comes to the front -/
theorem WP.pick {P : Cell → Prop} (a : Addr) (p : os.Perm ((a, P) :: os')) (k : WP X Z rc rs Q pc L S ((a, P) :: os') ce sl) : WP X Z rc rs Q pc L S os ce sl := WP.perm p k
theorem WP.imp0 {a : Addr} {P P2 : Cell → Prop} {r : OS} (q : ∀ c, P c → P2 c) (k : WP X Z rc rs Q pc L S ((a, P2) :: r) ce sl) : WP X Z rc rs Q pc L S ((a, P) :: r) ce sl := fun T locs hT hH hF => k T locs hT (hH.imp q) hF
/-- more cells and slots booked than were used -/
theorem WP.book {ce' sl' : Nat} (hc : ce ≤ ce') (hs : sl ≤ sl') (k : WP X Z rc rs Q pc L S os ce' sl') : WP X Z rc rs Q pc L S os ce sl := by
  intro T locs hT hH hF
  refine k T locs ?_ hH hF
  obtain ⟨h1, h2, h3, h4, h5, h6, h7, h8, h9, h10, h11, h12, h13, h14⟩ := hT
  exact ⟨h1, h2, h3, h4, h5, h6, h7, h8, h9, h10, h11, h12, h13, h14.mono hc hs⟩

theorem W.iadd {x z : Int32} (K : Ctx X l Z R y code maxL ret) (pc' : Nat) (hd : decode code pc = .ok (.iadd, 1)) (k : WP X Z rc rs Q pc' L (.int (x + z) :: S) os ce sl) (hp : pc + 1 = pc' := by rfl) : WP X Z rc rs Q pc L (.int z :: .int x :: S) os ce sl := by
  obtain ⟨p, l', e, R', s, m, args, below, meth, c⟩ := X
  obtain ⟨h1, h2, hx, hZ, hby, hml, hown, hnm, hret, hlk⟩ := K
  have h2' : R' = R := h2
  subst h2'
  subst hp
  intro T locs hT0 hH hF
  have hT : Stand p l' e R' s m args below meth c T locs ce sl := hT0
  obtain ⟨s2, o, st, r⟩ := k T locs hT hH hF
  exact ⟨s2, o, XS.iadd (Stand.here hT) hx rfl (hb hby hd) rfl st, r⟩
theorem W.isub {x z : Int32} (K : Ctx X l Z R y code maxL ret) (pc' : Nat) (hd : decode code pc = .ok (.isub, 1)) (k : WP X Z rc rs Q pc' L (.int (x - z) :: S) os ce sl) (hp : pc + 1 = pc' := by rfl) : WP X Z rc rs Q pc L (.int z :: .int x :: S) os ce sl := by
  obtain ⟨p, l', e, R', s, m, args, below, meth, c⟩ := X
  obtain ⟨h1, h2, hx, hZ, hby, hml, hown, hnm, hret, hlk⟩ := K
  have h2' : R' = R := h2
  subst h2'
  subst hp
  intro T locs hT0 hH hF
  have hT : Stand p l' e R' s m args below meth c T locs ce sl := hT0
  obtain ⟨s2, o, st, r⟩ := k T locs hT hH hF
  exact ⟨s2, o, XS.isub (Stand.here hT) hx rfl (hb hby hd) rfl st, r⟩
theorem W.imul {x z : Int32} (K : Ctx X l Z R y code maxL ret) (pc' : Nat) (hd : decode code pc = .ok (.imul, 1)) (k : WP X Z rc rs Q pc' L (.int (x * z) :: S) os ce sl) (hp : pc + 1 = pc' := by rfl) : WP X Z rc rs Q pc L (.int z :: .int x :: S) os ce sl := by
  obtain ⟨p, l', e, R', s, m, args, below, meth, c⟩ := X
  obtain ⟨h1, h2, hx, hZ, hby, hml, hown, hnm, hret, hlk⟩ := K
  have h2' : R' = R := h2
  subst h2'
  subst hp
  intro T locs hT0 hH hF
  have hT : Stand p l' e R' s m args below meth c T locs ce sl := hT0
  obtain ⟨s2, o, st, r⟩ := k T locs hT hH hF
  exact ⟨s2, o, XS.imul (Stand.here hT) hx rfl (hb hby hd) rfl st, r⟩
theorem W.iand {x z : Int32} (K : Ctx X l Z R y code maxL ret) (pc' : Nat) (hd : decode code pc = .ok (.iand, 1)) (k : WP X Z rc rs Q pc' L (.int (x &&& z) :: S) os ce sl) (hp : pc + 1 = pc' := by rfl) : WP X Z rc rs Q pc L (.int z :: .int x :: S) os ce sl := by
  obtain ⟨p, l', e, R', s, m, args, below, meth, c⟩ := X
  obtain ⟨h1, h2, hx, hZ, hby, hml, hown, hnm, hret, hlk⟩ := K
  have h2' : R' = R := h2
  subst h2'
  subst hp
  intro T locs hT0 hH hF
  have hT : Stand p l' e R' s m args below meth c T locs ce sl := hT0
  obtain ⟨s2, o, st, r⟩ := k T locs hT hH hF
  exact ⟨s2, o, XS.iand (Stand.here hT) hx rfl (hb hby hd) rfl st, r⟩
theorem W.ior {x z : Int32} (K : Ctx X l Z R y code maxL ret) (pc' : Nat) (hd : decode code pc = .ok (.ior, 1)) (k : WP X Z rc rs Q pc' L (.int (x ||| z) :: S) os ce sl) (hp : pc + 1 = pc' := by rfl) : WP X Z rc rs Q pc L (.int z :: .int x :: S) os ce sl := by
  obtain ⟨p, l', e, R', s, m, args, below, meth, c⟩ := X
  obtain ⟨h1, h2, hx, hZ, hby, hml, hown, hnm, hret, hlk⟩ := K
  have h2' : R' = R := h2
  subst h2'
  subst hp
  intro T locs hT0 hH hF
  have hT : Stand p l' e R' s m args below meth c T locs ce sl := hT0
  obtain ⟨s2, o, st, r⟩ := k T locs hT hH hF
  exact ⟨s2, o, XS.ior (Stand.here hT) hx rfl (hb hby hd) rfl st, r⟩
theorem W.ixor {x z : Int32} (K : Ctx X l Z R y code maxL ret) (pc' : Nat) (hd : decode code pc = .ok (.ixor, 1)) (k : WP X Z rc rs Q pc' L (.int (x ^^^ z) :: S) os ce sl) (hp : pc + 1 = pc' := by rfl) : WP X Z rc rs Q pc L (.int z :: .int x :: S) os ce sl := by
  obtain ⟨p, l', e, R', s, m, args, below, meth, c⟩ := X
  obtain ⟨h1, h2, hx, hZ, hby, hml, hown, hnm, hret, hlk⟩ := K
  have h2' : R' = R := h2
  subst h2'
  subst hp
  intro T locs hT0 hH hF
  have hT : Stand p l' e R' s m args below meth c T locs ce sl := hT0
  obtain ⟨s2, o, st, r⟩ := k T locs hT hH hF
  exact ⟨s2, o, XS.ixor (Stand.here hT) hx rfl (hb hby hd) rfl st, r⟩
theorem W.ishl {x z : Int32} (K : Ctx X l Z R y code maxL ret) (pc' : Nat) (hd : decode code pc = .ok (.ishl, 1)) (k : WP X Z rc rs Q pc' L (.int (x <<< (z &&& 31)) :: S) os ce sl) (hp : pc + 1 = pc' := by rfl) : WP X Z rc rs Q pc L (.int z :: .int x :: S) os ce sl := by
  obtain ⟨p, l', e, R', s, m, args, below, meth, c⟩ := X
  obtain ⟨h1, h2, hx, hZ, hby, hml, hown, hnm, hret, hlk⟩ := K
  have h2' : R' = R := h2
  subst h2'
  subst hp
  intro T locs hT0 hH hF
  have hT : Stand p l' e R' s m args below meth c T locs ce sl := hT0
  obtain ⟨s2, o, st, r⟩ := k T locs hT hH hF
  exact ⟨s2, o, XS.ishl (Stand.here hT) hx rfl (hb hby hd) rfl st, r⟩
theorem W.ishr {x z : Int32} (K : Ctx X l Z R y code maxL ret) (pc' : Nat) (hd : decode code pc = .ok (.ishr, 1)) (k : WP X Z rc rs Q pc' L (.int (x >>> (z &&& 31)) :: S) os ce sl) (hp : pc + 1 = pc' := by rfl) : WP X Z rc rs Q pc L (.int z :: .int x :: S) os ce sl := by
  obtain ⟨p, l', e, R', s, m, args, below, meth, c⟩ := X
  obtain ⟨h1, h2, hx, hZ, hby, hml, hown, hnm, hret, hlk⟩ := K
  have h2' : R' = R := h2
  subst h2'
  subst hp
  intro T locs hT0 hH hF
  have hT : Stand p l' e R' s m args below meth c T locs ce sl := hT0
  obtain ⟨s2, o, st, r⟩ := k T locs hT hH hF
  exact ⟨s2, o, XS.ishr (Stand.here hT) hx rfl (hb hby hd) rfl st, r⟩
theorem W.iushr {x z : Int32} (K : Ctx X l Z R y code maxL ret) (pc' : Nat) (hd : decode code pc = .ok (.iushr, 1)) (k : WP X Z rc rs Q pc' L (.int ((x.toUInt32 >>> (z &&& 31).toUInt32).toInt32) :: S) os ce sl) (hp : pc + 1 = pc' := by rfl) : WP X Z rc rs Q pc L (.int z :: .int x :: S) os ce sl := by
  obtain ⟨p, l', e, R', s, m, args, below, meth, c⟩ := X
  obtain ⟨h1, h2, hx, hZ, hby, hml, hown, hnm, hret, hlk⟩ := K
  have h2' : R' = R := h2
  subst h2'
  subst hp
  intro T locs hT0 hH hF
  have hT : Stand p l' e R' s m args below meth c T locs ce sl := hT0
  obtain ⟨s2, o, st, r⟩ := k T locs hT hH hF
  exact ⟨s2, o, XS.iushr (Stand.here hT) hx rfl (hb hby hd) rfl st, r⟩
theorem W.ladd {x z : Int64} (K : Ctx X l Z R y code maxL ret) (pc' : Nat) (hd : decode code pc = .ok (.ladd, 1)) (k : WP X Z rc rs Q pc' L (.long (x + z) :: S) os ce sl) (hp : pc + 1 = pc' := by rfl) : WP X Z rc rs Q pc L (.long z :: .long x :: S) os ce sl := by
  obtain ⟨p, l', e, R', s, m, args, below, meth, c⟩ := X
  obtain ⟨h1, h2, hx, hZ, hby, hml, hown, hnm, hret, hlk⟩ := K
  have h2' : R' = R := h2
  subst h2'
  subst hp
  intro T locs hT0 hH hF
  have hT : Stand p l' e R' s m args below meth c T locs ce sl := hT0
  obtain ⟨s2, o, st, r⟩ := k T locs hT hH hF
  exact ⟨s2, o, XS.ladd (Stand.here hT) hx rfl (hb hby hd) rfl st, r⟩
theorem W.lsub {x z : Int64} (K : Ctx X l Z R y code maxL ret) (pc' : Nat) (hd : decode code pc = .ok (.lsub, 1)) (k : WP X Z rc rs Q pc' L (.long (x - z) :: S) os ce sl) (hp : pc + 1 = pc' := by rfl) : WP X Z rc rs Q pc L (.long z :: .long x :: S) os ce sl := by
  obtain ⟨p, l', e, R', s, m, args, below, meth, c⟩ := X
  obtain ⟨h1, h2, hx, hZ, hby, hml, hown, hnm, hret, hlk⟩ := K
  have h2' : R' = R := h2
  subst h2'
  subst hp
  intro T locs hT0 hH hF
  have hT : Stand p l' e R' s m args below meth c T locs ce sl := hT0
  obtain ⟨s2, o, st, r⟩ := k T locs hT hH hF
  exact ⟨s2, o, XS.lsub (Stand.here hT) hx rfl (hb hby hd) rfl st, r⟩
theorem W.lmul {x z : Int64} (K : Ctx X l Z R y code maxL ret) (pc' : Nat) (hd : decode code pc = .ok (.lmul, 1)) (k : WP X Z rc rs Q pc' L (.long (x * z) :: S) os ce sl) (hp : pc + 1 = pc' := by rfl) : WP X Z rc rs Q pc L (.long z :: .long x :: S) os ce sl := by
  obtain ⟨p, l', e, R', s, m, args, below, meth, c⟩ := X
  obtain ⟨h1, h2, hx, hZ, hby, hml, hown, hnm, hret, hlk⟩ := K
  have h2' : R' = R := h2
  subst h2'
  subst hp
  intro T locs hT0 hH hF
  have hT : Stand p l' e R' s m args below meth c T locs ce sl := hT0
  obtain ⟨s2, o, st, r⟩ := k T locs hT hH hF
  exact ⟨s2, o, XS.lmul (Stand.here hT) hx rfl (hb hby hd) rfl st, r⟩
theorem W.land {x z : Int64} (K : Ctx X l Z R y code maxL ret) (pc' : Nat) (hd : decode code pc = .ok (.land, 1)) (k : WP X Z rc rs Q pc' L (.long (x &&& z) :: S) os ce sl) (hp : pc + 1 = pc' := by rfl) : WP X Z rc rs Q pc L (.long z :: .long x :: S) os ce sl := by
  obtain ⟨p, l', e, R', s, m, args, below, meth, c⟩ := X
  obtain ⟨h1, h2, hx, hZ, hby, hml, hown, hnm, hret, hlk⟩ := K
  have h2' : R' = R := h2
  subst h2'
  subst hp
  intro T locs hT0 hH hF
  have hT : Stand p l' e R' s m args below meth c T locs ce sl := hT0
  obtain ⟨s2, o, st, r⟩ := k T locs hT hH hF
  exact ⟨s2, o, XS.land (Stand.here hT) hx rfl (hb hby hd) rfl st, r⟩
theorem W.lor {x z : Int64} (K : Ctx X l Z R y code maxL ret) (pc' : Nat) (hd : decode code pc = .ok (.lor, 1)) (k : WP X Z rc rs Q pc' L (.long (x ||| z) :: S) os ce sl) (hp : pc + 1 = pc' := by rfl) : WP X Z rc rs Q pc L (.long z :: .long x :: S) os ce sl := by
  obtain ⟨p, l', e, R', s, m, args, below, meth, c⟩ := X
  obtain ⟨h1, h2, hx, hZ, hby, hml, hown, hnm, hret, hlk⟩ := K
  have h2' : R' = R := h2
  subst h2'
  subst hp
  intro T locs hT0 hH hF
  have hT : Stand p l' e R' s m args below meth c T locs ce sl := hT0
  obtain ⟨s2, o, st, r⟩ := k T locs hT hH hF
  exact ⟨s2, o, XS.lor (Stand.here hT) hx rfl (hb hby hd) rfl st, r⟩
theorem W.lxor {x z : Int64} (K : Ctx X l Z R y code maxL ret) (pc' : Nat) (hd : decode code pc = .ok (.lxor, 1)) (k : WP X Z rc rs Q pc' L (.long (x ^^^ z) :: S) os ce sl) (hp : pc + 1 = pc' := by rfl) : WP X Z rc rs Q pc L (.long z :: .long x :: S) os ce sl := by
  obtain ⟨p, l', e, R', s, m, args, below, meth, c⟩ := X
  obtain ⟨h1, h2, hx, hZ, hby, hml, hown, hnm, hret, hlk⟩ := K
  have h2' : R' = R := h2
  subst h2'
  subst hp
  intro T locs hT0 hH hF
  have hT : Stand p l' e R' s m args below meth c T locs ce sl := hT0
  obtain ⟨s2, o, st, r⟩ := k T locs hT hH hF
  exact ⟨s2, o, XS.lxor (Stand.here hT) hx rfl (hb hby hd) rfl st, r⟩
theorem W.lshl {x : Int64} {z : Int32} (K : Ctx X l Z R y code maxL ret) (pc' : Nat) (hd : decode code pc = .ok (.lshl, 1)) (k : WP X Z rc rs Q pc' L (.long (x <<< (z &&& 0x3f).toInt64) :: S) os ce sl) (hp : pc + 1 = pc' := by rfl) : WP X Z rc rs Q pc L (.int z :: .long x :: S) os ce sl := by
  obtain ⟨p, l', e, R', s, m, args, below, meth, c⟩ := X
  obtain ⟨h1, h2, hx, hZ, hby, hml, hown, hnm, hret, hlk⟩ := K
  have h2' : R' = R := h2
  subst h2'
  subst hp
  intro T locs hT0 hH hF
  have hT : Stand p l' e R' s m args below meth c T locs ce sl := hT0
  obtain ⟨s2, o, st, r⟩ := k T locs hT hH hF
  exact ⟨s2, o, XS.lshl (Stand.here hT) hx rfl (hb hby hd) rfl st, r⟩
theorem W.lshr {x : Int64} {z : Int32} (K : Ctx X l Z R y code maxL ret) (pc' : Nat) (hd : decode code pc = .ok (.lshr, 1)) (k : WP X Z rc rs Q pc' L (.long (x >>> (z &&& 0x3f).toInt64) :: S) os ce sl) (hp : pc + 1 = pc' := by rfl) : WP X Z rc rs Q pc L (.int z :: .long x :: S) os ce sl := by
  obtain ⟨p, l', e, R', s, m, args, below, meth, c⟩ := X
  obtain ⟨h1, h2, hx, hZ, hby, hml, hown, hnm, hret, hlk⟩ := K
  have h2' : R' = R := h2
  subst h2'
  subst hp
  intro T locs hT0 hH hF
  have hT : Stand p l' e R' s m args below meth c T locs ce sl := hT0
  obtain ⟨s2, o, st, r⟩ := k T locs hT hH hF
  exact ⟨s2, o, XS.lshr (Stand.here hT) hx rfl (hb hby hd) rfl st, r⟩
theorem W.lushr {x : Int64} {z : Int32} (K : Ctx X l Z R y code maxL ret) (pc' : Nat) (hd : decode code pc = .ok (.lushr, 1)) (k : WP X Z rc rs Q pc' L (.long ((x.toUInt64 >>> (z &&& 0x3f).toInt64.toUInt64).toInt64) :: S) os ce sl) (hp : pc + 1 = pc' := by rfl) : WP X Z rc rs Q pc L (.int z :: .long x :: S) os ce sl := by
  obtain ⟨p, l', e, R', s, m, args, below, meth, c⟩ := X
  obtain ⟨h1, h2, hx, hZ, hby, hml, hown, hnm, hret, hlk⟩ := K
  have h2' : R' = R := h2
  subst h2'
  subst hp
  intro T locs hT0 hH hF
  have hT : Stand p l' e R' s m args below meth c T locs ce sl := hT0
  obtain ⟨s2, o, st, r⟩ := k T locs hT hH hF
  exact ⟨s2, o, XS.lushr (Stand.here hT) hx rfl (hb hby hd) rfl st, r⟩
theorem W.ineg {x : Int32} (K : Ctx X l Z R y code maxL ret) (pc' : Nat) (hd : decode code pc = .ok (.ineg, 1)) (k : WP X Z rc rs Q pc' L (.int (-x) :: S) os ce sl) (hp : pc + 1 = pc' := by rfl) : WP X Z rc rs Q pc L (.int x :: S) os ce sl := by
  obtain ⟨p, l', e, R', s, m, args, below, meth, c⟩ := X
  obtain ⟨h1, h2, hx, hZ, hby, hml, hown, hnm, hret, hlk⟩ := K
  have h2' : R' = R := h2
  subst h2'
  subst hp
  intro T locs hT0 hH hF
  have hT : Stand p l' e R' s m args below meth c T locs ce sl := hT0
  obtain ⟨s2, o, st, r⟩ := k T locs hT hH hF
  exact ⟨s2, o, XS.ineg (Stand.here hT) hx rfl (hb hby hd) rfl st, r⟩
theorem W.lneg {x : Int64} (K : Ctx X l Z R y code maxL ret) (pc' : Nat) (hd : decode code pc = .ok (.lneg, 1)) (k : WP X Z rc rs Q pc' L (.long (-x) :: S) os ce sl) (hp : pc + 1 = pc' := by rfl) : WP X Z rc rs Q pc L (.long x :: S) os ce sl := by
  obtain ⟨p, l', e, R', s, m, args, below, meth, c⟩ := X
  obtain ⟨h1, h2, hx, hZ, hby, hml, hown, hnm, hret, hlk⟩ := K
  have h2' : R' = R := h2
  subst h2'
  subst hp
  intro T locs hT0 hH hF
  have hT : Stand p l' e R' s m args below meth c T locs ce sl := hT0
  obtain ⟨s2, o, st, r⟩ := k T locs hT hH hF
  exact ⟨s2, o, XS.lneg (Stand.here hT) hx rfl (hb hby hd) rfl st, r⟩
theorem W.i2l {x : Int32} (K : Ctx X l Z R y code maxL ret) (pc' : Nat) (hd : decode code pc = .ok (.i2l, 1)) (k : WP X Z rc rs Q pc' L (.long x.toInt64 :: S) os ce sl) (hp : pc + 1 = pc' := by rfl) : WP X Z rc rs Q pc L (.int x :: S) os ce sl := by
  obtain ⟨p, l', e, R', s, m, args, below, meth, c⟩ := X
  obtain ⟨h1, h2, hx, hZ, hby, hml, hown, hnm, hret, hlk⟩ := K
  have h2' : R' = R := h2
  subst h2'
  subst hp
  intro T locs hT0 hH hF
  have hT : Stand p l' e R' s m args below meth c T locs ce sl := hT0
  obtain ⟨s2, o, st, r⟩ := k T locs hT hH hF
  exact ⟨s2, o, XS.i2l (Stand.here hT) hx rfl (hb hby hd) rfl st, r⟩
theorem W.l2i {x : Int64} (K : Ctx X l Z R y code maxL ret) (pc' : Nat) (hd : decode code pc = .ok (.l2i, 1)) (k : WP X Z rc rs Q pc' L (.int x.toInt32 :: S) os ce sl) (hp : pc + 1 = pc' := by rfl) : WP X Z rc rs Q pc L (.long x :: S) os ce sl := by
  obtain ⟨p, l', e, R', s, m, args, below, meth, c⟩ := X
  obtain ⟨h1, h2, hx, hZ, hby, hml, hown, hnm, hret, hlk⟩ := K
  have h2' : R' = R := h2
  subst h2'
  subst hp
  intro T locs hT0 hH hF
  have hT : Stand p l' e R' s m args below meth c T locs ce sl := hT0
  obtain ⟨s2, o, st, r⟩ := k T locs hT hH hF
  exact ⟨s2, o, XS.l2i (Stand.here hT) hx rfl (hb hby hd) rfl st, r⟩
theorem W.i2b {x : Int32} (K : Ctx X l Z R y code maxL ret) (pc' : Nat) (hd : decode code pc = .ok (.i2b, 1)) (k : WP X Z rc rs Q pc' L (.int x.toInt8.toInt32 :: S) os ce sl) (hp : pc + 1 = pc' := by rfl) : WP X Z rc rs Q pc L (.int x :: S) os ce sl := by
  obtain ⟨p, l', e, R', s, m, args, below, meth, c⟩ := X
  obtain ⟨h1, h2, hx, hZ, hby, hml, hown, hnm, hret, hlk⟩ := K
  have h2' : R' = R := h2
  subst h2'
  subst hp
  intro T locs hT0 hH hF
  have hT : Stand p l' e R' s m args below meth c T locs ce sl := hT0
  obtain ⟨s2, o, st, r⟩ := k T locs hT hH hF
  exact ⟨s2, o, XS.i2b (Stand.here hT) hx rfl (hb hby hd) rfl st, r⟩
theorem W.i2c {x : Int32} (K : Ctx X l Z R y code maxL ret) (pc' : Nat) (hd : decode code pc = .ok (.i2c, 1)) (k : WP X Z rc rs Q pc' L (.int x.toUInt32.toUInt16.toUInt32.toInt32 :: S) os ce sl) (hp : pc + 1 = pc' := by rfl) : WP X Z rc rs Q pc L (.int x :: S) os ce sl := by
  obtain ⟨p, l', e, R', s, m, args, below, meth, c⟩ := X
  obtain ⟨h1, h2, hx, hZ, hby, hml, hown, hnm, hret, hlk⟩ := K
  have h2' : R' = R := h2
  subst h2'
  subst hp
  intro T locs hT0 hH hF
  have hT : Stand p l' e R' s m args below meth c T locs ce sl := hT0
  obtain ⟨s2, o, st, r⟩ := k T locs hT hH hF
  exact ⟨s2, o, XS.i2c (Stand.here hT) hx rfl (hb hby hd) rfl st, r⟩
theorem W.i2s {x : Int32} (K : Ctx X l Z R y code maxL ret) (pc' : Nat) (hd : decode code pc = .ok (.i2s, 1)) (k : WP X Z rc rs Q pc' L (.int x.toInt16.toInt32 :: S) os ce sl) (hp : pc + 1 = pc' := by rfl) : WP X Z rc rs Q pc L (.int x :: S) os ce sl := by
  obtain ⟨p, l', e, R', s, m, args, below, meth, c⟩ := X
  obtain ⟨h1, h2, hx, hZ, hby, hml, hown, hnm, hret, hlk⟩ := K
  have h2' : R' = R := h2
  subst h2'
  subst hp
  intro T locs hT0 hH hF
  have hT : Stand p l' e R' s m args below meth c T locs ce sl := hT0
  obtain ⟨s2, o, st, r⟩ := k T locs hT hH hF
  exact ⟨s2, o, XS.i2s (Stand.here hT) hx rfl (hb hby hd) rfl st, r⟩
theorem W.idiv {x z : Int32} (K : Ctx X l Z R y code maxL ret) (pc' : Nat) (hd : decode code pc = .ok (.idiv, 1)) (hz : z ≠ 0) (k : WP X Z rc rs Q pc' L (.int (x / z) :: S) os ce sl) (hp : pc + 1 = pc' := by rfl) : WP X Z rc rs Q pc L (.int z :: .int x :: S) os ce sl := by
  obtain ⟨p, l', e, R', s, m, args, below, meth, c⟩ := X
  obtain ⟨h1, h2, hx, hZ, hby, hml, hown, hnm, hret, hlk⟩ := K
  have h2' : R' = R := h2
  subst h2'
  subst hp
  intro T locs hT0 hH hF
  have hT : Stand p l' e R' s m args below meth c T locs ce sl := hT0
  obtain ⟨s2, o, st, r⟩ := k T locs hT hH hF
  exact ⟨s2, o, XS.idiv (Stand.here hT) hx rfl (hb hby hd) rfl hz st, r⟩
theorem W.ldiv {x z : Int64} (K : Ctx X l Z R y code maxL ret) (pc' : Nat) (hd : decode code pc = .ok (.ldiv, 1)) (hz : z ≠ 0) (k : WP X Z rc rs Q pc' L (.long (x / z) :: S) os ce sl) (hp : pc + 1 = pc' := by rfl) : WP X Z rc rs Q pc L (.long z :: .long x :: S) os ce sl := by
  obtain ⟨p, l', e, R', s, m, args, below, meth, c⟩ := X
  obtain ⟨h1, h2, hx, hZ, hby, hml, hown, hnm, hret, hlk⟩ := K
  have h2' : R' = R := h2
  subst h2'
  subst hp
  intro T locs hT0 hH hF
  have hT : Stand p l' e R' s m args below meth c T locs ce sl := hT0
  obtain ⟨s2, o, st, r⟩ := k T locs hT hH hF
  exact ⟨s2, o, XS.ldiv (Stand.here hT) hx rfl (hb hby hd) rfl hz st, r⟩
theorem W.irem {x z : Int32} (K : Ctx X l Z R y code maxL ret) (pc' : Nat) (hd : decode code pc = .ok (.irem, 1)) (hz : z ≠ 0) (k : WP X Z rc rs Q pc' L (.int (x % z) :: S) os ce sl) (hp : pc + 1 = pc' := by rfl) : WP X Z rc rs Q pc L (.int z :: .int x :: S) os ce sl := by
  obtain ⟨p, l', e, R', s, m, args, below, meth, c⟩ := X
  obtain ⟨h1, h2, hx, hZ, hby, hml, hown, hnm, hret, hlk⟩ := K
  have h2' : R' = R := h2
  subst h2'
  subst hp
  intro T locs hT0 hH hF
  have hT : Stand p l' e R' s m args below meth c T locs ce sl := hT0
  obtain ⟨s2, o, st, r⟩ := k T locs hT hH hF
  exact ⟨s2, o, iremM hT hx rfl (hb hby hd) rfl hz st, r⟩
theorem W.dup {x : Value} (K : Ctx X l Z R y code maxL ret) (pc' : Nat) (hd : decode code pc = .ok (.dup, 1)) (k : WP X Z rc rs Q pc' L (x :: x :: S) os ce sl) (hc : x.category = 1 := by rfl) (hp : pc + 1 = pc' := by rfl) : WP X Z rc rs Q pc L (x :: S) os ce sl := by
  obtain ⟨p, l', e, R', s, m, args, below, meth, c⟩ := X
  obtain ⟨h1, h2, hx, hZ, hby, hml, hown, hnm, hret, hlk⟩ := K
  have h2' : R' = R := h2
  subst h2'
  subst hp
  intro T locs hT0 hH hF
  have hT : Stand p l' e R' s m args below meth c T locs ce sl := hT0
  obtain ⟨s2, o, st, r⟩ := k T locs hT hH hF
  exact ⟨s2, o, XS.dup (Stand.here hT) hx rfl (hb hby hd) rfl hc st, r⟩
theorem W.popx {x : Value} (K : Ctx X l Z R y code maxL ret) (pc' : Nat) (hd : decode code pc = .ok (.pop, 1)) (k : WP X Z rc rs Q pc' L S os ce sl) (hc : x.category = 1 := by rfl) (hp : pc + 1 = pc' := by rfl) : WP X Z rc rs Q pc L (x :: S) os ce sl := by
  obtain ⟨p, l', e, R', s, m, args, below, meth, c⟩ := X
  obtain ⟨h1, h2, hx, hZ, hby, hml, hown, hnm, hret, hlk⟩ := K
  have h2' : R' = R := h2
  subst h2'
  subst hp
  intro T locs hT0 hH hF
  have hT : Stand p l' e R' s m args below meth c T locs ce sl := hT0
  obtain ⟨s2, o, st, r⟩ := k T locs hT hH hF
  exact ⟨s2, o, XS.pop (Stand.here hT) hx rfl (hb hby hd) rfl hc st, r⟩
theorem W.dupX1 {x z : Value} (K : Ctx X l Z R y code maxL ret) (pc' : Nat) (hd : decode code pc = .ok (.dup_x1, 1)) (k : WP X Z rc rs Q pc' L (x :: z :: x :: S) os ce sl) (hc : x.category = 1 := by rfl) (hc2 : z.category = 1 := by rfl) (hp : pc + 1 = pc' := by rfl) : WP X Z rc rs Q pc L (x :: z :: S) os ce sl := by
  obtain ⟨p, l', e, R', s, m, args, below, meth, c⟩ := X
  obtain ⟨h1, h2, hx, hZ, hby, hml, hown, hnm, hret, hlk⟩ := K
  have h2' : R' = R := h2
  subst h2'
  subst hp
  intro T locs hT0 hH hF
  have hT : Stand p l' e R' s m args below meth c T locs ce sl := hT0
  obtain ⟨s2, o, st, r⟩ := k T locs hT hH hF
  exact ⟨s2, o, XS.dupX1 (Stand.here hT) hx rfl (hb hby hd) rfl hc hc2 st, r⟩
theorem W.dup2 {x z : Value} (K : Ctx X l Z R y code maxL ret) (pc' : Nat) (hd : decode code pc = .ok (.dup2, 1)) (k : WP X Z rc rs Q pc' L (x :: z :: x :: z :: S) os ce sl) (hc : x.category = 1 := by rfl) (hc2 : z.category = 1 := by rfl) (hp : pc + 1 = pc' := by rfl) : WP X Z rc rs Q pc L (x :: z :: S) os ce sl := by
  obtain ⟨p, l', e, R', s, m, args, below, meth, c⟩ := X
  obtain ⟨h1, h2, hx, hZ, hby, hml, hown, hnm, hret, hlk⟩ := K
  have h2' : R' = R := h2
  subst h2'
  subst hp
  intro T locs hT0 hH hF
  have hT : Stand p l' e R' s m args below meth c T locs ce sl := hT0
  obtain ⟨s2, o, st, r⟩ := k T locs hT hH hF
  exact ⟨s2, o, XT.dup2 (Stand.here hT) hx rfl (hb hby hd) rfl hc hc2 st, r⟩
theorem W.dup2L {x : Int64} (K : Ctx X l Z R y code maxL ret) (pc' : Nat) (hd : decode code pc = .ok (.dup2, 1)) (k : WP X Z rc rs Q pc' L (.long x :: .long x :: S) os ce sl)  (hp : pc + 1 = pc' := by rfl) : WP X Z rc rs Q pc L (.long x :: S) os ce sl := by
  obtain ⟨p, l', e, R', s, m, args, below, meth, c⟩ := X
  obtain ⟨h1, h2, hx, hZ, hby, hml, hown, hnm, hret, hlk⟩ := K
  have h2' : R' = R := h2
  subst h2'
  subst hp
  intro T locs hT0 hH hF
  have hT : Stand p l' e R' s m args below meth c T locs ce sl := hT0
  obtain ⟨s2, o, st, r⟩ := k T locs hT hH hF
  exact ⟨s2, o, XT.dup2L (Stand.here hT) hx rfl (hb hby hd) rfl st, r⟩
theorem W.iconst {i : Int} (K : Ctx X l Z R y code maxL ret) (pc' : Nat) (hd : decode code pc = .ok (.iconst i, 1)) (v : Int32) (hv : Int32.ofInt i = v) (k : WP X Z rc rs Q pc' L (.int v :: S) os ce sl) (hp : pc + 1 = pc' := by rfl) : WP X Z rc rs Q pc L S os ce sl := by
  obtain ⟨p, l', e, R', s, m, args, below, meth, c⟩ := X
  obtain ⟨h1, h2, hx, hZ, hby, hml, hown, hnm, hret, hlk⟩ := K
  have h2' : R' = R := h2
  subst h2'
  subst hp
  intro T locs hT0 hH hF
  have hT : Stand p l' e R' s m args below meth c T locs ce sl := hT0
  obtain ⟨s2, o, st, r⟩ := k T locs hT hH hF
  exact ⟨s2, o, XS.iconst (Stand.here hT) hx rfl (hb hby hd) (hv ▸ st), r⟩
theorem W.bipush {i : Int} (K : Ctx X l Z R y code maxL ret) (pc' : Nat) (hd : decode code pc = .ok (.bipush i, 2)) (v : Int32) (hv : (Int8.ofInt i).toInt32 = v) (k : WP X Z rc rs Q pc' L (.int v :: S) os ce sl) (hp : pc + 2 = pc' := by rfl) : WP X Z rc rs Q pc L S os ce sl := by
  obtain ⟨p, l', e, R', s, m, args, below, meth, c⟩ := X
  obtain ⟨h1, h2, hx, hZ, hby, hml, hown, hnm, hret, hlk⟩ := K
  have h2' : R' = R := h2
  subst h2'
  subst hp
  intro T locs hT0 hH hF
  have hT : Stand p l' e R' s m args below meth c T locs ce sl := hT0
  obtain ⟨s2, o, st, r⟩ := k T locs hT hH hF
  exact ⟨s2, o, XS.bipush (Stand.here hT) hx rfl (hb hby hd) (hv ▸ st), r⟩
theorem W.sipush {i : Int} (K : Ctx X l Z R y code maxL ret) (pc' : Nat) (hd : decode code pc = .ok (.sipush i, 3)) (v : Int32) (hv : (Int16.ofInt i).toInt32 = v) (k : WP X Z rc rs Q pc' L (.int v :: S) os ce sl) (hp : pc + 3 = pc' := by rfl) : WP X Z rc rs Q pc L S os ce sl := by
  obtain ⟨p, l', e, R', s, m, args, below, meth, c⟩ := X
  obtain ⟨h1, h2, hx, hZ, hby, hml, hown, hnm, hret, hlk⟩ := K
  have h2' : R' = R := h2
  subst h2'
  subst hp
  intro T locs hT0 hH hF
  have hT : Stand p l' e R' s m args below meth c T locs ce sl := hT0
  obtain ⟨s2, o, st, r⟩ := k T locs hT hH hF
  exact ⟨s2, o, XS.sipush (Stand.here hT) hx rfl (hb hby hd) (hv ▸ st), r⟩
theorem W.lconst {i : Fin 2} (K : Ctx X l Z R y code maxL ret) (pc' : Nat) (hd : decode code pc = .ok (.lconst i, 1)) (v : Int64) (hv : Int64.ofNat i = v) (k : WP X Z rc rs Q pc' L (.long v :: S) os ce sl) (hp : pc + 1 = pc' := by rfl) : WP X Z rc rs Q pc L S os ce sl := by
  obtain ⟨p, l', e, R', s, m, args, below, meth, c⟩ := X
  obtain ⟨h1, h2, hx, hZ, hby, hml, hown, hnm, hret, hlk⟩ := K
  have h2' : R' = R := h2
  subst h2'
  subst hp
  intro T locs hT0 hH hF
  have hT : Stand p l' e R' s m args below meth c T locs ce sl := hT0
  obtain ⟨s2, o, st, r⟩ := k T locs hT hH hF
  exact ⟨s2, o, XS.lconst (Stand.here hT) hx rfl (hb hby hd) (hv ▸ st), r⟩
theorem W.aconst  (K : Ctx X l Z R y code maxL ret) (pc' : Nat) (hd : decode code pc = .ok (.aconst_null, 1)) (k : WP X Z rc rs Q pc' L (.null :: S) os ce sl) (hp : pc + 1 = pc' := by rfl) : WP X Z rc rs Q pc L S os ce sl := by
  obtain ⟨p, l', e, R', s, m, args, below, meth, c⟩ := X
  obtain ⟨h1, h2, hx, hZ, hby, hml, hown, hnm, hret, hlk⟩ := K
  have h2' : R' = R := h2
  subst h2'
  subst hp
  intro T locs hT0 hH hF
  have hT : Stand p l' e R' s m args below meth c T locs ce sl := hT0
  obtain ⟨s2, o, st, r⟩ := k T locs hT hH hF
  exact ⟨s2, o, XS.aconstNull (Stand.here hT) hx rfl (hb hby hd) st, r⟩
theorem W.iload {n : Nat} {v : Int32} (K : Ctx X l Z R y code maxL ret) (pc' : Nat) (hd : decode code pc = .ok (.iload n, 2)) (hl : L[n]? = some (.val (.int v))) (k : WP X Z rc rs Q pc' L (.int v :: S) os ce sl) (hp : pc + 2 = pc' := by rfl) : WP X Z rc rs Q pc L S os ce sl := by
  obtain ⟨p, l', e, R', s, m, args, below, meth, c⟩ := X
  obtain ⟨h1, h2, hx, hZ, hby, hml, hown, hnm, hret, hlk⟩ := K
  have h2' : R' = R := h2
  subst h2'
  subst hp
  intro T locs hT0 hH hF
  have hT : Stand p l' e R' s m args below meth c T locs ce sl := hT0
  obtain ⟨s2, o, st, r⟩ := k T locs hT hH hF
  exact ⟨s2, o, XS.iload (Stand.here hT) hx rfl (hb hby hd) (by simpa using hl) st, r⟩
theorem W.iloadN {n : Fin 4} {v : Int32} (K : Ctx X l Z R y code maxL ret) (pc' : Nat) (hd : decode code pc = .ok (.iload_n n, 1)) (i : Nat) (hi : n.val = i) (hl : L[i]? = some (.val (.int v))) (k : WP X Z rc rs Q pc' L (.int v :: S) os ce sl) (hp : pc + 1 = pc' := by rfl) : WP X Z rc rs Q pc L S os ce sl := by
  obtain ⟨p, l', e, R', s, m, args, below, meth, c⟩ := X
  obtain ⟨h1, h2, hx, hZ, hby, hml, hown, hnm, hret, hlk⟩ := K
  have h2' : R' = R := h2
  subst h2'
  subst hp
  intro T locs hT0 hH hF
  have hT : Stand p l' e R' s m args below meth c T locs ce sl := hT0
  obtain ⟨s2, o, st, r⟩ := k T locs hT hH hF
  exact ⟨s2, o, XS.iloadN (Stand.here hT) hx rfl (hb hby hd) (by rw [hi]; simpa using hl) st, r⟩
theorem W.lload {n : Nat} {v : Int64} (K : Ctx X l Z R y code maxL ret) (pc' : Nat) (hd : decode code pc = .ok (.lload n, 2)) (hl : L[n]? = some (.val (.long v))) (k : WP X Z rc rs Q pc' L (.long v :: S) os ce sl) (hp : pc + 2 = pc' := by rfl) : WP X Z rc rs Q pc L S os ce sl := by
  obtain ⟨p, l', e, R', s, m, args, below, meth, c⟩ := X
  obtain ⟨h1, h2, hx, hZ, hby, hml, hown, hnm, hret, hlk⟩ := K
  have h2' : R' = R := h2
  subst h2'
  subst hp
  intro T locs hT0 hH hF
  have hT : Stand p l' e R' s m args below meth c T locs ce sl := hT0
  obtain ⟨s2, o, st, r⟩ := k T locs hT hH hF
  exact ⟨s2, o, XS.lload (Stand.here hT) hx rfl (hb hby hd) (by simpa using hl) st, r⟩
theorem W.lloadN {n : Fin 4} {v : Int64} (K : Ctx X l Z R y code maxL ret) (pc' : Nat) (hd : decode code pc = .ok (.lload_n n, 1)) (i : Nat) (hi : n.val = i) (hl : L[i]? = some (.val (.long v))) (k : WP X Z rc rs Q pc' L (.long v :: S) os ce sl) (hp : pc + 1 = pc' := by rfl) : WP X Z rc rs Q pc L S os ce sl := by
  obtain ⟨p, l', e, R', s, m, args, below, meth, c⟩ := X
  obtain ⟨h1, h2, hx, hZ, hby, hml, hown, hnm, hret, hlk⟩ := K
  have h2' : R' = R := h2
  subst h2'
  subst hp
  intro T locs hT0 hH hF
  have hT : Stand p l' e R' s m args below meth c T locs ce sl := hT0
  obtain ⟨s2, o, st, r⟩ := k T locs hT hH hF
  exact ⟨s2, o, XS.lloadN (Stand.here hT) hx rfl (hb hby hd) (by rw [hi]; simpa using hl) st, r⟩
theorem W.aload {n : Nat} {v : Value} (K : Ctx X l Z R y code maxL ret) (pc' : Nat) (hd : decode code pc = .ok (.aload n, 2)) (hl : L[n]? = some (.val v)) (hv : v.isRef = true) (k : WP X Z rc rs Q pc' L (v :: S) os ce sl) (hp : pc + 2 = pc' := by rfl) : WP X Z rc rs Q pc L S os ce sl := by
  obtain ⟨p, l', e, R', s, m, args, below, meth, c⟩ := X
  obtain ⟨h1, h2, hx, hZ, hby, hml, hown, hnm, hret, hlk⟩ := K
  have h2' : R' = R := h2
  subst h2'
  subst hp
  intro T locs hT0 hH hF
  have hT : Stand p l' e R' s m args below meth c T locs ce sl := hT0
  obtain ⟨s2, o, st, r⟩ := k T locs hT hH hF
  exact ⟨s2, o, XS.aload (Stand.here hT) hx rfl (hb hby hd) (by simpa using hl) hv st, r⟩
theorem W.aloadN {n : Fin 4} {v : Value} (K : Ctx X l Z R y code maxL ret) (pc' : Nat) (hd : decode code pc = .ok (.aload_n n, 1)) (i : Nat) (hi : n.val = i) (hl : L[i]? = some (.val v)) (hv : v.isRef = true) (k : WP X Z rc rs Q pc' L (v :: S) os ce sl) (hp : pc + 1 = pc' := by rfl) : WP X Z rc rs Q pc L S os ce sl := by
  obtain ⟨p, l', e, R', s, m, args, below, meth, c⟩ := X
  obtain ⟨h1, h2, hx, hZ, hby, hml, hown, hnm, hret, hlk⟩ := K
  have h2' : R' = R := h2
  subst h2'
  subst hp
  intro T locs hT0 hH hF
  have hT : Stand p l' e R' s m args below meth c T locs ce sl := hT0
  obtain ⟨s2, o, st, r⟩ := k T locs hT hH hF
  exact ⟨s2, o, XS.aloadN (Stand.here hT) hx rfl (hb hby hd) (by rw [hi]; simpa using hl) hv st, r⟩
theorem setL0 {α : Type} {x z : α} {r : List α} : (z :: r).set 0 x = x :: r := rfl
theorem setLS {α : Type} {x z : α} {r r' : List α} {n : Nat} (h : r.set n x = r') : (z :: r).set (n + 1) x = z :: r' := by rw [List.set_cons_succ, h]
def okS : Slot → Bool
  | .unset => true
  | .val v => v.category == 1
  | .second => false
theorem okS_one {L : List Slot} {n : Nat} {v : Value} (ho : (L[n]?.map okS) = some true) (hv : v.category = 1) : storeLocals L.toArray n v = some (L.set n (.val v)).toArray := by
  cases hq : L[n]? with
  | none => simp [hq] at ho
  | some o =>
    rw [hq] at ho
    have h := XS.store1 (l := L.toArray) (i := n) (v := v) (o := o) (by simpa using hq) (by
      cases o with
      | unset => exact Or.inl rfl
      | second => simp [okS] at ho
      | val w => exact Or.inr ⟨w, rfl, by simpa [okS] using ho⟩) hv
    rw [h]; simp

theorem W.istore {n : Nat} {x : Int32} {L' : List Slot} (K : Ctx X l Z R y code maxL ret) (pc' : Nat) (hd : decode code pc = .ok (.istore n, 2)) (ho : (L[n]?.map okS) = some true) (hL : L.set n (.val (.int x)) = L') (k : WP X Z rc rs Q pc' L' S os ce sl) (hp : pc + 2 = pc' := by rfl) : WP X Z rc rs Q pc L (.int x :: S) os ce sl := by
  obtain ⟨p, l', e, R', s, m, args, below, meth, c⟩ := X
  obtain ⟨h1, h2, hx, hZ, hby, hml, hown, hnm, hret, hlk⟩ := K
  have h2' : R' = R := h2
  subst h2'
  subst hp
  intro T locs hT0 hH hF
  have hT : Stand p l' e R' s m args below meth c T locs ce sl := hT0
  obtain ⟨s2, o, st, r⟩ := k T locs hT hH hF
  exact ⟨s2, o, XS.istore (Stand.here hT) hx rfl (hb hby hd) rfl (okS_one ho rfl) (hL ▸ st), r⟩
theorem W.istoreN {n : Fin 4} {x : Int32} {L' : List Slot} (K : Ctx X l Z R y code maxL ret) (pc' : Nat) (hd : decode code pc = .ok (.istore_n n, 1)) (i : Nat) (hi : n.val = i) (ho : (L[i]?.map okS) = some true) (hL : L.set i (.val (.int x)) = L') (k : WP X Z rc rs Q pc' L' S os ce sl) (hp : pc + 1 = pc' := by rfl) : WP X Z rc rs Q pc L (.int x :: S) os ce sl := by
  obtain ⟨p, l', e, R', s, m, args, below, meth, c⟩ := X
  obtain ⟨h1, h2, hx, hZ, hby, hml, hown, hnm, hret, hlk⟩ := K
  have h2' : R' = R := h2
  subst h2'
  subst hp
  intro T locs hT0 hH hF
  have hT : Stand p l' e R' s m args below meth c T locs ce sl := hT0
  obtain ⟨s2, o, st, r⟩ := k T locs hT hH hF
  exact ⟨s2, o, XS.istoreN (Stand.here hT) hx rfl (hb hby hd) rfl (by rw [hi]; exact okS_one ho rfl) (hL ▸ st), r⟩
theorem W.astore {n : Nat} {x : Value} {L' : List Slot} (K : Ctx X l Z R y code maxL ret) (pc' : Nat) (hd : decode code pc = .ok (.astore n, 2)) (hv : x.isRef = true) (ho : (L[n]?.map okS) = some true) (hL : L.set n (.val x) = L') (k : WP X Z rc rs Q pc' L' S os ce sl) (hp : pc + 2 = pc' := by rfl) : WP X Z rc rs Q pc L (x :: S) os ce sl := by
  obtain ⟨p, l', e, R', s, m, args, below, meth, c⟩ := X
  obtain ⟨h1, h2, hx, hZ, hby, hml, hown, hnm, hret, hlk⟩ := K
  have h2' : R' = R := h2
  subst h2'
  subst hp
  intro T locs hT0 hH hF
  have hT : Stand p l' e R' s m args below meth c T locs ce sl := hT0
  obtain ⟨s2, o, st, r⟩ := k T locs hT hH hF
  exact ⟨s2, o, XS.astore (Stand.here hT) hx rfl (hb hby hd) rfl hv (okS_one ho (XT.cat1 hv)) (hL ▸ st), r⟩
theorem W.astoreN {n : Fin 4} {x : Value} {L' : List Slot} (K : Ctx X l Z R y code maxL ret) (pc' : Nat) (hd : decode code pc = .ok (.astore_n n, 1)) (i : Nat) (hi : n.val = i) (hv : x.isRef = true) (ho : (L[i]?.map okS) = some true) (hL : L.set i (.val x) = L') (k : WP X Z rc rs Q pc' L' S os ce sl) (hp : pc + 1 = pc' := by rfl) : WP X Z rc rs Q pc L (x :: S) os ce sl := by
  obtain ⟨p, l', e, R', s, m, args, below, meth, c⟩ := X
  obtain ⟨h1, h2, hx, hZ, hby, hml, hown, hnm, hret, hlk⟩ := K
  have h2' : R' = R := h2
  subst h2'
  subst hp
  intro T locs hT0 hH hF
  have hT : Stand p l' e R' s m args below meth c T locs ce sl := hT0
  obtain ⟨s2, o, st, r⟩ := k T locs hT hH hF
  exact ⟨s2, o, XS.astoreN (Stand.here hT) hx rfl (hb hby hd) rfl hv (by rw [hi]; exact okS_one ho (XT.cat1 hv)) (hL ▸ st), r⟩
theorem W.lstore {n : Nat} {x : Int64} {L1 L' : List Slot} (K : Ctx X l Z R y code maxL ret) (pc' : Nat) (hd : decode code pc = .ok (.lstore n, 2)) (hL1 : L.set n (.val (.long x)) = L1) (hL2 : L1.set (n + 1) .second = L') (k : WP X Z rc rs Q pc' L' S os ce sl) (ho : storeLocals L.toArray n (.long x) = some L'.toArray := by rfl) (hp : pc + 2 = pc' := by rfl) : WP X Z rc rs Q pc L (.long x :: S) os ce sl := by
  obtain ⟨p, l', e, R', s, m, args, below, meth, c⟩ := X
  obtain ⟨h1, h2, hx, hZ, hby, hml, hown, hnm, hret, hlk⟩ := K
  have h2' : R' = R := h2
  subst h2'
  subst hp
  intro T locs hT0 hH hF
  have hT : Stand p l' e R' s m args below meth c T locs ce sl := hT0
  obtain ⟨s2, o, st, r⟩ := k T locs hT hH hF
  exact ⟨s2, o, XS.lstore (Stand.here hT) hx rfl (hb hby hd) rfl ho st, r⟩
theorem W.lstoreN {n : Fin 4} {x : Int64} {L1 L' : List Slot} (K : Ctx X l Z R y code maxL ret) (pc' : Nat) (hd : decode code pc = .ok (.lstore_n n, 1)) (i : Nat) (hi : n.val = i) (hL1 : L.set i (.val (.long x)) = L1) (hL2 : L1.set (i + 1) .second = L') (k : WP X Z rc rs Q pc' L' S os ce sl) (ho : storeLocals L.toArray i (.long x) = some L'.toArray := by rfl) (hp : pc + 1 = pc' := by rfl) : WP X Z rc rs Q pc L (.long x :: S) os ce sl := by
  obtain ⟨p, l', e, R', s, m, args, below, meth, c⟩ := X
  obtain ⟨h1, h2, hx, hZ, hby, hml, hown, hnm, hret, hlk⟩ := K
  have h2' : R' = R := h2
  subst h2'
  subst hp
  intro T locs hT0 hH hF
  have hT : Stand p l' e R' s m args below meth c T locs ce sl := hT0
  obtain ⟨s2, o, st, r⟩ := k T locs hT hH hF
  exact ⟨s2, o, XS.lstoreN (Stand.here hT) hx rfl (hb hby hd) rfl (by rw [hi]; exact ho) st, r⟩
theorem W.iinc {n : Nat} {i : Int} {x : Int32} {L' : List Slot} (K : Ctx X l Z R y code maxL ret) (pc' : Nat) (hd : decode code pc = .ok (.iinc n i, 3)) (v : Int32) (hv : Int32.ofInt i = v) (hl : L[n]? = some (.val (.int x))) (hL : L.set n (.val (.int (x + v))) = L') (k : WP X Z rc rs Q pc' L' S os ce sl) (hp : pc + 3 = pc' := by rfl) : WP X Z rc rs Q pc L S os ce sl := by
  obtain ⟨p, l', e, R', s, m, args, below, meth, c⟩ := X
  obtain ⟨h1, h2, hx, hZ, hby, hml, hown, hnm, hret, hlk⟩ := K
  have h2' : R' = R := h2
  subst h2'
  subst hp
  intro T locs hT0 hH hF
  have hT : Stand p l' e R' s m args below meth c T locs ce sl := hT0
  obtain ⟨s2, o, st, r⟩ := k T locs hT hH hF
  exact ⟨s2, o, XS.iinc (Stand.here hT) hx rfl (hb hby hd) (by simpa using hl) (okS_one (by rw [hl]; rfl) rfl) (by subst hv; exact hL ▸ st), r⟩
theorem W.goto {o : Int} (K : Ctx X l Z R y code maxL ret) (pc' : Nat) (hd : decode code pc = .ok (.goto o, 3)) (k : WP X Z rc rs Q pc' L S os ce sl) (hp : (pc : Int) + o = (pc' : Int) := by decide) : WP X Z rc rs Q pc L S os ce sl := by
  obtain ⟨p, l', e, R', s, m, args, below, meth, c⟩ := X
  obtain ⟨h1, h2, hx, hZ, hby, hml, hown, hnm, hret, hlk⟩ := K
  have h2' : R' = R := h2
  subst h2'
  intro T locs hT0 hH hF
  have hT : Stand p l' e R' s m args below meth c T locs ce sl := hT0
  obtain ⟨s2, o', st, r⟩ := k T locs hT hH hF
  exact ⟨s2, o', XS.goto (Stand.here hT) hx rfl (pc0 := pc) rfl (hb hby hd) (by rw [hp]; exact Int.natCast_nonneg _) (by rw [hp]; rfl) st, r⟩
theorem W.icmp {cd : ClassFile.Cond} {o : Int} {x z : Int32} {F : Prop} (ht : F → if_icmp.holds cd x z = true) (hf : ¬ F → if_icmp.holds cd x z = false) (K : Ctx X l Z R y code maxL ret) (pt pf : Nat) (hd : decode code pc = .ok (.if_icmp cd o, 3)) (kt : F → WP X Z rc rs Q pt L S os ce sl) (kf : ¬ F → WP X Z rc rs Q pf L S os ce sl)
    (hp : (pc : Int) + o = (pt : Int)) (hq : pc + 3 = pf) : WP X Z rc rs Q pc L (.int z :: .int x :: S) os ce sl := by
  obtain ⟨p, l', e, R', s, m, args, below, meth, c⟩ := X
  obtain ⟨h1, h2, hx, hZ, hby, hml, hown, hnm, hret, hlk⟩ := K
  have h2' : R' = R := h2
  subst h2'
  subst hq
  intro T locs hT0 hH hF
  have hT : Stand p l' e R' s m args below meth c T locs ce sl := hT0
  by_cases h : F
  · obtain ⟨s2, o', st, r⟩ := kt h T locs hT hH hF
    exact ⟨s2, o', XS.icmpYes (Stand.here hT) hx rfl (pc0 := pc) rfl (hb hby hd) rfl (ht h) (by rw [hp]; exact Int.natCast_nonneg _) (by rw [hp]; rfl) st, r⟩
  · obtain ⟨s2, o', st, r⟩ := kf h T locs hT hH hF
    exact ⟨s2, o', XS.icmpNo (Stand.here hT) hx rfl (hb hby hd) rfl (hf h) st, r⟩
theorem W.ifc {cd : ClassFile.Cond} {o : Int} {x : Int32} {F : Prop} (ht : F → ifCond.holds cd x = true) (hf : ¬ F → ifCond.holds cd x = false) (K : Ctx X l Z R y code maxL ret) (pt pf : Nat) (hd : decode code pc = .ok (.ifCond cd o, 3)) (kt : F → WP X Z rc rs Q pt L S os ce sl) (kf : ¬ F → WP X Z rc rs Q pf L S os ce sl)
    (hp : (pc : Int) + o = (pt : Int)) (hq : pc + 3 = pf) : WP X Z rc rs Q pc L (.int x :: S) os ce sl := by
  obtain ⟨p, l', e, R', s, m, args, below, meth, c⟩ := X
  obtain ⟨h1, h2, hx, hZ, hby, hml, hown, hnm, hret, hlk⟩ := K
  have h2' : R' = R := h2
  subst h2'
  subst hq
  intro T locs hT0 hH hF
  have hT : Stand p l' e R' s m args below meth c T locs ce sl := hT0
  by_cases h : F
  · obtain ⟨s2, o', st, r⟩ := kt h T locs hT hH hF
    exact ⟨s2, o', XS.ifYes (Stand.here hT) hx rfl (pc0 := pc) rfl (hb hby hd) rfl (ht h) (by rw [hp]; exact Int.natCast_nonneg _) (by rw [hp]; rfl) st, r⟩
  · obtain ⟨s2, o', st, r⟩ := kf h T locs hT hH hF
    exact ⟨s2, o', XS.ifNo (Stand.here hT) hx rfl (hb hby hd) rfl (hf h) st, r⟩
theorem W.lcmpc {cd : ClassFile.Cond} {o : Int} {x z : Int64} {F : Prop} (ht : F → ifCond.holds cd (lcmpW x z) = true) (hf : ¬ F → ifCond.holds cd (lcmpW x z) = false) (K : Ctx X l Z R y code maxL ret) (pc1 pt pf : Nat) (hd0 : decode code pc = .ok (.lcmp, 1)) (hd : decode code pc1 = .ok (.ifCond cd o, 3)) (kt : F → WP X Z rc rs Q pt L S os ce sl) (kf : ¬ F → WP X Z rc rs Q pf L S os ce sl)
    (h1' : pc + 1 = pc1) (hp : (pc1 : Int) + o = (pt : Int)) (hq : pc1 + 3 = pf) : WP X Z rc rs Q pc L (.long z :: .long x :: S) os ce sl := by
  have k1 : WP X Z rc rs Q pc1 L (.int (lcmpW x z) :: S) os ce sl := W.ifc ht hf K pt pf hd kt kf hp hq
  obtain ⟨p, l', e, R', s, m, args, below, meth, c⟩ := X
  obtain ⟨h1, h2, hx, hZ, hby, hml, hown, hnm, hret, hlk⟩ := K
  have h2' : R' = R := h2
  subst h2'
  subst h1'
  intro T locs hT0 hH hF
  have hT : Stand p l' e R' s m args below meth c T locs ce sl := hT0
  obtain ⟨s2, o', st, r⟩ := k1 T locs hT hH hF
  exact ⟨s2, o', XS.lcmp (Stand.here hT) hx rfl (hb hby hd0) rfl st, r⟩
theorem W.icmp_eq {o : Int} {x z : Int32} (K : Ctx X l Z R y code maxL ret) (pt pf : Nat) (hd : decode code pc = .ok (.if_icmp .eq o, 3)) (kt : x = z → WP X Z rc rs Q pt L S os ce sl) (kf : ¬ (x = z) → WP X Z rc rs Q pf L S os ce sl) (hp : (pc : Int) + o = (pt : Int) := by decide) (hq : pc + 3 = pf := by rfl) : WP X Z rc rs Q pc L (.int z :: .int x :: S) os ce sl :=
  W.icmp (F := x = z) (fun h => XT.ii_eq_t h) (fun h => XT.ii_eq_f h) K pt pf hd kt (fun h => kf h) hp hq
theorem W.if_eq {o : Int} {x : Int32} (K : Ctx X l Z R y code maxL ret) (pt pf : Nat) (hd : decode code pc = .ok (.ifCond .eq o, 3)) (kt : x = 0 → WP X Z rc rs Q pt L S os ce sl) (kf : ¬ (x = 0) → WP X Z rc rs Q pf L S os ce sl) (hp : (pc : Int) + o = (pt : Int) := by decide) (hq : pc + 3 = pf := by rfl) : WP X Z rc rs Q pc L (.int x :: S) os ce sl :=
  W.ifc (F := x = 0) (fun h => XT.i0_eq_t h) (fun h => XT.i0_eq_f h) K pt pf hd kt (fun h => kf h) hp hq
theorem W.lcmp_eq {o : Int} {x z : Int64} (K : Ctx X l Z R y code maxL ret) (pc1 pt pf : Nat) (hd0 : decode code pc = .ok (.lcmp, 1)) (hd : decode code pc1 = .ok (.ifCond .eq o, 3)) (kt : x = z → WP X Z rc rs Q pt L S os ce sl) (kf : ¬ (x = z) → WP X Z rc rs Q pf L S os ce sl) (h1' : pc + 1 = pc1 := by rfl) (hp : (pc1 : Int) + o = (pt : Int) := by decide) (hq : pc1 + 3 = pf := by rfl) : WP X Z rc rs Q pc L (.long z :: .long x :: S) os ce sl :=
  W.lcmpc (F := x = z) (fun h => XT.ll_eq_t h) (fun h => XT.ll_eq_f h) K pc1 pt pf hd0 hd kt (fun h => kf h) h1' hp hq
theorem W.icmp_ne {o : Int} {x z : Int32} (K : Ctx X l Z R y code maxL ret) (pt pf : Nat) (hd : decode code pc = .ok (.if_icmp .ne o, 3)) (kt : ¬ (x = z) → WP X Z rc rs Q pt L S os ce sl) (kf : x = z → WP X Z rc rs Q pf L S os ce sl) (hp : (pc : Int) + o = (pt : Int) := by decide) (hq : pc + 3 = pf := by rfl) : WP X Z rc rs Q pc L (.int z :: .int x :: S) os ce sl :=
  W.icmp (F := ¬ (x = z)) (fun h => XT.ii_ne_t h) (fun h => XT.ii_ne_f (Classical.not_not.mp h)) K pt pf hd kt (fun h => kf (Classical.not_not.mp h)) hp hq
theorem W.if_ne {o : Int} {x : Int32} (K : Ctx X l Z R y code maxL ret) (pt pf : Nat) (hd : decode code pc = .ok (.ifCond .ne o, 3)) (kt : ¬ (x = 0) → WP X Z rc rs Q pt L S os ce sl) (kf : x = 0 → WP X Z rc rs Q pf L S os ce sl) (hp : (pc : Int) + o = (pt : Int) := by decide) (hq : pc + 3 = pf := by rfl) : WP X Z rc rs Q pc L (.int x :: S) os ce sl :=
  W.ifc (F := ¬ (x = 0)) (fun h => XT.i0_ne_t h) (fun h => XT.i0_ne_f (Classical.not_not.mp h)) K pt pf hd kt (fun h => kf (Classical.not_not.mp h)) hp hq
theorem W.lcmp_ne {o : Int} {x z : Int64} (K : Ctx X l Z R y code maxL ret) (pc1 pt pf : Nat) (hd0 : decode code pc = .ok (.lcmp, 1)) (hd : decode code pc1 = .ok (.ifCond .ne o, 3)) (kt : ¬ (x = z) → WP X Z rc rs Q pt L S os ce sl) (kf : x = z → WP X Z rc rs Q pf L S os ce sl) (h1' : pc + 1 = pc1 := by rfl) (hp : (pc1 : Int) + o = (pt : Int) := by decide) (hq : pc1 + 3 = pf := by rfl) : WP X Z rc rs Q pc L (.long z :: .long x :: S) os ce sl :=
  W.lcmpc (F := ¬ (x = z)) (fun h => XT.ll_ne_t h) (fun h => XT.ll_ne_f (Classical.not_not.mp h)) K pc1 pt pf hd0 hd kt (fun h => kf (Classical.not_not.mp h)) h1' hp hq
theorem W.icmp_lt {o : Int} {x z : Int32} (K : Ctx X l Z R y code maxL ret) (pt pf : Nat) (hd : decode code pc = .ok (.if_icmp .lt o, 3)) (kt : x.toInt < z.toInt → WP X Z rc rs Q pt L S os ce sl) (kf : ¬ (x.toInt < z.toInt) → WP X Z rc rs Q pf L S os ce sl) (hp : (pc : Int) + o = (pt : Int) := by decide) (hq : pc + 3 = pf := by rfl) : WP X Z rc rs Q pc L (.int z :: .int x :: S) os ce sl :=
  W.icmp (F := x.toInt < z.toInt) (fun h => XT.ii_lt_t (Int32.lt_iff_toInt_lt.mpr h)) (fun h => XT.ii_lt_f (fun q => h (Int32.lt_iff_toInt_lt.mp q))) K pt pf hd kt (fun h => kf h) hp hq
theorem W.if_lt {o : Int} {x : Int32} (K : Ctx X l Z R y code maxL ret) (pt pf : Nat) (hd : decode code pc = .ok (.ifCond .lt o, 3)) (kt : x.toInt < 0 → WP X Z rc rs Q pt L S os ce sl) (kf : ¬ (x.toInt < 0) → WP X Z rc rs Q pf L S os ce sl) (hp : (pc : Int) + o = (pt : Int) := by decide) (hq : pc + 3 = pf := by rfl) : WP X Z rc rs Q pc L (.int x :: S) os ce sl :=
  W.ifc (F := x.toInt < 0) (fun h => XT.i0_lt_t (Int32.lt_iff_toInt_lt.mpr (by simpa using h))) (fun h => XT.i0_lt_f (fun q => h (by have q2 := Int32.lt_iff_toInt_lt.mp q; simpa using q2))) K pt pf hd kt (fun h => kf h) hp hq
theorem W.lcmp_lt {o : Int} {x z : Int64} (K : Ctx X l Z R y code maxL ret) (pc1 pt pf : Nat) (hd0 : decode code pc = .ok (.lcmp, 1)) (hd : decode code pc1 = .ok (.ifCond .lt o, 3)) (kt : x.toInt < z.toInt → WP X Z rc rs Q pt L S os ce sl) (kf : ¬ (x.toInt < z.toInt) → WP X Z rc rs Q pf L S os ce sl) (h1' : pc + 1 = pc1 := by rfl) (hp : (pc1 : Int) + o = (pt : Int) := by decide) (hq : pc1 + 3 = pf := by rfl) : WP X Z rc rs Q pc L (.long z :: .long x :: S) os ce sl :=
  W.lcmpc (F := x.toInt < z.toInt) (fun h => XT.ll_lt_t (Int64.lt_iff_toInt_lt.mpr h)) (fun h => XT.ll_lt_f (fun q => h (Int64.lt_iff_toInt_lt.mp q))) K pc1 pt pf hd0 hd kt (fun h => kf h) h1' hp hq
theorem W.icmp_ge {o : Int} {x z : Int32} (K : Ctx X l Z R y code maxL ret) (pt pf : Nat) (hd : decode code pc = .ok (.if_icmp .ge o, 3)) (kt : ¬ (x.toInt < z.toInt) → WP X Z rc rs Q pt L S os ce sl) (kf : x.toInt < z.toInt → WP X Z rc rs Q pf L S os ce sl) (hp : (pc : Int) + o = (pt : Int) := by decide) (hq : pc + 3 = pf := by rfl) : WP X Z rc rs Q pc L (.int z :: .int x :: S) os ce sl :=
  W.icmp (F := ¬ (x.toInt < z.toInt)) (fun h => XT.ii_ge_t (fun q => h (Int32.lt_iff_toInt_lt.mp q))) (fun h => XT.ii_ge_f (Int32.lt_iff_toInt_lt.mpr (Classical.not_not.mp h))) K pt pf hd kt (fun h => kf (Classical.not_not.mp h)) hp hq
theorem W.if_ge {o : Int} {x : Int32} (K : Ctx X l Z R y code maxL ret) (pt pf : Nat) (hd : decode code pc = .ok (.ifCond .ge o, 3)) (kt : ¬ (x.toInt < 0) → WP X Z rc rs Q pt L S os ce sl) (kf : x.toInt < 0 → WP X Z rc rs Q pf L S os ce sl) (hp : (pc : Int) + o = (pt : Int) := by decide) (hq : pc + 3 = pf := by rfl) : WP X Z rc rs Q pc L (.int x :: S) os ce sl :=
  W.ifc (F := ¬ (x.toInt < 0)) (fun h => XT.i0_ge_t (fun q => h (by have q2 := Int32.lt_iff_toInt_lt.mp q; simpa using q2))) (fun h => XT.i0_ge_f (Int32.lt_iff_toInt_lt.mpr (by simpa using (Classical.not_not.mp h)))) K pt pf hd kt (fun h => kf (Classical.not_not.mp h)) hp hq
theorem W.lcmp_ge {o : Int} {x z : Int64} (K : Ctx X l Z R y code maxL ret) (pc1 pt pf : Nat) (hd0 : decode code pc = .ok (.lcmp, 1)) (hd : decode code pc1 = .ok (.ifCond .ge o, 3)) (kt : ¬ (x.toInt < z.toInt) → WP X Z rc rs Q pt L S os ce sl) (kf : x.toInt < z.toInt → WP X Z rc rs Q pf L S os ce sl) (h1' : pc + 1 = pc1 := by rfl) (hp : (pc1 : Int) + o = (pt : Int) := by decide) (hq : pc1 + 3 = pf := by rfl) : WP X Z rc rs Q pc L (.long z :: .long x :: S) os ce sl :=
  W.lcmpc (F := ¬ (x.toInt < z.toInt)) (fun h => XT.ll_ge_t (fun q => h (Int64.lt_iff_toInt_lt.mp q))) (fun h => XT.ll_ge_f (Int64.lt_iff_toInt_lt.mpr (Classical.not_not.mp h))) K pc1 pt pf hd0 hd kt (fun h => kf (Classical.not_not.mp h)) h1' hp hq
theorem W.icmp_gt {o : Int} {x z : Int32} (K : Ctx X l Z R y code maxL ret) (pt pf : Nat) (hd : decode code pc = .ok (.if_icmp .gt o, 3)) (kt : z.toInt < x.toInt → WP X Z rc rs Q pt L S os ce sl) (kf : ¬ (z.toInt < x.toInt) → WP X Z rc rs Q pf L S os ce sl) (hp : (pc : Int) + o = (pt : Int) := by decide) (hq : pc + 3 = pf := by rfl) : WP X Z rc rs Q pc L (.int z :: .int x :: S) os ce sl :=
  W.icmp (F := z.toInt < x.toInt) (fun h => XT.ii_gt_t (Int32.lt_iff_toInt_lt.mpr h)) (fun h => XT.ii_gt_f (fun q => h (Int32.lt_iff_toInt_lt.mp q))) K pt pf hd kt (fun h => kf h) hp hq
theorem W.if_gt {o : Int} {x : Int32} (K : Ctx X l Z R y code maxL ret) (pt pf : Nat) (hd : decode code pc = .ok (.ifCond .gt o, 3)) (kt : 0 < x.toInt → WP X Z rc rs Q pt L S os ce sl) (kf : ¬ (0 < x.toInt) → WP X Z rc rs Q pf L S os ce sl) (hp : (pc : Int) + o = (pt : Int) := by decide) (hq : pc + 3 = pf := by rfl) : WP X Z rc rs Q pc L (.int x :: S) os ce sl :=
  W.ifc (F := 0 < x.toInt) (fun h => XT.i0_gt_t (Int32.lt_iff_toInt_lt.mpr (by simpa using h))) (fun h => XT.i0_gt_f (fun q => h (by have q2 := Int32.lt_iff_toInt_lt.mp q; simpa using q2))) K pt pf hd kt (fun h => kf h) hp hq
theorem W.lcmp_gt {o : Int} {x z : Int64} (K : Ctx X l Z R y code maxL ret) (pc1 pt pf : Nat) (hd0 : decode code pc = .ok (.lcmp, 1)) (hd : decode code pc1 = .ok (.ifCond .gt o, 3)) (kt : z.toInt < x.toInt → WP X Z rc rs Q pt L S os ce sl) (kf : ¬ (z.toInt < x.toInt) → WP X Z rc rs Q pf L S os ce sl) (h1' : pc + 1 = pc1 := by rfl) (hp : (pc1 : Int) + o = (pt : Int) := by decide) (hq : pc1 + 3 = pf := by rfl) : WP X Z rc rs Q pc L (.long z :: .long x :: S) os ce sl :=
  W.lcmpc (F := z.toInt < x.toInt) (fun h => XT.ll_gt_t (Int64.lt_iff_toInt_lt.mpr h)) (fun h => XT.ll_gt_f (fun q => h (Int64.lt_iff_toInt_lt.mp q))) K pc1 pt pf hd0 hd kt (fun h => kf h) h1' hp hq
theorem W.icmp_le {o : Int} {x z : Int32} (K : Ctx X l Z R y code maxL ret) (pt pf : Nat) (hd : decode code pc = .ok (.if_icmp .le o, 3)) (kt : ¬ (z.toInt < x.toInt) → WP X Z rc rs Q pt L S os ce sl) (kf : z.toInt < x.toInt → WP X Z rc rs Q pf L S os ce sl) (hp : (pc : Int) + o = (pt : Int) := by decide) (hq : pc + 3 = pf := by rfl) : WP X Z rc rs Q pc L (.int z :: .int x :: S) os ce sl :=
  W.icmp (F := ¬ (z.toInt < x.toInt)) (fun h => XT.ii_le_t (fun q => h (Int32.lt_iff_toInt_lt.mp q))) (fun h => XT.ii_le_f (Int32.lt_iff_toInt_lt.mpr (Classical.not_not.mp h))) K pt pf hd kt (fun h => kf (Classical.not_not.mp h)) hp hq
theorem W.if_le {o : Int} {x : Int32} (K : Ctx X l Z R y code maxL ret) (pt pf : Nat) (hd : decode code pc = .ok (.ifCond .le o, 3)) (kt : ¬ (0 < x.toInt) → WP X Z rc rs Q pt L S os ce sl) (kf : 0 < x.toInt → WP X Z rc rs Q pf L S os ce sl) (hp : (pc : Int) + o = (pt : Int) := by decide) (hq : pc + 3 = pf := by rfl) : WP X Z rc rs Q pc L (.int x :: S) os ce sl :=
  W.ifc (F := ¬ (0 < x.toInt)) (fun h => XT.i0_le_t (fun q => h (by have q2 := Int32.lt_iff_toInt_lt.mp q; simpa using q2))) (fun h => XT.i0_le_f (Int32.lt_iff_toInt_lt.mpr (by simpa using (Classical.not_not.mp h)))) K pt pf hd kt (fun h => kf (Classical.not_not.mp h)) hp hq
theorem W.lcmp_le {o : Int} {x z : Int64} (K : Ctx X l Z R y code maxL ret) (pc1 pt pf : Nat) (hd0 : decode code pc = .ok (.lcmp, 1)) (hd : decode code pc1 = .ok (.ifCond .le o, 3)) (kt : ¬ (z.toInt < x.toInt) → WP X Z rc rs Q pt L S os ce sl) (kf : z.toInt < x.toInt → WP X Z rc rs Q pf L S os ce sl) (h1' : pc + 1 = pc1 := by rfl) (hp : (pc1 : Int) + o = (pt : Int) := by decide) (hq : pc1 + 3 = pf := by rfl) : WP X Z rc rs Q pc L (.long z :: .long x :: S) os ce sl :=
  W.lcmpc (F := ¬ (z.toInt < x.toInt)) (fun h => XT.ll_le_t (fun q => h (Int64.lt_iff_toInt_lt.mp q))) (fun h => XT.ll_le_f (Int64.lt_iff_toInt_lt.mpr (Classical.not_not.mp h))) K pc1 pt pf hd0 hd kt (fun h => kf (Classical.not_not.mp h)) h1' hp hq
theorem W.ifnullY {o : Int} (K : Ctx X l Z R y code maxL ret) (pt : Nat) (hd : decode code pc = .ok (.ifnull o, 3)) (k : WP X Z rc rs Q pt L S os ce sl) (hp : (pc : Int) + o = (pt : Int) := by decide) : WP X Z rc rs Q pc L (.null :: S) os ce sl := by
  obtain ⟨p, l', e, R', s, m, args, below, meth, c⟩ := X
  obtain ⟨h1, h2, hx, hZ, hby, hml, hown, hnm, hret, hlk⟩ := K
  have h2' : R' = R := h2
  subst h2'
  intro T locs hT0 hH hF
  have hT : Stand p l' e R' s m args below meth c T locs ce sl := hT0
  obtain ⟨s2, o', st, r⟩ := k T locs hT hH hF
  exact ⟨s2, o', XS.ifnullYes (Stand.here hT) hx rfl (pc0 := pc) rfl (hb hby hd) rfl (by rw [hp]; exact Int.natCast_nonneg _) (by rw [hp]; rfl) st, r⟩
theorem W.ifnonnullY {o : Int} {a : Addr} (K : Ctx X l Z R y code maxL ret) (pt : Nat) (hd : decode code pc = .ok (.ifnonnull o, 3)) (k : WP X Z rc rs Q pt L S os ce sl) (hp : (pc : Int) + o = (pt : Int) := by decide) : WP X Z rc rs Q pc L (.ref a :: S) os ce sl := by
  obtain ⟨p, l', e, R', s, m, args, below, meth, c⟩ := X
  obtain ⟨h1, h2, hx, hZ, hby, hml, hown, hnm, hret, hlk⟩ := K
  have h2' : R' = R := h2
  subst h2'
  intro T locs hT0 hH hF
  have hT : Stand p l' e R' s m args below meth c T locs ce sl := hT0
  obtain ⟨s2, o', st, r⟩ := k T locs hT hH hF
  exact ⟨s2, o', XT.nonnullYes (Stand.here hT) hx rfl (pc0 := pc) rfl (hb hby hd) rfl rfl (by simp) (by rw [hp]; exact Int.natCast_nonneg _) (by rw [hp]; rfl) st, r⟩
theorem W.ifnullN {o : Int} {a : Addr} (K : Ctx X l Z R y code maxL ret) (pc' : Nat) (hd : decode code pc = .ok (.ifnull o, 3)) (k : WP X Z rc rs Q pc' L S os ce sl) (hp : pc + 3 = pc' := by rfl) : WP X Z rc rs Q pc L (.ref a :: S) os ce sl := by
  obtain ⟨p, l', e, R', s, m, args, below, meth, c⟩ := X
  obtain ⟨h1, h2, hx, hZ, hby, hml, hown, hnm, hret, hlk⟩ := K
  have h2' : R' = R := h2
  subst h2'
  subst hp
  intro T locs hT0 hH hF
  have hT : Stand p l' e R' s m args below meth c T locs ce sl := hT0
  obtain ⟨s2, o, st, r⟩ := k T locs hT hH hF
  exact ⟨s2, o, XS.ifnullNo (Stand.here hT) hx rfl (hb hby hd) rfl st, r⟩
theorem W.ifnonnullN {o : Int} (K : Ctx X l Z R y code maxL ret) (pc' : Nat) (hd : decode code pc = .ok (.ifnonnull o, 3)) (k : WP X Z rc rs Q pc' L S os ce sl) (hp : pc + 3 = pc' := by rfl) : WP X Z rc rs Q pc L (.null :: S) os ce sl := by
  obtain ⟨p, l', e, R', s, m, args, below, meth, c⟩ := X
  obtain ⟨h1, h2, hx, hZ, hby, hml, hown, hnm, hret, hlk⟩ := K
  have h2' : R' = R := h2
  subst h2'
  subst hp
  intro T locs hT0 hH hF
  have hT : Stand p l' e R' s m args below meth c T locs ce sl := hT0
  obtain ⟨s2, o, st, r⟩ := k T locs hT hH hF
  exact ⟨s2, o, XT.nonnullNo (Stand.here hT) hx rfl (hb hby hd) rfl rfl st, r⟩
theorem W.acmp_eq {o : Int} {x z : Value} (K : Ctx X l Z R y code maxL ret) (pt pf : Nat) (hd : decode code pc = .ok (.if_acmp .eq o, 3)) (kt : x = z → WP X Z rc rs Q pt L S os ce sl) (kf : ¬ x = z → WP X Z rc rs Q pf L S os ce sl) (hr1 : x.isRef = true := by rfl) (hr2 : z.isRef = true := by rfl) (hp : (pc : Int) + o = (pt : Int) := by decide) (hq : pc + 3 = pf := by rfl) : WP X Z rc rs Q pc L (z :: x :: S) os ce sl := by
  obtain ⟨p, l', e, R', s, m, args, below, meth, c⟩ := X
  obtain ⟨h1, h2, hx, hZ, hby, hml, hown, hnm, hret, hlk⟩ := K
  have h2' : R' = R := h2
  subst h2'
  subst hq
  intro T locs hT0 hH hF
  have hT : Stand p l' e R' s m args below meth c T locs ce sl := hT0
  by_cases h : x = z
  · obtain ⟨s2, o', st, r⟩ := kt h T locs hT hH hF
    exact ⟨s2, o', XT.acmpYes (Stand.here hT) hx rfl (pc0 := pc) rfl (hb hby hd) rfl hr1 hr2 (XT.aa_eq_t h) (by rw [hp]; exact Int.natCast_nonneg _) (by rw [hp]; rfl) st, r⟩
  · obtain ⟨s2, o', st, r⟩ := kf h T locs hT hH hF
    exact ⟨s2, o', XT.acmpNo (Stand.here hT) hx rfl (hb hby hd) rfl hr1 hr2 (XT.aa_eq_f h) st, r⟩
theorem W.acmp_ne {o : Int} {x z : Value} (K : Ctx X l Z R y code maxL ret) (pt pf : Nat) (hd : decode code pc = .ok (.if_acmp .ne o, 3)) (kt : ¬ x = z → WP X Z rc rs Q pt L S os ce sl) (kf : x = z → WP X Z rc rs Q pf L S os ce sl) (hr1 : x.isRef = true := by rfl) (hr2 : z.isRef = true := by rfl) (hp : (pc : Int) + o = (pt : Int) := by decide) (hq : pc + 3 = pf := by rfl) : WP X Z rc rs Q pc L (z :: x :: S) os ce sl := by
  obtain ⟨p, l', e, R', s, m, args, below, meth, c⟩ := X
  obtain ⟨h1, h2, hx, hZ, hby, hml, hown, hnm, hret, hlk⟩ := K
  have h2' : R' = R := h2
  subst h2'
  subst hq
  intro T locs hT0 hH hF
  have hT : Stand p l' e R' s m args below meth c T locs ce sl := hT0
  by_cases h : x = z
  · obtain ⟨s2, o', st, r⟩ := kf h T locs hT hH hF
    exact ⟨s2, o', XT.acmpNo (Stand.here hT) hx rfl (hb hby hd) rfl hr1 hr2 (XT.aa_ne_f h) st, r⟩
  · obtain ⟨s2, o', st, r⟩ := kt h T locs hT hH hF
    exact ⟨s2, o', XT.acmpYes (Stand.here hT) hx rfl (pc0 := pc) rfl (hb hby hd) rfl hr1 hr2 (XT.aa_ne_t h) (by rw [hp]; exact Int.natCast_nonneg _) (by rw [hp]; rfl) st, r⟩
theorem W.bool {A B : Prop} [Decidable A] {o : Int} {i1 i0 : Int} {pt pf pg : Nat} {S0 : List Value} (pj : Nat) (v1 v0 : Int32) (K : Ctx X l Z R y code maxL ret) (br : (A → WP X Z rc rs Q pt L S os ce sl) → (B → WP X Z rc rs Q pf L S os ce sl) → WP X Z rc rs Q pc L S0 os ce sl)
    (d1 : decode code pf = .ok (.iconst i1, 1)) (d2 : decode code pg = .ok (.goto o, 3)) (d3 : decode code pt = .ok (.iconst i0, 1)) (k : WP X Z rc rs Q pj L (.int (if A then v0 else v1) :: S) os ce sl)
    (hAB : B → ¬ A := by first | exact id | exact fun h h' => h' h) (e1 : Int32.ofInt i1 = v1 := by rfl) (e0 : Int32.ofInt i0 = v0 := by rfl) (q1 : pf + 1 = pg := by rfl) (q2 : (pg : Int) + o = (pj : Int) := by decide) (q3 : pt + 1 = pj := by rfl) : WP X Z rc rs Q pc L S0 os ce sl := by
  refine br (fun h => ?_) (fun h => ?_)
  · refine W.iconst K pj d3 v0 e0 ?_ q3
    rw [if_pos h] at k; exact k
  · refine W.iconst K pg d1 v1 e1 ?_ q1
    refine W.goto K pj d2 ?_ q2
    rw [if_neg (hAB h)] at k; exact k
theorem W.sel {A B : Prop} [Decidable A] {pt pf : Nat} {S0 : List Value} {vt vf : Value} (pj : Nat) (br : (A → WP X Z rc rs Q pt L S os ce sl) → (B → WP X Z rc rs Q pf L S os ce sl) → WP X Z rc rs Q pc L S0 os ce sl)
    (kt : WP X Z rc rs Q pj L (vt :: S) os ce sl → WP X Z rc rs Q pt L S os ce sl) (kf : WP X Z rc rs Q pj L (vf :: S) os ce sl → WP X Z rc rs Q pf L S os ce sl) (k : WP X Z rc rs Q pj L ((if A then vt else vf) :: S) os ce sl) (hAB : B → ¬ A := by first | exact id | exact fun h h' => h' h) : WP X Z rc rs Q pc L S0 os ce sl :=
  br (fun h => kt (by rw [if_pos h] at k; exact k)) (fun h => kf (by rw [if_neg (hAB h)] at k; exact k))
theorem W.selI {A B : Prop} [Decidable A] {pt pf : Nat} {S0 : List Value} {vt vf : Int32} (pj : Nat) (br : (A → WP X Z rc rs Q pt L S os ce sl) → (B → WP X Z rc rs Q pf L S os ce sl) → WP X Z rc rs Q pc L S0 os ce sl)
    (kt : WP X Z rc rs Q pj L (.int vt :: S) os ce sl → WP X Z rc rs Q pt L S os ce sl) (kf : WP X Z rc rs Q pj L (.int vf :: S) os ce sl → WP X Z rc rs Q pf L S os ce sl) (k : WP X Z rc rs Q pj L (.int (if A then vt else vf) :: S) os ce sl) (hAB : B → ¬ A := by first | exact id | exact fun h h' => h' h) : WP X Z rc rs Q pc L S0 os ce sl :=
  br (fun h => kt (by rw [if_pos h] at k; exact k)) (fun h => kf (by rw [if_neg (hAB h)] at k; exact k))
theorem W.selL {A B : Prop} [Decidable A] {pt pf : Nat} {S0 : List Value} {vt vf : Int64} (pj : Nat) (br : (A → WP X Z rc rs Q pt L S os ce sl) → (B → WP X Z rc rs Q pf L S os ce sl) → WP X Z rc rs Q pc L S0 os ce sl)
    (kt : WP X Z rc rs Q pj L (.long vt :: S) os ce sl → WP X Z rc rs Q pt L S os ce sl) (kf : WP X Z rc rs Q pj L (.long vf :: S) os ce sl → WP X Z rc rs Q pf L S os ce sl) (k : WP X Z rc rs Q pj L (.long (if A then vt else vf) :: S) os ce sl) (hAB : B → ¬ A := by first | exact id | exact fun h h' => h' h) : WP X Z rc rs Q pc L S0 os ce sl :=
  br (fun h => kt (by rw [if_pos h] at k; exact k)) (fun h => kf (by rw [if_neg (hAB h)] at k; exact k))
theorem W.joinI {F : Prop} [Decidable F] {S0 : List Value} (pj : Nat) (tree : (F → WP X Z rc rs Q pj L (.int 1 :: S) os ce sl) → (¬ F → WP X Z rc rs Q pj L (.int 0 :: S) os ce sl) → WP X Z rc rs Q pc L S0 os ce sl) (k : WP X Z rc rs Q pj L (.int (if F then 1 else 0) :: S) os ce sl) : WP X Z rc rs Q pc L S0 os ce sl :=
  tree (fun h => by rw [if_pos h] at k; exact k) (fun h => by rw [if_neg h] at k; exact k)
theorem W.cutI {G : Int32 → Prop} {S0 : List Value} (pj n : Nat) (tree : (∀ v, G v → WP X Z rc rs Q pj (L.set n (.val (.int v))) S os ce sl) → WP X Z rc rs Q pc L S0 os ce sl) (k : ∀ v, G v → WP X Z rc rs Q pj (L.set n (.val (.int v))) S os ce sl) : WP X Z rc rs Q pc L S0 os ce sl := tree k
theorem W.cutV {G : Value → Prop} {S0 : List Value} (pj n : Nat) (tree : (∀ v, G v → WP X Z rc rs Q pj (L.set n (.val v)) S os ce sl) → WP X Z rc rs Q pc L S0 os ce sl) (k : ∀ v, G v → WP X Z rc rs Q pj (L.set n (.val v)) S os ce sl) : WP X Z rc rs Q pc L S0 os ce sl := tree k
theorem W.cutO {G : OS → Prop} {S0 : List Value} (pj : Nat) (tree : (∀ os', G os' → WP X Z rc rs Q pj L S os' ce sl) → WP X Z rc rs Q pc L S0 os ce sl) (k : ∀ os', G os' → WP X Z rc rs Q pj L S os' ce sl) : WP X Z rc rs Q pc L S0 os ce sl := tree k
theorem W.cutIO {G : Int32 → OS → Prop} {S0 : List Value} (pj n : Nat) (tree : (∀ v os', G v os' → WP X Z rc rs Q pj (L.set n (.val (.int v))) S os' ce sl) → WP X Z rc rs Q pc L S0 os ce sl) (k : ∀ v os', G v os' → WP X Z rc rs Q pj (L.set n (.val (.int v))) S os' ce sl) : WP X Z rc rs Q pc L S0 os ce sl := tree k
theorem W.cutL {G : List Slot → Prop} {S0 : List Value} (pj : Nat) (tree : (∀ L', G L' → WP X Z rc rs Q pj L' S os ce sl) → WP X Z rc rs Q pc L S0 os ce sl) (k : ∀ L', G L' → WP X Z rc rs Q pj L' S os ce sl) : WP X Z rc rs Q pc L S0 os ce sl := tree k
theorem W.cutLO {G : List Slot → OS → Prop} {S0 : List Value} (pj : Nat) (tree : (∀ L' os', G L' os' → WP X Z rc rs Q pj L' S os' ce sl) → WP X Z rc rs Q pc L S0 os ce sl) (k : ∀ L' os', G L' os' → WP X Z rc rs Q pj L' S os' ce sl) : WP X Z rc rs Q pc L S0 os ce sl := tree k
theorem W.cut0 {S0 : List Value} (pj : Nat) (tree : WP X Z rc rs Q pj L S os ce sl → WP X Z rc rs Q pc L S0 os ce sl) (k : WP X Z rc rs Q pj L S os ce sl) : WP X Z rc rs Q pc L S0 os ce sl := tree k
theorem W.cutS {G : Value → Prop} {S0 : List Value} (pj : Nat) (tree : (∀ v, G v → WP X Z rc rs Q pj L (v :: S) os ce sl) → WP X Z rc rs Q pc L S0 os ce sl) (k : ∀ v, G v → WP X Z rc rs Q pj L (v :: S) os ce sl) : WP X Z rc rs Q pc L S0 os ce sl := tree k
theorem W.ldcI {idx : Nat} {v : Int32} (K : Ctx X l Z R y code maxL ret) (pc' : Nat) (hd : decode code pc = .ok (.ldc idx, 2)) (w : (Jvm.Cond.constant y.cls idx v).before a0 Z = true) (k : WP X Z rc rs Q pc' L (.int v :: S) os ce sl) (hp : pc + 2 = pc' := by rfl) : WP X Z rc rs Q pc L S os ce sl := by
  obtain ⟨p, l', e, R', s, m, args, below, meth, c⟩ := X
  obtain ⟨h1, h2, hx, hZ, hby, hml, hown, hnm, hret, hlk⟩ := K
  have h2' : R' = R := h2
  subst h2'
  subst hp
  intro T locs hT0 hH hF
  have hT : Stand p l' e R' s m args below meth c T locs ce sl := hT0
  obtain ⟨s2, o, st, r⟩ := k T locs hT hH hF
  exact ⟨s2, o, Stand.ldcInt hT hx hown (mvT hZ w) (g := mkF m pc L.toArray S) rfl (hb hby hd) _ st, r⟩
theorem W.ldc2 {idx : Nat} {v : Int64} (K : Ctx X l Z R y code maxL ret) (pc' : Nat) (hd : decode code pc = .ok (.ldc2_w idx, 3)) (w : (Jvm.Cond.constantLong y.cls idx v).before a0 Z = true) (k : WP X Z rc rs Q pc' L (.long v :: S) os ce sl) (hp : pc + 3 = pc' := by rfl) : WP X Z rc rs Q pc L S os ce sl := by
  obtain ⟨p, l', e, R', s, m, args, below, meth, c⟩ := X
  obtain ⟨h1, h2, hx, hZ, hby, hml, hown, hnm, hret, hlk⟩ := K
  have h2' : R' = R := h2
  subst h2'
  subst hp
  intro T locs hT0 hH hF
  have hT : Stand p l' e R' s m args below meth c T locs ce sl := hT0
  obtain ⟨s2, o, st, r⟩ := k T locs hT hH hF
  exact ⟨s2, o, Stand.ldc2Long hT hx hown (mvT hZ w) (g := mkF m pc L.toArray S) rfl (hb hby hd) _ st, r⟩
theorem idx_ok {vs : List Value} {c : Cell} {j : Int32} {k : Nat} {v : Value} (hs : c.slots = vs.toArray) (hj : j.toInt = (k : Int)) (hv : vs[k]? = some v) : ¬ (j < 0 ∨ c.slots.size ≤ j.toNatClampNeg) ∧ j.toNatClampNeg = k ∧ c.slots[j.toNatClampNeg]? = some v := by
  have e : j.toNatClampNeg = k := by show j.toInt.toNat = k; rw [hj]; rfl
  have hk := (List.getElem?_eq_some_iff.mp hv).1
  refine ⟨?_, e, by rw [e, hs]; simpa using hv⟩
  rw [Int32.lt_iff_toInt_lt, e, hs]
  simp only [List.size_toArray]
  intro q
  rcases q with q | q
  · rw [hj] at q
    exact absurd q (Int.not_lt.mpr (Int.natCast_nonneg k))
  · omega
theorem W.iaload {a : Addr} {vs : List Value} {j : Int32} {v : Value} (i : Nat) (K : Ctx X l Z R y code maxL ret) (pc' : Nat) (hd : decode code pc = .ok (.iaload, 1)) (hm : (a, ARR Z .int vs) ∈ os) (hj : j.toInt = (i : Int)) (hv : vs[i]? = some v) (k : WP X Z rc rs Q pc' L (v :: S) os ce sl) (hp : pc + 1 = pc' := by rfl) : WP X Z rc rs Q pc L (.int j :: .ref a :: S) os ce sl := by
  obtain ⟨p, l', e, R', s, m, args, below, meth, c⟩ := X
  obtain ⟨h1, h2, hx, hZ, hby, hml, hown, hnm, hret, hlk⟩ := K
  have h2' : R' = R := h2
  subst h2'
  subst hp
  intro T locs hT0 hH hF
  have hT : Stand p l' e R' s m args below meth c T locs ce sl := hT0
  obtain ⟨s2, o, st, r⟩ := k T locs hT hH hF
  obtain ⟨-, cl, hcl, q1, q2, q3, q4, q5⟩ := hH.get hm
  obtain ⟨e1, e2, e3⟩ := idx_ok q3 hj hv
  exact ⟨s2, o, Stand.iaload hT hx hcl (State.isArrayOf_alike hZ.alike q1) q2 e1 e3 (g := mkF m pc L.toArray (.int j :: .ref a :: S)) rfl rfl (hb hby hd) _ st, r⟩
theorem W.laload {a : Addr} {vs : List Value} {j : Int32} {v : Value} (i : Nat) (K : Ctx X l Z R y code maxL ret) (pc' : Nat) (hd : decode code pc = .ok (.laload, 1)) (hm : (a, ARR Z .long vs) ∈ os) (hj : j.toInt = (i : Int)) (hv : vs[i]? = some v) (k : WP X Z rc rs Q pc' L (v :: S) os ce sl) (hp : pc + 1 = pc' := by rfl) : WP X Z rc rs Q pc L (.int j :: .ref a :: S) os ce sl := by
  obtain ⟨p, l', e, R', s, m, args, below, meth, c⟩ := X
  obtain ⟨h1, h2, hx, hZ, hby, hml, hown, hnm, hret, hlk⟩ := K
  have h2' : R' = R := h2
  subst h2'
  subst hp
  intro T locs hT0 hH hF
  have hT : Stand p l' e R' s m args below meth c T locs ce sl := hT0
  obtain ⟨s2, o, st, r⟩ := k T locs hT hH hF
  obtain ⟨-, cl, hcl, q1, q2, q3, q4, q5⟩ := hH.get hm
  obtain ⟨e1, e2, e3⟩ := idx_ok q3 hj hv
  exact ⟨s2, o, Stand.laload hT hx hcl (State.isArrayOf_alike hZ.alike q1) q2 e1 e3 (g := mkF m pc L.toArray (.int j :: .ref a :: S)) rfl rfl (hb hby hd) _ st, r⟩
theorem W.caload {a : Addr} {vs : List Value} {j : Int32} {v : Value} (i : Nat) (K : Ctx X l Z R y code maxL ret) (pc' : Nat) (hd : decode code pc = .ok (.caload, 1)) (hm : (a, ARR Z .char vs) ∈ os) (hj : j.toInt = (i : Int)) (hv : vs[i]? = some v) (k : WP X Z rc rs Q pc' L (v :: S) os ce sl) (hp : pc + 1 = pc' := by rfl) : WP X Z rc rs Q pc L (.int j :: .ref a :: S) os ce sl := by
  obtain ⟨p, l', e, R', s, m, args, below, meth, c⟩ := X
  obtain ⟨h1, h2, hx, hZ, hby, hml, hown, hnm, hret, hlk⟩ := K
  have h2' : R' = R := h2
  subst h2'
  subst hp
  intro T locs hT0 hH hF
  have hT : Stand p l' e R' s m args below meth c T locs ce sl := hT0
  obtain ⟨s2, o, st, r⟩ := k T locs hT hH hF
  obtain ⟨-, cl, hcl, q1, q2, q3, q4, q5⟩ := hH.get hm
  obtain ⟨e1, e2, e3⟩ := idx_ok q3 hj hv
  exact ⟨s2, o, Stand.caload hT hx hcl (State.isArrayOf_alike hZ.alike q1) q2 e1 e3 (g := mkF m pc L.toArray (.int j :: .ref a :: S)) rfl rfl (hb hby hd) _ st, r⟩
theorem W.baload {a : Addr} {vs : List Value} {j : Int32} {v : Value} (i : Nat) (K : Ctx X l Z R y code maxL ret) (pc' : Nat) (hd : decode code pc = .ok (.baload, 1)) (hm : (a, ARR Z .byte vs) ∈ os) (hj : j.toInt = (i : Int)) (hv : vs[i]? = some v) (k : WP X Z rc rs Q pc' L (v :: S) os ce sl) (hp : pc + 1 = pc' := by rfl) : WP X Z rc rs Q pc L (.int j :: .ref a :: S) os ce sl := by
  obtain ⟨p, l', e, R', s, m, args, below, meth, c⟩ := X
  obtain ⟨h1, h2, hx, hZ, hby, hml, hown, hnm, hret, hlk⟩ := K
  have h2' : R' = R := h2
  subst h2'
  subst hp
  intro T locs hT0 hH hF
  have hT : Stand p l' e R' s m args below meth c T locs ce sl := hT0
  obtain ⟨s2, o, st, r⟩ := k T locs hT hH hF
  obtain ⟨-, cl, hcl, q1, q2, q3, q4, q5⟩ := hH.get hm
  obtain ⟨e1, e2, e3⟩ := idx_ok q3 hj hv
  exact ⟨s2, o, Stand.baloadBytes hT hx hcl (State.isArrayOf_alike hZ.alike q1) q2 e1 e3 (g := mkF m pc L.toArray (.int j :: .ref a :: S)) rfl rfl (hb hby hd) _ st, r⟩
theorem W.aaload {a : Addr} {vs : List Value} {j : Int32} {v : Value} {ty : FieldType} (i : Nat) (K : Ctx X l Z R y code maxL ret) (pc' : Nat) (hd : decode code pc = .ok (.aaload, 1)) (hm : (a, ARR Z ty vs) ∈ os) (hj : j.toInt = (i : Int)) (hv : vs[i]? = some v) (hty : ty.isReference = true) (k : WP X Z rc rs Q pc' L (v :: S) os ce sl) (hp : pc + 1 = pc' := by rfl) : WP X Z rc rs Q pc L (.int j :: .ref a :: S) os ce sl := by
  obtain ⟨p, l', e, R', s, m, args, below, meth, c⟩ := X
  obtain ⟨h1, h2, hx, hZ, hby, hml, hown, hnm, hret, hlk⟩ := K
  have h2' : R' = R := h2
  subst h2'
  subst hp
  intro T locs hT0 hH hF
  have hT : Stand p l' e R' s m args below meth c T locs ce sl := hT0
  obtain ⟨s2, o, st, r⟩ := k T locs hT hH hF
  obtain ⟨-, cl, hcl, q1, q2, q3, q4, q5⟩ := hH.get hm
  obtain ⟨e1, e2, e3⟩ := idx_ok q3 hj hv
  exact ⟨s2, o, Stand.aaload hT hx hcl (State.isArrayOf_alike hZ.alike q1) hty q2 e1 e3 (g := mkF m pc L.toArray (.int j :: .ref a :: S)) rfl rfl (hb hby hd) _ st, r⟩
theorem W.arraylength {a : Addr} {vs : List Value} {ty : FieldType} (z : Int32) (K : Ctx X l Z R y code maxL ret) (pc' : Nat) (hd : decode code pc = .ok (.arraylength, 1)) (hm : (a, ARR Z ty vs) ∈ os) (hz : vs.length.toInt32 = z) (k : WP X Z rc rs Q pc' L (.int z :: S) os ce sl) (hp : pc + 1 = pc' := by rfl) : WP X Z rc rs Q pc L (.ref a :: S) os ce sl := by
  obtain ⟨p, l', e, R', s, m, args, below, meth, c⟩ := X
  obtain ⟨h1, h2, hx, hZ, hby, hml, hown, hnm, hret, hlk⟩ := K
  have h2' : R' = R := h2
  subst h2'
  subst hp
  intro T locs hT0 hH hF
  have hT : Stand p l' e R' s m args below meth c T locs ce sl := hT0
  obtain ⟨s2, o, st, r⟩ := k T locs hT hH hF
  obtain ⟨-, cl, hcl, q1, q2, q3, q4, q5⟩ := hH.get hm
  have e : cl.slots.size.toInt32 = z := by rw [q3]; simpa using hz
  rw [← e] at st
  exact ⟨s2, o, Stand.arraylength hT hx hcl (State.isArrayOf_alike hZ.alike q1) (g := mkF m pc L.toArray (.ref a :: S)) rfl rfl (hb hby hd) _ st, r⟩
theorem W.iastore {a : Addr} {vs : List Value} {j : Int32} {x : Int32} {w : Value} (i : Nat) (K : Ctx X l Z R y code maxL ret) (pc' : Nat) (hd : decode code pc = .ok (.iastore, 1)) (hm : Upd os a (ARR Z .int vs) (ARR Z .int (vs.set i (.int x))) os') (hj : j.toInt = (i : Int)) (hv : vs[i]? = some w) (k : WP X Z rc rs Q pc' L S os' ce sl) (hp : pc + 1 = pc' := by rfl) : WP X Z rc rs Q pc L (.int x :: .int j :: .ref a :: S) os ce sl := by
  obtain ⟨p, l', e, R', s, m, args, below, meth, c⟩ := X
  obtain ⟨h1, h2, hx, hZ, hby, hml, hown, hnm, hret, hlk⟩ := K
  have h2' : R' = R := h2
  subst h2'
  subst hp
  intro T locs hT0 hH hF
  have hT : Stand p l' e R' s m args below meth c T locs ce sl := hT0
  obtain ⟨ii, hm, rfl⟩ := hm
  obtain ⟨ha, cl, hcl, q1, q2, q3, q4, q5⟩ := hH.2.2 ii _ hm
  obtain ⟨e1, e2, e3⟩ := idx_ok q3 hj hv
  obtain ⟨T', h', X', e', W', st'⟩ := RoadKit.stI hT hx hZ rfl ⟨hcl, q1, q2⟩ (x := x) e1 (g := mkF m pc L.toArray (.int x :: .int j :: .ref a :: S)) rfl rfl (hb hby hd)
  rw [e2] at W'
  obtain ⟨s2, o, st, r⟩ := k T' _ X' (by rw [e']; exact hH.upd hm W' (fun c c' g1 g2 g3 g4 => by rw [g4]; exact ARR.put g2 (rfl))) (Fr.snoc X' hF ha)
  exact ⟨s2, o, st' _ st, r⟩
theorem W.lastore {a : Addr} {vs : List Value} {j : Int32} {x : Int64} {w : Value} (i : Nat) (K : Ctx X l Z R y code maxL ret) (pc' : Nat) (hd : decode code pc = .ok (.lastore, 1)) (hm : Upd os a (ARR Z .long vs) (ARR Z .long (vs.set i (.long x))) os') (hj : j.toInt = (i : Int)) (hv : vs[i]? = some w) (k : WP X Z rc rs Q pc' L S os' ce sl) (hp : pc + 1 = pc' := by rfl) : WP X Z rc rs Q pc L (.long x :: .int j :: .ref a :: S) os ce sl := by
  obtain ⟨p, l', e, R', s, m, args, below, meth, c⟩ := X
  obtain ⟨h1, h2, hx, hZ, hby, hml, hown, hnm, hret, hlk⟩ := K
  have h2' : R' = R := h2
  subst h2'
  subst hp
  intro T locs hT0 hH hF
  have hT : Stand p l' e R' s m args below meth c T locs ce sl := hT0
  obtain ⟨ii, hm, rfl⟩ := hm
  obtain ⟨ha, cl, hcl, q1, q2, q3, q4, q5⟩ := hH.2.2 ii _ hm
  obtain ⟨e1, e2, e3⟩ := idx_ok q3 hj hv
  obtain ⟨T', h', X', e', W', st'⟩ := RoadKit.stJ hT hx hZ rfl ⟨hcl, q1, q2⟩ (x := x) e1 (g := mkF m pc L.toArray (.long x :: .int j :: .ref a :: S)) rfl rfl (hb hby hd)
  rw [e2] at W'
  obtain ⟨s2, o, st, r⟩ := k T' _ X' (by rw [e']; exact hH.upd hm W' (fun c c' g1 g2 g3 g4 => by rw [g4]; exact ARR.put g2 (rfl))) (Fr.snoc X' hF ha)
  exact ⟨s2, o, st' _ st, r⟩
theorem W.bastore {a : Addr} {vs : List Value} {j : Int32} {x : Int32} {w : Value} (i : Nat) (K : Ctx X l Z R y code maxL ret) (pc' : Nat) (hd : decode code pc = .ok (.bastore, 1)) (hm : Upd os a (ARR Z .byte vs) (ARR Z .byte (vs.set i (.int x.toInt8.toInt32))) os') (hj : j.toInt = (i : Int)) (hv : vs[i]? = some w) (k : WP X Z rc rs Q pc' L S os' ce sl) (hp : pc + 1 = pc' := by rfl) : WP X Z rc rs Q pc L (.int x :: .int j :: .ref a :: S) os ce sl := by
  obtain ⟨p, l', e, R', s, m, args, below, meth, c⟩ := X
  obtain ⟨h1, h2, hx, hZ, hby, hml, hown, hnm, hret, hlk⟩ := K
  have h2' : R' = R := h2
  subst h2'
  subst hp
  intro T locs hT0 hH hF
  have hT : Stand p l' e R' s m args below meth c T locs ce sl := hT0
  obtain ⟨ii, hm, rfl⟩ := hm
  obtain ⟨ha, cl, hcl, q1, q2, q3, q4, q5⟩ := hH.2.2 ii _ hm
  obtain ⟨e1, e2, e3⟩ := idx_ok q3 hj hv
  obtain ⟨T', h', X', e', W', st'⟩ := RoadKit.stB hT hx hZ rfl ⟨hcl, q1, q2⟩ (x := x) e1 (g := mkF m pc L.toArray (.int x :: .int j :: .ref a :: S)) rfl rfl (hb hby hd)
  rw [e2] at W'
  obtain ⟨s2, o, st, r⟩ := k T' _ X' (by rw [e']; exact hH.upd hm W' (fun c c' g1 g2 g3 g4 => by rw [g4]; exact ARR.put g2 (fits_nar_byte x))) (Fr.snoc X' hF ha)
  exact ⟨s2, o, st' _ st, r⟩
theorem W.castore {a : Addr} {vs : List Value} {j : Int32} {x : Int32} {w : Value} (i : Nat) (K : Ctx X l Z R y code maxL ret) (pc' : Nat) (hd : decode code pc = .ok (.castore, 1)) (hm : Upd os a (ARR Z .char vs) (ARR Z .char (vs.set i (.int x.toUInt32.toUInt16.toUInt32.toInt32))) os') (hj : j.toInt = (i : Int)) (hv : vs[i]? = some w) (k : WP X Z rc rs Q pc' L S os' ce sl) (hp : pc + 1 = pc' := by rfl) : WP X Z rc rs Q pc L (.int x :: .int j :: .ref a :: S) os ce sl := by
  obtain ⟨p, l', e, R', s, m, args, below, meth, c⟩ := X
  obtain ⟨h1, h2, hx, hZ, hby, hml, hown, hnm, hret, hlk⟩ := K
  have h2' : R' = R := h2
  subst h2'
  subst hp
  intro T locs hT0 hH hF
  have hT : Stand p l' e R' s m args below meth c T locs ce sl := hT0
  obtain ⟨ii, hm, rfl⟩ := hm
  obtain ⟨ha, cl, hcl, q1, q2, q3, q4, q5⟩ := hH.2.2 ii _ hm
  obtain ⟨e1, e2, e3⟩ := idx_ok q3 hj hv
  obtain ⟨T', h', X', e', W', st'⟩ := RoadKit.stC hT hx hZ rfl ⟨hcl, q1, q2⟩ (x := x) e1 (g := mkF m pc L.toArray (.int x :: .int j :: .ref a :: S)) rfl rfl (hb hby hd)
  rw [e2] at W'
  obtain ⟨s2, o, st, r⟩ := k T' _ X' (by rw [e']; exact hH.upd hm W' (fun c c' g1 g2 g3 g4 => by rw [g4]; exact ARR.put g2 (fits_nar_char x))) (Fr.snoc X' hF ha)
  exact ⟨s2, o, st' _ st, r⟩
theorem W.getF {a : Addr} {O n d C : String} {v : Value} {fs : List FV} {idx : Nat} (K : Ctx X l Z R y code maxL ret) (pc' : Nat) (hd : decode code pc = .ok (.getfield idx, 3)) (w : (Jvm.Cond.fieldLink y.cls idx O n d).before a0 Z = true) (hm : (a, OBJ Z C fs) ∈ os) (hf : (O, n, d, v) ∈ fs) (k : WP X Z rc rs Q pc' L (v :: S) os ce sl) (hp : pc + 3 = pc' := by rfl) : WP X Z rc rs Q pc L (.ref a :: S) os ce sl := by
  obtain ⟨p, l', e, R', s, m, args, below, meth, c⟩ := X
  obtain ⟨h1, h2, hx, hZ, hby, hml, hown, hnm, hret, hlk⟩ := K
  have h2' : R' = R := h2
  subst h2'
  subst hp
  intro T locs hT0 hH hF
  have hT : Stand p l' e R' s m args below meth c T locs ce sl := hT0
  obtain ⟨-, cl, hcl, hO⟩ := hH.get hm
  obtain ⟨T', X', e', st'⟩ := RoadKit.getF hT hx hZ hown (host := "") (Or.inl w) Via.refl rfl (hO.fld hcl hf) (g := mkF m pc L.toArray (.ref a :: S)) rfl rfl (hb hby hd)
  obtain ⟨s2, o, st, r⟩ := k T' locs X' (by rw [e']; exact hH) hF
  exact ⟨s2, o, st' _ st, r⟩
theorem W.getFN {a : Addr} {O n d C host : String} {v : Value} {fs : List FV} {idx : Nat} (K : Ctx X l Z R y code maxL ret) (pc' : Nat) (hd : decode code pc = .ok (.getfield idx, 3)) (w : (Jvm.Cond.fieldLinkNest y.cls idx O n d host).before a0 Z = true) (hm : (a, OBJ Z C fs) ∈ os) (hf : (O, n, d, v) ∈ fs) (k : WP X Z rc rs Q pc' L (v :: S) os ce sl) (hp : pc + 3 = pc' := by rfl) : WP X Z rc rs Q pc L (.ref a :: S) os ce sl := by
  obtain ⟨p, l', e, R', s, m, args, below, meth, c⟩ := X
  obtain ⟨h1, h2, hx, hZ, hby, hml, hown, hnm, hret, hlk⟩ := K
  have h2' : R' = R := h2
  subst h2'
  subst hp
  intro T locs hT0 hH hF
  have hT : Stand p l' e R' s m args below meth c T locs ce sl := hT0
  obtain ⟨-, cl, hcl, hO⟩ := hH.get hm
  obtain ⟨T', X', e', st'⟩ := RoadKit.getF hT hx hZ hown (host := host) (Or.inr w) Via.refl rfl (hO.fld hcl hf) (g := mkF m pc L.toArray (.ref a :: S)) rfl rfl (hb hby hd)
  obtain ⟨s2, o, st, r⟩ := k T' locs X' (by rw [e']; exact hH) hF
  exact ⟨s2, o, st' _ st, r⟩
theorem W.getFo {a : Addr} {O n d : String} {v : Value} {idx : Nat} (K : Ctx X l Z R y code maxL ret) (pc' : Nat) (hd : decode code pc = .ok (.getfield idx, 3)) (w : (Jvm.Cond.fieldLink y.cls idx O n d).before a0 Z = true) (F : Fld Z Z.heap a O n d v) (k : WP X Z rc rs Q pc' L (v :: S) os ce sl) (hp : pc + 3 = pc' := by rfl) : WP X Z rc rs Q pc L (.ref a :: S) os ce sl := by
  obtain ⟨p, l', e, R', s, m, args, below, meth, c⟩ := X
  obtain ⟨h1, h2, hx, hZ, hby, hml, hown, hnm, hret, hlk⟩ := K
  have h2' : R' = R := h2
  subst h2'
  subst hp
  intro T locs hT0 hH hF
  have hT : Stand p l' e R' s m args below meth c T locs ce sl := hT0
  obtain ⟨T', X', e', st'⟩ := RoadKit.getF hT hx hZ hown (host := "") (Or.inl w) Via.refl rfl (F.ext hH.1) (g := mkF m pc L.toArray (.ref a :: S)) rfl rfl (hb hby hd)
  obtain ⟨s2, o, st, r⟩ := k T' locs X' (by rw [e']; exact hH) hF
  exact ⟨s2, o, st' _ st, r⟩
theorem W.getFR {a : Addr} {O n d C : String} {v : Value} {fs : List FV} {idx : Nat} (K : Ctx X l Z R y code maxL ret) (pc' : Nat) (hd : decode code pc = .ok (.getfield idx, 3)) (w : (Jvm.Cond.fieldRef y.cls idx O n d).before a0 Z = true) (hm : (a, OBJ Z C fs) ∈ os) (hf : (O, n, d, v) ∈ fs) (k : WP X Z rc rs Q pc' L (v :: S) os ce sl) (hp : pc + 3 = pc' := by rfl) : WP X Z rc rs Q pc L (.ref a :: S) os ce sl := by
  obtain ⟨p, l', e, R', s, m, args, below, meth, c⟩ := X
  obtain ⟨h1, h2, hx, hZ, hby, hml, hown, hnm, hret, hlk⟩ := K
  have h2' : R' = R := h2
  subst h2'
  subst hp
  intro T locs hT0 hH hF
  have hT : Stand p l' e R' s m args below meth c T locs ce sl := hT0
  obtain ⟨-, cl, hcl, hO⟩ := hH.get hm
  obtain ⟨s2, o, st, r⟩ := k T locs hT hH hF
  obtain ⟨cell, cf, kf, i, f, f1, f2, f3, f4, f5, f6, f7⟩ := hO.fld hcl hf
  cases hcl.symm.trans f1
  have hZT : Z.Warmed39 T.vm := wtrans hZ (Stand.warmed hT)
  have w1 := Cond.fieldRef_warmed39 hZT w
  have hcur : (Z.setVm T.vm).vm.findClass y.cls = some m.cls := by
    have q := (Stand.warmed hT).alike.findClass y.cls
    show T.vm.findClass y.cls = some m.cls
    rw [q]; exact hown
  obtain ⟨c1, k1, i1, fd1, g1, g2⟩ := Cond.fieldRef_spec hcur w1
  obtain ⟨k2, g3, -⟩ := State.fieldFound?_setVm (s := Z) hZT.alike f2
  cases g1.symm.trans g3
  refine ⟨s2, o, ?_, r⟩
  have hX := Stand.here hT
  have hdg := hb hby hd
  jvm_step hX [hX.top, hx, hdg, getfield.wp_ready (e := e) (s := T) (f := mkF m pc L.toArray (.ref a :: S)) hX.top g2 f3 rfl f1 f4 f7]
  exact st
theorem W.putFg {a : Addr} {O n d C host : String} {v old : Value} {fs fs' : List FV} {idx kk : Nat} {ty : FieldType} (K : Ctx X l Z R y code maxL ret) (pc' : Nat) (hd : decode code pc = .ok (.putfield idx, 3)) (w : (Jvm.Cond.fieldLink y.cls idx O n d).before a0 Z = true ∨ (Jvm.Cond.fieldLinkNest y.cls idx O n d host).before a0 Z = true)
    (hL : (Jvm.Cond.lays C O n d).before a0 Z = true ∨ ((Jvm.Cond.laysFinal C O n d).before a0 Z = true ∧ y.cls = O ∧ y.name = "<init>")) (wi : (Jvm.Cond.instantiable C kk).before a0 Z = true) (hty : parseFieldDescriptor d = some ty) (hn : narrow ty v = v) (hfit : fits ty v = true)
    (hm : Upd os a (OBJ Z C fs) (OBJ Z C fs') os') (hf : UpdF fs O n d old v fs') (k : WP X Z rc rs Q pc' L S os' ce sl) (hp : pc + 3 = pc' := by rfl) : WP X Z rc rs Q pc L (v :: .ref a :: S) os ce sl := by
  obtain ⟨p, l', e, R', s, m, args, below, meth, c⟩ := X
  obtain ⟨h1, h2, hx, hZ, hby, hml, hown, hnm, hret, hlk⟩ := K
  have h2' : R' = R := h2
  subst h2'
  subst hp
  intro T locs hT0 hH hF
  have hT : Stand p l' e R' s m args below meth c T locs ce sl := hT0
  obtain ⟨ii, hm, rfl⟩ := hm
  obtain ⟨ha, cl, hcl, hO⟩ := hH.2.2 ii _ hm
  have hmem : (O, n, d, old) ∈ fs := by obtain ⟨jj, hj, -⟩ := hf; exact List.mem_of_getElem? hj
  obtain ⟨T', h', X', e', W', st'⟩ := RoadKit.putF hT hx hZ hown w Via.refl rfl (hO.fld hcl hmem) (hO.exa hcl) (hL.imp id (fun q => ⟨q.1, q.2.1, by rw [hnm]; exact q.2.2⟩)) wi hty hn hfit (g := mkF m pc L.toArray (v :: .ref a :: S)) rfl rfl (hb hby hd)
  obtain ⟨s2, o, st, r⟩ := k T' _ X' (by rw [e']; exact hH.upd hm W' (fun c c' g1 g2 g3 g4 => by rw [g4]; exact OBJ.put g2 hf)) (Fr.snoc X' hF ha)
  exact ⟨s2, o, st' _ st, r⟩
theorem W.putF {a : Addr} {O n d C : String} {v old : Value} {fs fs' : List FV} {idx kk : Nat} {ty : FieldType} (K : Ctx X l Z R y code maxL ret) (pc' : Nat) (hd : decode code pc = .ok (.putfield idx, 3)) (w : (Jvm.Cond.fieldLink y.cls idx O n d).before a0 Z = true)
    (hL : (Jvm.Cond.lays C O n d).before a0 Z = true) (wi : (Jvm.Cond.instantiable C kk).before a0 Z = true) (hty : parseFieldDescriptor d = some ty) (hm : Upd os a (OBJ Z C fs) (OBJ Z C fs') os') (hf : UpdF fs O n d old v fs') (k : WP X Z rc rs Q pc' L S os' ce sl) (hn : narrow ty v = v := by rfl) (hfit : fits ty v = true := by rfl)
    (hp : pc + 3 = pc' := by rfl) : WP X Z rc rs Q pc L (v :: .ref a :: S) os ce sl := W.putFg (host := "") K pc' hd (Or.inl w) (Or.inl hL) wi hty hn hfit hm hf k hp
theorem W.putFf {a : Addr} {O n d C : String} {v old : Value} {fs fs' : List FV} {idx kk : Nat} {ty : FieldType} (K : Ctx X l Z R y code maxL ret) (pc' : Nat) (hd : decode code pc = .ok (.putfield idx, 3)) (w : (Jvm.Cond.fieldLink y.cls idx O n d).before a0 Z = true)
    (hL : (Jvm.Cond.laysFinal C O n d).before a0 Z = true) (wi : (Jvm.Cond.instantiable C kk).before a0 Z = true) (hty : parseFieldDescriptor d = some ty) (hm : Upd os a (OBJ Z C fs) (OBJ Z C fs') os') (hf : UpdF fs O n d old v fs') (k : WP X Z rc rs Q pc' L S os' ce sl) (hn : narrow ty v = v := by rfl) (hfit : fits ty v = true := by rfl)
    (hy1 : y.cls = O := by rfl) (hy2 : y.name = "<init>" := by rfl) (hp : pc + 3 = pc' := by rfl) : WP X Z rc rs Q pc L (v :: .ref a :: S) os ce sl := W.putFg (host := "") K pc' hd (Or.inl w) (Or.inr ⟨hL, hy1, hy2⟩) wi hty hn hfit hm hf k hp
theorem W.getS {O n d : String} {v : Value} {idx : Nat} (K : Ctx X l Z R y code maxL ret) (pc' : Nat) (hd : decode code pc = .ok (.getstatic idx, 3)) (w : (Jvm.Cond.fieldLink y.cls idx O n d).before a0 Z = true) (F : Sta Z Z.heap O n d v) (k : WP X Z rc rs Q pc' L (v :: S) os ce sl) (hp : pc + 3 = pc' := by rfl) : WP X Z rc rs Q pc L S os ce sl := by
  obtain ⟨p, l', e, R', s, m, args, below, meth, c⟩ := X
  obtain ⟨h1, h2, hx, hZ, hby, hml, hown, hnm, hret, hlk⟩ := K
  have h2' : R' = R := h2
  subst h2'
  subst hp
  intro T locs hT0 hH hF
  have hT : Stand p l' e R' s m args below meth c T locs ce sl := hT0
  obtain ⟨T', X', e', st'⟩ := RoadKit.getS hT hx hZ (host := "") hown w Via.refl rfl (F.ext hH.1) (g := mkF m pc L.toArray S) rfl (hb hby hd)
  obtain ⟨s2, o, st, r⟩ := k T' locs X' (by rw [e']; exact hH) hF
  exact ⟨s2, o, st' _ st, r⟩
theorem W.new {C : String} {idx n : Nat} (fs : List FV) (K : Ctx X l Z R y code maxL ret) (pc' : Nat) (hd : decode code pc = .ok (.new idx, 3)) (w : (Jvm.Cond.classLink y.cls idx C).before a0 Z = true) (wi : (Jvm.Cond.instantiable C n).before a0 Z = true) (wz : (Jvm.Cond.initialized C).before a0 Z = true)
    (q : Laids Z a0 C fs) (k : ∀ a, WP X Z rc rs Q pc' L (.ref a :: S) ((a, OBJ Z C fs) :: os) (ce + 1) (sl + n)) (hc : ce + 1 ≤ R.cells := by decide) (hl : sl + n ≤ R.slots := by decide) (nd : (fs.map (fun f => f.2.1)).Nodup := by decide) (hp : pc + 3 = pc' := by rfl) : WP X Z rc rs Q pc L S os ce sl := by
  obtain ⟨p, l', e, R', s, m, args, below, meth, c⟩ := X
  obtain ⟨h1, h2, hx, hZ, hby, hml, hown, hnm, hret, hlk⟩ := K
  have h2' : R' = R := h2
  subst h2'
  subst hp
  intro T locs hT0 hH hF
  have hT : Stand p l' e R' s m args below meth c T locs ce sl := hT0
  obtain ⟨T', h', X', e', E', A', D', -, st'⟩ := RoadKit.newO hT hx hZ hown w wi wz rfl (g := mkF m pc L.toArray S) rfl (hb hby hd) (hc) (hl)
  obtain ⟨c0, hc0, hO⟩ := OBJ.new A' D' q nd
  obtain ⟨s2, o, st, r⟩ := k T.heap.size T' locs X' (by rw [e']; exact hH.new E' hc0 hO) hF
  exact ⟨s2, o, st' _ st, r⟩
theorem fits_dflt {ty : FieldType} (h : ty = .int ∨ ty = .long ∨ ty = .byte ∨ ty = .char ∨ ty = .boolean ∨ ty = .short) : fits ty (defaultValue ty) = true := by
  rcases h with rfl | rfl | rfl | rfl | rfl | rfl <;> rfl
theorem W.newarray {aty : ArrayType} {ty : FieldType} {z : Int32} (i cap : Nat) (K : Ctx X l Z R y code maxL ret) (pc' : Nat) (hd : decode code pc = .ok (.newarray aty, 2)) (w : (Jvm.Cond.arrayClass ty).before a0 Z = true) (hz : z.toInt = (i : Int)) (hi : i ≤ cap)
    (k : ∀ a, WP X Z rc rs Q pc' L (.ref a :: S) ((a, ARR Z ty (List.replicate i (defaultValue ty))) :: os) (ce + 1) (sl + cap)) (ht : newarray.typeOf aty = ty := by rfl) (htt : ty = .int ∨ ty = .long ∨ ty = .byte ∨ ty = .char ∨ ty = .boolean ∨ ty = .short := by simp) (hb8 : cap * 8 ≤ 536870912 := by decide) (hc : ce + 1 ≤ R.cells := by decide) (hl : sl + cap ≤ R.slots := by decide) (hp : pc + 2 = pc' := by rfl) :
    WP X Z rc rs Q pc L (.int z :: S) os ce sl := by
  obtain ⟨p, l', e, R', s, m, args, below, meth, c⟩ := X
  obtain ⟨h1, h2, hx, hZ, hby, hml, hown, hnm, hret, hlk⟩ := K
  have h2' : R' = R := h2
  subst h2'
  subst hp
  intro T locs hT0 hH hF
  have hT : Stand p l' e R' s m args below meth c T locs ce sl := hT0
  subst ht
  have ez : z.toNatClampNeg = i := by show z.toInt.toNat = i; rw [hz]; rfl
  obtain ⟨T', h', cA, X', e', E', A', st'⟩ := RoadKit.newP hT hx hZ w rfl (g := mkF m pc L.toArray (.int z :: S)) rfl (hb hby hd) rfl (by rw [Int32.lt_iff_toInt_lt, hz]; exact Int.not_lt.mpr (Int.natCast_nonneg i)) (cap := cap) (by rw [ez]; exact hi) hb8 (hc) (hl)
  have hA : ARR Z (newarray.typeOf aty) (List.replicate i (defaultValue (newarray.typeOf aty))) (newA cA (newarray.typeOf aty) z) := by
    refine ⟨A'.2.1, A'.2.2, by simp [newA, ez], fun v hv => ?_, by simp; omega⟩
    rw [(List.mem_replicate.mp hv).2]; exact fits_dflt htt
  obtain ⟨s2, o, st, r⟩ := k T.heap.size T' locs X' (by rw [e']; exact hH.new E' A'.1 hA) hF
  exact ⟨s2, o, st' _ st, r⟩
theorem W.initO {a : Addr} {idx : Nat} (K : Ctx X l Z R y code maxL ret) (pc' : Nat) (hd : decode code pc = .ok (.invokespecial idx, 3)) (w1 : (Jvm.Cond.methodLink y.cls idx Lib.objectInit).before a0 Z = true) (w2 : (Jvm.Cond.instanceMethod Lib.objectInit).before a0 Z = true) (w3 : (Jvm.Cond.code Lib.objectInit ⟨#[0xb1]⟩ 1 none).before a0 Z = true)
    (k : WP X Z rc rs Q pc' L S os ce sl) (hsz : L.length = maxL := by rfl) (hf : 1 ≤ R.frames := by decide) (hl : (S.map fun v => v.category).sum + 12 ≤ R.locals := by exact Nat.le_of_ble_eq_true rfl) (hp : pc + 3 = pc' := by rfl) : WP X Z rc rs Q pc L (.ref a :: S) os ce sl := by
  obtain ⟨p, l', e, R', s, m, args, below, meth, c⟩ := X
  obtain ⟨h1, h2, hx, hZ, hby, hml, hown, hnm, hret, hlk⟩ := K
  have h2' : R' = R := h2
  subst h2'
  subst hp
  intro T locs hT0 hH hF
  have hT : Stand p l' e R' s m args below meth c T locs ce sl := hT0
  obtain ⟨T', X', e', st'⟩ := RoadKit.initO hT hx hZ hown w1 w2 w3 rfl (g := mkF m pc L.toArray (.ref a :: S)) rfl (by rw [hml]; simpa using hsz) rfl (hb hby hd) (hf) (W := (S.map fun v => v.category).sum) (by show 2 * 0 + _ ≤ _; omega) (hl)
  obtain ⟨s2, o, st, r⟩ := k T' locs X' (by rw [e']; exact hH) hF
  exact ⟨s2, o, st' _ st, r⟩

theorem W.retG {w : Value} {t : FieldType} {i : Instr} (K : Ctx X l Z R y code maxL (some t)) (hn : narrow t w = w)
    (hi : (i = .ireturn ∧ (t = .int ∨ t = .boolean ∨ t = .byte ∨ t = .char ∨ t = .short) ∧ ∃ z, w = .int z) ∨ (i = .lreturn ∧ t = .long ∧ ∃ z, w = .long z) ∨ (i = .dreturn ∧ t = .double ∧ ∃ z, w = .double z) ∨ (i = .freturn ∧ t = .float ∧ ∃ z, w = .float z) ∨ (i = .areturn ∧ t.isReference = true ∧ w.isRef = true))
    (hd : decode code pc = .ok (i, 1)) (q : Q (some w) os) (hc : ce ≤ rc) (hs : sl ≤ rs) : WP X Z rc rs Q pc L (w :: S) os ce sl := by
  obtain ⟨p, l', e, R', s, m, args, below, meth, c⟩ := X
  obtain ⟨h1, h2, hx, hZ, hby, hml, hown, hnm, hret, hlk⟩ := K
  have h2' : R' = R := h2
  subst h2'
  intro T locs hT0 hH hF
  have hT : Stand p l' e R' s m args below meth c T locs ce sl := hT0
  have hret' : meth.sig.returnType = some t := hret
  obtain ⟨fs, hr, hrun, hended, hW, hsame⟩ := Stand.leave hT (v := some w) (fun h => by rw [hret'] at h; cases h) hlk
  exact ⟨_, _, retOut hT hx hret hn hi (hb hby hd) hr, hrun, hended, _, _, rfl, ⟨os, q, hH, hF⟩, ⟨_, rfl⟩, hW, hsame.mono hc hs⟩
theorem W.ireturn {z : Int32} (K : Ctx X l Z R y code maxL (some .int)) (hd : decode code pc = .ok (.ireturn, 1)) (q : Q (some (.int z)) os) (hc : ce ≤ rc := by decide) (hs : sl ≤ rs := by decide) : WP X Z rc rs Q pc L (.int z :: S) os ce sl := W.retG K rfl (Or.inl ⟨rfl, Or.inl rfl, z, rfl⟩) hd q hc hs
theorem W.lreturn {z : Int64} (K : Ctx X l Z R y code maxL (some .long)) (hd : decode code pc = .ok (.lreturn, 1)) (q : Q (some (.long z)) os) (hc : ce ≤ rc := by decide) (hs : sl ≤ rs := by decide) : WP X Z rc rs Q pc L (.long z :: S) os ce sl := W.retG K rfl (Or.inr (Or.inl ⟨rfl, rfl, z, rfl⟩)) hd q hc hs
theorem W.areturn {w : Value} {t : FieldType} (K : Ctx X l Z R y code maxL (some t)) (hd : decode code pc = .ok (.areturn, 1)) (q : Q (some w) os) (hw : w.isRef = true := by rfl) (ht : t.isReference = true := by rfl) (hc : ce ≤ rc := by decide) (hs : sl ≤ rs := by decide) : WP X Z rc rs Q pc L (w :: S) os ce sl :=
  W.retG K (by cases t <;> first | rfl | (cases w <;> first | rfl | cases ht | cases hw)) (Or.inr (Or.inr (Or.inr (Or.inr ⟨rfl, ht, hw⟩)))) hd q hc hs
theorem W.zreturn {z : Int32} (K : Ctx X l Z R y code maxL (some .boolean)) (hd : decode code pc = .ok (.ireturn, 1)) (hz : z = 0 ∨ z = 1) (q : Q (some (.int z)) os) (hc : ce ≤ rc := by decide) (hs : sl ≤ rs := by decide) : WP X Z rc rs Q pc L (.int z :: S) os ce sl :=
  W.retG K (by rcases hz with rfl | rfl <;> rfl) (Or.inl ⟨rfl, Or.inr (Or.inl rfl), z, rfl⟩) hd q hc hs
theorem W.creturn {z : Int32} (K : Ctx X l Z R y code maxL (some .char)) (hd : decode code pc = .ok (.ireturn, 1)) (hz : narrow .char (.int z) = .int z) (q : Q (some (.int z)) os) (hc : ce ≤ rc := by decide) (hs : sl ≤ rs := by decide) : WP X Z rc rs Q pc L (.int z :: S) os ce sl :=
  W.retG K hz (Or.inl ⟨rfl, Or.inr (Or.inr (Or.inr (Or.inl rfl))), z, rfl⟩) hd q hc hs
theorem W.breturn {z : Int32} (K : Ctx X l Z R y code maxL (some .byte)) (hd : decode code pc = .ok (.ireturn, 1)) (hz : narrow .byte (.int z) = .int z) (q : Q (some (.int z)) os) (hc : ce ≤ rc := by decide) (hs : sl ≤ rs := by decide) : WP X Z rc rs Q pc L (.int z :: S) os ce sl :=
  W.retG K hz (Or.inl ⟨rfl, Or.inr (Or.inr (Or.inl rfl)), z, rfl⟩) hd q hc hs
theorem W.return (K : Ctx X l Z R y code maxL none) (hd : decode code pc = .ok (.return_, 1)) (q : Q none os) (hc : ce ≤ rc := by decide) (hs : sl ≤ rs := by decide) : WP X Z rc rs Q pc L [] os ce sl := by
  obtain ⟨p, l', e, R', s, m, args, below, meth, c⟩ := X
  obtain ⟨h1, h2, hx, hZ, hby, hml, hown, hnm, hret, hlk⟩ := K
  have h2' : R' = R := h2
  subst h2'
  intro T locs hT0 hH hF
  have hT : Stand p l' e R' s m args below meth c T locs ce sl := hT0
  obtain ⟨fs, hr, hrun, hended, hW, hsame⟩ := Stand.leave hT (v := none) (fun _ => rfl) hlk
  exact ⟨_, _, Stand.returnOut hT hx hret (hb hby hd) hr, hrun, hended, _, _, rfl, ⟨os, q, hH, hF⟩, ⟨_, rfl⟩, hW, hsame.mono hc hs⟩

theorem W.callS {idx mx : Nat} {z : MethodName} {bytes : ByteArray} {rt : Option FieldType} {rm : Room} {argsL : List Value} {S0 : List Value} {ps : List FieldType} {rr : Option FieldType} {Q' : Option Value → OS → Prop} (K : Ctx X l Z R y code maxL ret) (pc' : Nat) (hd : decode code pc = .ok (.invokestatic idx, 3)) (w1 : (Jvm.Cond.methodLink y.cls idx z).before a0 Z = true) (w2 : (Jvm.Cond.static z).before a0 Z = true) (w3 : (Jvm.Cond.initialized z.cls).before a0 Z = true) (w4 : (Jvm.Cond.code z bytes mx rt).before a0 Z = true)
    (hsig : parseMethodDescriptor z.desc = some ⟨ps, rr⟩) (hM : OMeets l Z z bytes mx rt rm argsL os Q') (k : ∀ v os', Q' v os' → WP X Z rc rs Q pc' L (v.toList ++ S) os' (ce + rm.cells) (sl + rm.slots)) (hst : S0 = argsL.reverse ++ S := by rfl) (hlen : argsL.length = ps.length := by rfl) (hsz : L.length = maxL := by rfl) (hf : rm.frames + 1 ≤ R.frames := by decide) (hl : (S.map fun v => v.category).sum + (mx + 11) + rm.locals ≤ R.locals := by exact Nat.le_of_ble_eq_true rfl)
    (hc : ce + rm.cells ≤ R.cells := by decide) (hs : sl + rm.slots ≤ R.slots := by decide) (hy : z.cls ≠ "java/lang/invoke/MethodHandle" ∧ z.cls ≠ "java/lang/invoke/VarHandle" := by decide) (hp : pc + 3 = pc' := by rfl) : WP X Z rc rs Q pc L S0 os ce sl := by
  obtain ⟨p, l', e, R', s, m, args, below, meth, c⟩ := X
  obtain ⟨rfl, h2, hx, hZ, hby, hml, hown, hnm, hret, hlk⟩ := K
  have h2' : R' = R := h2
  subst h2'
  subst hp
  intro T locs hT0 hH hF
  have hT : Stand p l' e R' s m args below meth c T locs ce sl := hT0
  obtain ⟨v, vm1, ⟨T', L', k', n'⟩, -, X', ⟨Lc, ⟨os1, hQ1, hH1, hF1⟩, e1, e2, e3⟩, st'⟩ := Jvm.LawKit.callS hT hx (y := z) hown (mvT hZ w1) (mvT hZ w2) (mvT hZ w3) (mvT hZ w4) hy (backOf (W := (S.map fun v => v.category).sum) (Q := fun v h L => ∃ os', Q' v os' ∧ Hp Z h os' ∧ Fr Z.heap.size L) (hM _ hH []) hZ w4 w3 (hf) (hl)) (g := mkF m pc L.toArray S0) rfl (by rw [hml]; simpa using hsz) (argsL := argsL) (rest := S) (lenOf hsig hlen) hst (by show 2 * 0 + _ ≤ _; omega) (hb hby hd) (fun _ _ => ⟨rfl, rfl, hc, hs⟩)
  dsimp only [Pt.U, Pt.locs, Pt.cells, Pt.slots] at X' e1 e2 e3 st' hH1
  subst e1 e2 e3
  obtain ⟨s2, o, st, r⟩ := k v os1 hQ1 T' _ X' hH1 (Fr.app hF hF1)
  exact ⟨s2, o, st' _ st, r⟩
theorem W.callSv {idx mx : Nat} {z : MethodName} {bytes : ByteArray} {rt : Option FieldType} {rm : Room} {argsL : List Value} {S0 : List Value} {ps : List FieldType} {rr : Option FieldType} {q : Value → OS → Prop} (K : Ctx X l Z R y code maxL ret) (pc' : Nat) (hd : decode code pc = .ok (.invokestatic idx, 3)) (w1 : (Jvm.Cond.methodLink y.cls idx z).before a0 Z = true) (w2 : (Jvm.Cond.static z).before a0 Z = true) (w3 : (Jvm.Cond.initialized z.cls).before a0 Z = true) (w4 : (Jvm.Cond.code z bytes mx rt).before a0 Z = true)
    (hsig : parseMethodDescriptor z.desc = some ⟨ps, rr⟩) (hM : OMeets l Z z bytes mx rt rm argsL os (RetV q)) (k : ∀ v os', q v os' → WP X Z rc rs Q pc' L (v :: S) os' (ce + rm.cells) (sl + rm.slots)) (hst : S0 = argsL.reverse ++ S := by rfl) (hlen : argsL.length = ps.length := by rfl) (hsz : L.length = maxL := by rfl) (hf : rm.frames + 1 ≤ R.frames := by decide) (hl : (S.map fun v => v.category).sum + (mx + 11) + rm.locals ≤ R.locals := by exact Nat.le_of_ble_eq_true rfl)
    (hc : ce + rm.cells ≤ R.cells := by decide) (hs : sl + rm.slots ≤ R.slots := by decide) (hy : z.cls ≠ "java/lang/invoke/MethodHandle" ∧ z.cls ≠ "java/lang/invoke/VarHandle" := by decide) (hp : pc + 3 = pc' := by rfl) : WP X Z rc rs Q pc L S0 os ce sl :=
  W.callS K pc' hd w1 w2 w3 w4 hsig hM (fun v os' hq => by obtain ⟨x, rfl, hq⟩ := hq; exact k x os' hq) hst hlen hsz hf hl hc hs hy hp
theorem W.callSn {idx mx : Nat} {z : MethodName} {bytes : ByteArray} {rt : Option FieldType} {rm : Room} {argsL : List Value} {S0 : List Value} {ps : List FieldType} {rr : Option FieldType} {q : OS → Prop} (K : Ctx X l Z R y code maxL ret) (pc' : Nat) (hd : decode code pc = .ok (.invokestatic idx, 3)) (w1 : (Jvm.Cond.methodLink y.cls idx z).before a0 Z = true) (w2 : (Jvm.Cond.static z).before a0 Z = true) (w3 : (Jvm.Cond.initialized z.cls).before a0 Z = true) (w4 : (Jvm.Cond.code z bytes mx rt).before a0 Z = true)
    (hsig : parseMethodDescriptor z.desc = some ⟨ps, rr⟩) (hM : OMeets l Z z bytes mx rt rm argsL os (RetN q)) (k : ∀ os', q os' → WP X Z rc rs Q pc' L S os' (ce + rm.cells) (sl + rm.slots)) (hst : S0 = argsL.reverse ++ S := by rfl) (hlen : argsL.length = ps.length := by rfl) (hsz : L.length = maxL := by rfl) (hf : rm.frames + 1 ≤ R.frames := by decide) (hl : (S.map fun v => v.category).sum + (mx + 11) + rm.locals ≤ R.locals := by exact Nat.le_of_ble_eq_true rfl)
    (hc : ce + rm.cells ≤ R.cells := by decide) (hs : sl + rm.slots ≤ R.slots := by decide) (hy : z.cls ≠ "java/lang/invoke/MethodHandle" ∧ z.cls ≠ "java/lang/invoke/VarHandle" := by decide) (hp : pc + 3 = pc' := by rfl) : WP X Z rc rs Q pc L S0 os ce sl :=
  W.callS K pc' hd w1 w2 w3 w4 hsig hM (fun v os' hq => by obtain ⟨rfl, hq⟩ := hq; exact k os' hq) hst hlen hsz hf hl hc hs hy hp
theorem W.callI {idx mx : Nat} {z : MethodName} {bytes : ByteArray}  {rm : Room} {argsL : List Value} {S0 : List Value} {ps : List FieldType} {rr : Option FieldType} {b : Addr} {Q' : Option Value → OS → Prop} (K : Ctx X l Z R y code maxL ret) (pc' : Nat) (hd : decode code pc = .ok (.invokespecial idx, 3)) (w1 : (Jvm.Cond.methodLink y.cls idx z).before a0 Z = true) (w2 : (Jvm.Cond.instanceMethod z).before a0 Z = true) (w3 : (Jvm.Cond.initialized z.cls).before a0 Z = true) (w4 : (Jvm.Cond.code z bytes mx none).before a0 Z = true)
    (hsig : parseMethodDescriptor z.desc = some ⟨ps, rr⟩) (hM : OMeets l Z z bytes mx none rm (.ref b :: argsL) os Q') (k : ∀ v os', Q' v os' → WP X Z rc rs Q pc' L (v.toList ++ S) os' (ce + rm.cells) (sl + rm.slots)) (hz1 : z.name = "<init>" := by rfl) (hst : S0 = argsL.reverse ++ .ref b :: S := by rfl) (hlen : argsL.length = ps.length := by rfl) (hsz : L.length = maxL := by rfl) (hf : rm.frames + 1 ≤ R.frames := by decide) (hl : (S.map fun v => v.category).sum + (mx + 11) + rm.locals ≤ R.locals := by exact Nat.le_of_ble_eq_true rfl)
    (hc : ce + rm.cells ≤ R.cells := by decide) (hs : sl + rm.slots ≤ R.slots := by decide) (hy : z.cls ≠ "java/lang/invoke/MethodHandle" ∧ z.cls ≠ "java/lang/invoke/VarHandle" := by decide) (hp : pc + 3 = pc' := by rfl) : WP X Z rc rs Q pc L S0 os ce sl := by
  obtain ⟨p, l', e, R', s, m, args, below, meth, c⟩ := X
  obtain ⟨rfl, h2, hx, hZ, hby, hml, hown, hnm, hret, hlk⟩ := K
  have h2' : R' = R := h2
  subst h2'
  subst hp
  intro T locs hT0 hH hF
  have hT : Stand p l' e R' s m args below meth c T locs ce sl := hT0
  obtain ⟨v, vm1, ⟨T', L', k', n'⟩, -, X', ⟨Lc, ⟨os1, hQ1, hH1, hF1⟩, e1, e2, e3⟩, st'⟩ := Stand.specialBack hT hx (y := z) hz1 hown (mvT hZ w1) (mvT hZ w2) (mvT hZ w4) hy (backOf (W := (S.map fun v => v.category).sum) (Q := fun v h L => ∃ os', Q' v os' ∧ Hp Z h os' ∧ Fr Z.heap.size L) (hM _ hH []) hZ w4 w3 (hf) (hl)) (g := mkF m pc L.toArray S0) rfl (by rw [hml]; simpa using hsz) (Steps.refl _) (a := b) (argsL := argsL) (rest := S) (lenOf hsig hlen) hst (by show 2 * 0 + _ ≤ _; omega) (hb hby hd) (fun _ _ => ⟨rfl, rfl, hc, hs⟩)
  dsimp only [Pt.U, Pt.locs, Pt.cells, Pt.slots] at X' e1 e2 e3 st' hH1
  subst e1 e2 e3
  obtain ⟨s2, o, st, r⟩ := k v os1 hQ1 T' _ X' hH1 (Fr.app hF hF1)
  exact ⟨s2, o, st'.trans st, r⟩
theorem W.callIn {idx mx : Nat} {z : MethodName} {bytes : ByteArray}  {rm : Room} {argsL : List Value} {S0 : List Value} {ps : List FieldType} {rr : Option FieldType} {b : Addr} {q : OS → Prop} (K : Ctx X l Z R y code maxL ret) (pc' : Nat) (hd : decode code pc = .ok (.invokespecial idx, 3)) (w1 : (Jvm.Cond.methodLink y.cls idx z).before a0 Z = true) (w2 : (Jvm.Cond.instanceMethod z).before a0 Z = true) (w3 : (Jvm.Cond.initialized z.cls).before a0 Z = true) (w4 : (Jvm.Cond.code z bytes mx none).before a0 Z = true)
    (hsig : parseMethodDescriptor z.desc = some ⟨ps, rr⟩) (hM : OMeets l Z z bytes mx none rm (.ref b :: argsL) os (RetN q)) (k : ∀ os', q os' → WP X Z rc rs Q pc' L S os' (ce + rm.cells) (sl + rm.slots)) (hz1 : z.name = "<init>" := by rfl) (hst : S0 = argsL.reverse ++ .ref b :: S := by rfl) (hlen : argsL.length = ps.length := by rfl) (hsz : L.length = maxL := by rfl) (hf : rm.frames + 1 ≤ R.frames := by decide) (hl : (S.map fun v => v.category).sum + (mx + 11) + rm.locals ≤ R.locals := by exact Nat.le_of_ble_eq_true rfl)
    (hc : ce + rm.cells ≤ R.cells := by decide) (hs : sl + rm.slots ≤ R.slots := by decide) (hy : z.cls ≠ "java/lang/invoke/MethodHandle" ∧ z.cls ≠ "java/lang/invoke/VarHandle" := by decide) (hp : pc + 3 = pc' := by rfl) : WP X Z rc rs Q pc L S0 os ce sl :=
  W.callI K pc' hd w1 w2 w3 w4 hsig hM (fun v os' hq => by obtain ⟨rfl, hq⟩ := hq; exact k os' hq) hz1 hst hlen hsz hf hl hc hs hy hp
theorem W.callV {idx mx : Nat} {z : MethodName} {bytes : ByteArray} {rt : Option FieldType} {C : String} {rm : Room} {argsL : List Value} {S0 : List Value} {ps : List FieldType} {rr : Option FieldType} {b : Addr} {Q' : Option Value → OS → Prop} (K : Ctx X l Z R y code maxL ret) (pc' : Nat) (hd : decode code pc = .ok (.invokevirtual idx, 3)) (w1 : (Jvm.Cond.methodLink y.cls idx z).before a0 Z = true) (w2 : (Jvm.Cond.declares z).before a0 Z = true) (w5 : (Jvm.Cond.selects C z z).before a0 Z = true) (w6 : (Jvm.Cond.instanceMethod z).before a0 Z = true) (w3 : (Jvm.Cond.initialized z.cls).before a0 Z = true) (w4 : (Jvm.Cond.code z bytes mx rt).before a0 Z = true)
    (hsig : parseMethodDescriptor z.desc = some ⟨ps, rr⟩) (hrc : ∀ h, Hp Z h os → Exa Z h b C) (hM : OMeets l Z z bytes mx rt rm (.ref b :: argsL) os Q') (k : ∀ v os', Q' v os' → WP X Z rc rs Q pc' L (v.toList ++ S) os' (ce + rm.cells) (sl + rm.slots)) (hst : S0 = argsL.reverse ++ .ref b :: S := by rfl) (hlen : argsL.length = ps.length := by rfl) (hsz : L.length = maxL := by rfl) (hf : rm.frames + 1 ≤ R.frames := by decide) (hl : (S.map fun v => v.category).sum + (mx + 11) + rm.locals ≤ R.locals := by exact Nat.le_of_ble_eq_true rfl)
    (hc : ce + rm.cells ≤ R.cells := by decide) (hs : sl + rm.slots ≤ R.slots := by decide) (hy : z.cls ≠ "java/lang/invoke/MethodHandle" ∧ z.cls ≠ "java/lang/invoke/VarHandle" := by decide) (hp : pc + 3 = pc' := by rfl) : WP X Z rc rs Q pc L S0 os ce sl := by
  obtain ⟨p, l', e, R', s, m, args, below, meth, c⟩ := X
  obtain ⟨rfl, h2, hx, hZ, hby, hml, hown, hnm, hret, hlk⟩ := K
  have h2' : R' = R := h2
  subst h2'
  subst hp
  intro T locs hT0 hH hF
  have hT : Stand p l' e R' s m args below meth c T locs ce sl := hT0
  obtain ⟨cq7, kq7, q7a, q7b, q7c⟩ := isOf (T := T) hZ rfl (hrc T.heap hH)
  obtain ⟨v, vm1, ⟨T', L', k', n'⟩, -, X', ⟨Lc, ⟨os1, hQ1, hH1, hF1⟩, e1, e2, e3⟩, st'⟩ := Stand.virtualBack hT hx (y := z) (z := z) hown (mvT hZ w1) (mvT hZ w2) (notFace_of_selects (args := #[]) (mvT hZ w5)) (mvT hZ w5) (mvT hZ w6) hy (backOf (W := (S.map fun v => v.category).sum) (Q := fun v h L => ∃ os', Q' v os' ∧ Hp Z h os' ∧ Fr Z.heap.size L) (hM _ hH []) hZ w4 w3 (hf) (hl)) q7a q7c (g := mkF m pc L.toArray S0) rfl (by rw [hml]; simpa using hsz) (Steps.refl _) (argsL := argsL) (rest := S) (lenOf hsig hlen) hst (by show 2 * 0 + _ ≤ _; omega) (hb hby hd) (fun _ _ => ⟨rfl, rfl, hc, hs⟩)
  dsimp only [Pt.U, Pt.locs, Pt.cells, Pt.slots] at X' e1 e2 e3 st' hH1
  subst e1 e2 e3
  obtain ⟨s2, o, st, r⟩ := k v os1 hQ1 T' _ X' hH1 (Fr.app hF hF1)
  exact ⟨s2, o, st'.trans st, r⟩
theorem W.callVv {idx mx : Nat} {z : MethodName} {bytes : ByteArray} {rt : Option FieldType} {C : String} {rm : Room} {argsL : List Value} {S0 : List Value} {ps : List FieldType} {rr : Option FieldType} {b : Addr} {q : Value → OS → Prop} (K : Ctx X l Z R y code maxL ret) (pc' : Nat) (hd : decode code pc = .ok (.invokevirtual idx, 3)) (w1 : (Jvm.Cond.methodLink y.cls idx z).before a0 Z = true) (w2 : (Jvm.Cond.declares z).before a0 Z = true) (w5 : (Jvm.Cond.selects C z z).before a0 Z = true) (w6 : (Jvm.Cond.instanceMethod z).before a0 Z = true) (w3 : (Jvm.Cond.initialized z.cls).before a0 Z = true) (w4 : (Jvm.Cond.code z bytes mx rt).before a0 Z = true)
    (hsig : parseMethodDescriptor z.desc = some ⟨ps, rr⟩) (hrc : ∀ h, Hp Z h os → Exa Z h b C) (hM : OMeets l Z z bytes mx rt rm (.ref b :: argsL) os (RetV q)) (k : ∀ v os', q v os' → WP X Z rc rs Q pc' L (v :: S) os' (ce + rm.cells) (sl + rm.slots)) (hst : S0 = argsL.reverse ++ .ref b :: S := by rfl) (hlen : argsL.length = ps.length := by rfl) (hsz : L.length = maxL := by rfl) (hf : rm.frames + 1 ≤ R.frames := by decide) (hl : (S.map fun v => v.category).sum + (mx + 11) + rm.locals ≤ R.locals := by exact Nat.le_of_ble_eq_true rfl)
    (hc : ce + rm.cells ≤ R.cells := by decide) (hs : sl + rm.slots ≤ R.slots := by decide) (hy : z.cls ≠ "java/lang/invoke/MethodHandle" ∧ z.cls ≠ "java/lang/invoke/VarHandle" := by decide) (hp : pc + 3 = pc' := by rfl) : WP X Z rc rs Q pc L S0 os ce sl :=
  W.callV K pc' hd w1 w2 w5 w6 w3 w4 hsig hrc hM (fun v os' hq => by obtain ⟨x, rfl, hq⟩ := hq; exact k x os' hq) hst hlen hsz hf hl hc hs hy hp
theorem W.callVn {idx mx : Nat} {z : MethodName} {bytes : ByteArray} {rt : Option FieldType} {C : String} {rm : Room} {argsL : List Value} {S0 : List Value} {ps : List FieldType} {rr : Option FieldType} {b : Addr} {q : OS → Prop} (K : Ctx X l Z R y code maxL ret) (pc' : Nat) (hd : decode code pc = .ok (.invokevirtual idx, 3)) (w1 : (Jvm.Cond.methodLink y.cls idx z).before a0 Z = true) (w2 : (Jvm.Cond.declares z).before a0 Z = true) (w5 : (Jvm.Cond.selects C z z).before a0 Z = true) (w6 : (Jvm.Cond.instanceMethod z).before a0 Z = true) (w3 : (Jvm.Cond.initialized z.cls).before a0 Z = true) (w4 : (Jvm.Cond.code z bytes mx rt).before a0 Z = true)
    (hsig : parseMethodDescriptor z.desc = some ⟨ps, rr⟩) (hrc : ∀ h, Hp Z h os → Exa Z h b C) (hM : OMeets l Z z bytes mx rt rm (.ref b :: argsL) os (RetN q)) (k : ∀ os', q os' → WP X Z rc rs Q pc' L S os' (ce + rm.cells) (sl + rm.slots)) (hst : S0 = argsL.reverse ++ .ref b :: S := by rfl) (hlen : argsL.length = ps.length := by rfl) (hsz : L.length = maxL := by rfl) (hf : rm.frames + 1 ≤ R.frames := by decide) (hl : (S.map fun v => v.category).sum + (mx + 11) + rm.locals ≤ R.locals := by exact Nat.le_of_ble_eq_true rfl)
    (hc : ce + rm.cells ≤ R.cells := by decide) (hs : sl + rm.slots ≤ R.slots := by decide) (hy : z.cls ≠ "java/lang/invoke/MethodHandle" ∧ z.cls ≠ "java/lang/invoke/VarHandle" := by decide) (hp : pc + 3 = pc' := by rfl) : WP X Z rc rs Q pc L S0 os ce sl :=
  W.callV K pc' hd w1 w2 w5 w6 w3 w4 hsig hrc hM (fun v os' hq => by obtain ⟨rfl, hq⟩ := hq; exact k os' hq) hst hlen hsz hf hl hc hs hy hp
theorem W.callSv0 {idx mx : Nat} {z : MethodName} {bytes : ByteArray} {rt : Option FieldType} {rm : Room} {ps : List FieldType} {rr : Option FieldType} {q : Value → OS → Prop} (K : Ctx X l Z R y code maxL ret) (pc' : Nat) (hd : decode code pc = .ok (.invokestatic idx, 3)) (w1 : (Jvm.Cond.methodLink y.cls idx z).before a0 Z = true) (w2 : (Jvm.Cond.static z).before a0 Z = true) (w3 : (Jvm.Cond.initialized z.cls).before a0 Z = true) (w4 : (Jvm.Cond.code z bytes mx rt).before a0 Z = true)
    (hsig : parseMethodDescriptor z.desc = some ⟨ps, rr⟩) (hM : OMeets l Z z bytes mx rt rm [] os (RetV q)) (k : ∀ v os', q v os' → WP X Z rc rs Q pc' L (v :: S) os' (ce + rm.cells) (sl + rm.slots)) (hlen : ([] : List Value).length = ps.length := by rfl) (hsz : L.length = maxL := by rfl) (hf : rm.frames + 1 ≤ R.frames := by decide) (hl : (S.map fun v => v.category).sum + (mx + 11) + rm.locals ≤ R.locals := by exact Nat.le_of_ble_eq_true rfl)
    (hc : ce + rm.cells ≤ R.cells := by decide) (hs : sl + rm.slots ≤ R.slots := by decide) (hy : z.cls ≠ "java/lang/invoke/MethodHandle" ∧ z.cls ≠ "java/lang/invoke/VarHandle" := by decide) (hp : pc + 3 = pc' := by rfl) : WP X Z rc rs Q pc L (S) os ce sl :=
  W.callSv (argsL := []) (S := S) K pc' hd w1 w2 w3 w4 hsig hM k rfl hlen hsz hf hl hc hs hy hp
theorem W.callSv1 {idx mx : Nat} {z : MethodName} {bytes : ByteArray} {rt : Option FieldType} {rm : Room} {ps : List FieldType} {rr : Option FieldType} {x1 : Value} {q : Value → OS → Prop} (K : Ctx X l Z R y code maxL ret) (pc' : Nat) (hd : decode code pc = .ok (.invokestatic idx, 3)) (w1 : (Jvm.Cond.methodLink y.cls idx z).before a0 Z = true) (w2 : (Jvm.Cond.static z).before a0 Z = true) (w3 : (Jvm.Cond.initialized z.cls).before a0 Z = true) (w4 : (Jvm.Cond.code z bytes mx rt).before a0 Z = true)
    (hsig : parseMethodDescriptor z.desc = some ⟨ps, rr⟩) (hM : OMeets l Z z bytes mx rt rm [x1] os (RetV q)) (k : ∀ v os', q v os' → WP X Z rc rs Q pc' L (v :: S) os' (ce + rm.cells) (sl + rm.slots)) (hlen : ([x1] : List Value).length = ps.length := by rfl) (hsz : L.length = maxL := by rfl) (hf : rm.frames + 1 ≤ R.frames := by decide) (hl : (S.map fun v => v.category).sum + (mx + 11) + rm.locals ≤ R.locals := by exact Nat.le_of_ble_eq_true rfl)
    (hc : ce + rm.cells ≤ R.cells := by decide) (hs : sl + rm.slots ≤ R.slots := by decide) (hy : z.cls ≠ "java/lang/invoke/MethodHandle" ∧ z.cls ≠ "java/lang/invoke/VarHandle" := by decide) (hp : pc + 3 = pc' := by rfl) : WP X Z rc rs Q pc L (x1 :: S) os ce sl :=
  W.callSv (argsL := [x1]) (S := S) K pc' hd w1 w2 w3 w4 hsig hM k rfl hlen hsz hf hl hc hs hy hp
theorem W.callSv2 {idx mx : Nat} {z : MethodName} {bytes : ByteArray} {rt : Option FieldType} {rm : Room} {ps : List FieldType} {rr : Option FieldType} {x1 x2 : Value} {q : Value → OS → Prop} (K : Ctx X l Z R y code maxL ret) (pc' : Nat) (hd : decode code pc = .ok (.invokestatic idx, 3)) (w1 : (Jvm.Cond.methodLink y.cls idx z).before a0 Z = true) (w2 : (Jvm.Cond.static z).before a0 Z = true) (w3 : (Jvm.Cond.initialized z.cls).before a0 Z = true) (w4 : (Jvm.Cond.code z bytes mx rt).before a0 Z = true)
    (hsig : parseMethodDescriptor z.desc = some ⟨ps, rr⟩) (hM : OMeets l Z z bytes mx rt rm [x1, x2] os (RetV q)) (k : ∀ v os', q v os' → WP X Z rc rs Q pc' L (v :: S) os' (ce + rm.cells) (sl + rm.slots)) (hlen : ([x1, x2] : List Value).length = ps.length := by rfl) (hsz : L.length = maxL := by rfl) (hf : rm.frames + 1 ≤ R.frames := by decide) (hl : (S.map fun v => v.category).sum + (mx + 11) + rm.locals ≤ R.locals := by exact Nat.le_of_ble_eq_true rfl)
    (hc : ce + rm.cells ≤ R.cells := by decide) (hs : sl + rm.slots ≤ R.slots := by decide) (hy : z.cls ≠ "java/lang/invoke/MethodHandle" ∧ z.cls ≠ "java/lang/invoke/VarHandle" := by decide) (hp : pc + 3 = pc' := by rfl) : WP X Z rc rs Q pc L (x2 :: x1 :: S) os ce sl :=
  W.callSv (argsL := [x1, x2]) (S := S) K pc' hd w1 w2 w3 w4 hsig hM k rfl hlen hsz hf hl hc hs hy hp
theorem W.callSv3 {idx mx : Nat} {z : MethodName} {bytes : ByteArray} {rt : Option FieldType} {rm : Room} {ps : List FieldType} {rr : Option FieldType} {x1 x2 x3 : Value} {q : Value → OS → Prop} (K : Ctx X l Z R y code maxL ret) (pc' : Nat) (hd : decode code pc = .ok (.invokestatic idx, 3)) (w1 : (Jvm.Cond.methodLink y.cls idx z).before a0 Z = true) (w2 : (Jvm.Cond.static z).before a0 Z = true) (w3 : (Jvm.Cond.initialized z.cls).before a0 Z = true) (w4 : (Jvm.Cond.code z bytes mx rt).before a0 Z = true)
    (hsig : parseMethodDescriptor z.desc = some ⟨ps, rr⟩) (hM : OMeets l Z z bytes mx rt rm [x1, x2, x3] os (RetV q)) (k : ∀ v os', q v os' → WP X Z rc rs Q pc' L (v :: S) os' (ce + rm.cells) (sl + rm.slots)) (hlen : ([x1, x2, x3] : List Value).length = ps.length := by rfl) (hsz : L.length = maxL := by rfl) (hf : rm.frames + 1 ≤ R.frames := by decide) (hl : (S.map fun v => v.category).sum + (mx + 11) + rm.locals ≤ R.locals := by exact Nat.le_of_ble_eq_true rfl)
    (hc : ce + rm.cells ≤ R.cells := by decide) (hs : sl + rm.slots ≤ R.slots := by decide) (hy : z.cls ≠ "java/lang/invoke/MethodHandle" ∧ z.cls ≠ "java/lang/invoke/VarHandle" := by decide) (hp : pc + 3 = pc' := by rfl) : WP X Z rc rs Q pc L (x3 :: x2 :: x1 :: S) os ce sl :=
  W.callSv (argsL := [x1, x2, x3]) (S := S) K pc' hd w1 w2 w3 w4 hsig hM k rfl hlen hsz hf hl hc hs hy hp
theorem W.callSv4 {idx mx : Nat} {z : MethodName} {bytes : ByteArray} {rt : Option FieldType} {rm : Room} {ps : List FieldType} {rr : Option FieldType} {x1 x2 x3 x4 : Value} {q : Value → OS → Prop} (K : Ctx X l Z R y code maxL ret) (pc' : Nat) (hd : decode code pc = .ok (.invokestatic idx, 3)) (w1 : (Jvm.Cond.methodLink y.cls idx z).before a0 Z = true) (w2 : (Jvm.Cond.static z).before a0 Z = true) (w3 : (Jvm.Cond.initialized z.cls).before a0 Z = true) (w4 : (Jvm.Cond.code z bytes mx rt).before a0 Z = true)
    (hsig : parseMethodDescriptor z.desc = some ⟨ps, rr⟩) (hM : OMeets l Z z bytes mx rt rm [x1, x2, x3, x4] os (RetV q)) (k : ∀ v os', q v os' → WP X Z rc rs Q pc' L (v :: S) os' (ce + rm.cells) (sl + rm.slots)) (hlen : ([x1, x2, x3, x4] : List Value).length = ps.length := by rfl) (hsz : L.length = maxL := by rfl) (hf : rm.frames + 1 ≤ R.frames := by decide) (hl : (S.map fun v => v.category).sum + (mx + 11) + rm.locals ≤ R.locals := by exact Nat.le_of_ble_eq_true rfl)
    (hc : ce + rm.cells ≤ R.cells := by decide) (hs : sl + rm.slots ≤ R.slots := by decide) (hy : z.cls ≠ "java/lang/invoke/MethodHandle" ∧ z.cls ≠ "java/lang/invoke/VarHandle" := by decide) (hp : pc + 3 = pc' := by rfl) : WP X Z rc rs Q pc L (x4 :: x3 :: x2 :: x1 :: S) os ce sl :=
  W.callSv (argsL := [x1, x2, x3, x4]) (S := S) K pc' hd w1 w2 w3 w4 hsig hM k rfl hlen hsz hf hl hc hs hy hp
theorem W.callSv5 {idx mx : Nat} {z : MethodName} {bytes : ByteArray} {rt : Option FieldType} {rm : Room} {ps : List FieldType} {rr : Option FieldType} {x1 x2 x3 x4 x5 : Value} {q : Value → OS → Prop} (K : Ctx X l Z R y code maxL ret) (pc' : Nat) (hd : decode code pc = .ok (.invokestatic idx, 3)) (w1 : (Jvm.Cond.methodLink y.cls idx z).before a0 Z = true) (w2 : (Jvm.Cond.static z).before a0 Z = true) (w3 : (Jvm.Cond.initialized z.cls).before a0 Z = true) (w4 : (Jvm.Cond.code z bytes mx rt).before a0 Z = true)
    (hsig : parseMethodDescriptor z.desc = some ⟨ps, rr⟩) (hM : OMeets l Z z bytes mx rt rm [x1, x2, x3, x4, x5] os (RetV q)) (k : ∀ v os', q v os' → WP X Z rc rs Q pc' L (v :: S) os' (ce + rm.cells) (sl + rm.slots)) (hlen : ([x1, x2, x3, x4, x5] : List Value).length = ps.length := by rfl) (hsz : L.length = maxL := by rfl) (hf : rm.frames + 1 ≤ R.frames := by decide) (hl : (S.map fun v => v.category).sum + (mx + 11) + rm.locals ≤ R.locals := by exact Nat.le_of_ble_eq_true rfl)
    (hc : ce + rm.cells ≤ R.cells := by decide) (hs : sl + rm.slots ≤ R.slots := by decide) (hy : z.cls ≠ "java/lang/invoke/MethodHandle" ∧ z.cls ≠ "java/lang/invoke/VarHandle" := by decide) (hp : pc + 3 = pc' := by rfl) : WP X Z rc rs Q pc L (x5 :: x4 :: x3 :: x2 :: x1 :: S) os ce sl :=
  W.callSv (argsL := [x1, x2, x3, x4, x5]) (S := S) K pc' hd w1 w2 w3 w4 hsig hM k rfl hlen hsz hf hl hc hs hy hp
theorem W.callSv6 {idx mx : Nat} {z : MethodName} {bytes : ByteArray} {rt : Option FieldType} {rm : Room} {ps : List FieldType} {rr : Option FieldType} {x1 x2 x3 x4 x5 x6 : Value} {q : Value → OS → Prop} (K : Ctx X l Z R y code maxL ret) (pc' : Nat) (hd : decode code pc = .ok (.invokestatic idx, 3)) (w1 : (Jvm.Cond.methodLink y.cls idx z).before a0 Z = true) (w2 : (Jvm.Cond.static z).before a0 Z = true) (w3 : (Jvm.Cond.initialized z.cls).before a0 Z = true) (w4 : (Jvm.Cond.code z bytes mx rt).before a0 Z = true)
    (hsig : parseMethodDescriptor z.desc = some ⟨ps, rr⟩) (hM : OMeets l Z z bytes mx rt rm [x1, x2, x3, x4, x5, x6] os (RetV q)) (k : ∀ v os', q v os' → WP X Z rc rs Q pc' L (v :: S) os' (ce + rm.cells) (sl + rm.slots)) (hlen : ([x1, x2, x3, x4, x5, x6] : List Value).length = ps.length := by rfl) (hsz : L.length = maxL := by rfl) (hf : rm.frames + 1 ≤ R.frames := by decide) (hl : (S.map fun v => v.category).sum + (mx + 11) + rm.locals ≤ R.locals := by exact Nat.le_of_ble_eq_true rfl)
    (hc : ce + rm.cells ≤ R.cells := by decide) (hs : sl + rm.slots ≤ R.slots := by decide) (hy : z.cls ≠ "java/lang/invoke/MethodHandle" ∧ z.cls ≠ "java/lang/invoke/VarHandle" := by decide) (hp : pc + 3 = pc' := by rfl) : WP X Z rc rs Q pc L (x6 :: x5 :: x4 :: x3 :: x2 :: x1 :: S) os ce sl :=
  W.callSv (argsL := [x1, x2, x3, x4, x5, x6]) (S := S) K pc' hd w1 w2 w3 w4 hsig hM k rfl hlen hsz hf hl hc hs hy hp
theorem W.callSv7 {idx mx : Nat} {z : MethodName} {bytes : ByteArray} {rt : Option FieldType} {rm : Room} {ps : List FieldType} {rr : Option FieldType} {x1 x2 x3 x4 x5 x6 x7 : Value} {q : Value → OS → Prop} (K : Ctx X l Z R y code maxL ret) (pc' : Nat) (hd : decode code pc = .ok (.invokestatic idx, 3)) (w1 : (Jvm.Cond.methodLink y.cls idx z).before a0 Z = true) (w2 : (Jvm.Cond.static z).before a0 Z = true) (w3 : (Jvm.Cond.initialized z.cls).before a0 Z = true) (w4 : (Jvm.Cond.code z bytes mx rt).before a0 Z = true)
    (hsig : parseMethodDescriptor z.desc = some ⟨ps, rr⟩) (hM : OMeets l Z z bytes mx rt rm [x1, x2, x3, x4, x5, x6, x7] os (RetV q)) (k : ∀ v os', q v os' → WP X Z rc rs Q pc' L (v :: S) os' (ce + rm.cells) (sl + rm.slots)) (hlen : ([x1, x2, x3, x4, x5, x6, x7] : List Value).length = ps.length := by rfl) (hsz : L.length = maxL := by rfl) (hf : rm.frames + 1 ≤ R.frames := by decide) (hl : (S.map fun v => v.category).sum + (mx + 11) + rm.locals ≤ R.locals := by exact Nat.le_of_ble_eq_true rfl)
    (hc : ce + rm.cells ≤ R.cells := by decide) (hs : sl + rm.slots ≤ R.slots := by decide) (hy : z.cls ≠ "java/lang/invoke/MethodHandle" ∧ z.cls ≠ "java/lang/invoke/VarHandle" := by decide) (hp : pc + 3 = pc' := by rfl) : WP X Z rc rs Q pc L (x7 :: x6 :: x5 :: x4 :: x3 :: x2 :: x1 :: S) os ce sl :=
  W.callSv (argsL := [x1, x2, x3, x4, x5, x6, x7]) (S := S) K pc' hd w1 w2 w3 w4 hsig hM k rfl hlen hsz hf hl hc hs hy hp
theorem W.callSn0 {idx mx : Nat} {z : MethodName} {bytes : ByteArray} {rt : Option FieldType} {rm : Room} {ps : List FieldType} {rr : Option FieldType} {q : OS → Prop} (K : Ctx X l Z R y code maxL ret) (pc' : Nat) (hd : decode code pc = .ok (.invokestatic idx, 3)) (w1 : (Jvm.Cond.methodLink y.cls idx z).before a0 Z = true) (w2 : (Jvm.Cond.static z).before a0 Z = true) (w3 : (Jvm.Cond.initialized z.cls).before a0 Z = true) (w4 : (Jvm.Cond.code z bytes mx rt).before a0 Z = true)
    (hsig : parseMethodDescriptor z.desc = some ⟨ps, rr⟩) (hM : OMeets l Z z bytes mx rt rm [] os (RetN q)) (k : ∀ os', q os' → WP X Z rc rs Q pc' L S os' (ce + rm.cells) (sl + rm.slots)) (hlen : ([] : List Value).length = ps.length := by rfl) (hsz : L.length = maxL := by rfl) (hf : rm.frames + 1 ≤ R.frames := by decide) (hl : (S.map fun v => v.category).sum + (mx + 11) + rm.locals ≤ R.locals := by exact Nat.le_of_ble_eq_true rfl)
    (hc : ce + rm.cells ≤ R.cells := by decide) (hs : sl + rm.slots ≤ R.slots := by decide) (hy : z.cls ≠ "java/lang/invoke/MethodHandle" ∧ z.cls ≠ "java/lang/invoke/VarHandle" := by decide) (hp : pc + 3 = pc' := by rfl) : WP X Z rc rs Q pc L (S) os ce sl :=
  W.callSn (argsL := []) (S := S) K pc' hd w1 w2 w3 w4 hsig hM k rfl hlen hsz hf hl hc hs hy hp
theorem W.callSn1 {idx mx : Nat} {z : MethodName} {bytes : ByteArray} {rt : Option FieldType} {rm : Room} {ps : List FieldType} {rr : Option FieldType} {x1 : Value} {q : OS → Prop} (K : Ctx X l Z R y code maxL ret) (pc' : Nat) (hd : decode code pc = .ok (.invokestatic idx, 3)) (w1 : (Jvm.Cond.methodLink y.cls idx z).before a0 Z = true) (w2 : (Jvm.Cond.static z).before a0 Z = true) (w3 : (Jvm.Cond.initialized z.cls).before a0 Z = true) (w4 : (Jvm.Cond.code z bytes mx rt).before a0 Z = true)
    (hsig : parseMethodDescriptor z.desc = some ⟨ps, rr⟩) (hM : OMeets l Z z bytes mx rt rm [x1] os (RetN q)) (k : ∀ os', q os' → WP X Z rc rs Q pc' L S os' (ce + rm.cells) (sl + rm.slots)) (hlen : ([x1] : List Value).length = ps.length := by rfl) (hsz : L.length = maxL := by rfl) (hf : rm.frames + 1 ≤ R.frames := by decide) (hl : (S.map fun v => v.category).sum + (mx + 11) + rm.locals ≤ R.locals := by exact Nat.le_of_ble_eq_true rfl)
    (hc : ce + rm.cells ≤ R.cells := by decide) (hs : sl + rm.slots ≤ R.slots := by decide) (hy : z.cls ≠ "java/lang/invoke/MethodHandle" ∧ z.cls ≠ "java/lang/invoke/VarHandle" := by decide) (hp : pc + 3 = pc' := by rfl) : WP X Z rc rs Q pc L (x1 :: S) os ce sl :=
  W.callSn (argsL := [x1]) (S := S) K pc' hd w1 w2 w3 w4 hsig hM k rfl hlen hsz hf hl hc hs hy hp
theorem W.callSn2 {idx mx : Nat} {z : MethodName} {bytes : ByteArray} {rt : Option FieldType} {rm : Room} {ps : List FieldType} {rr : Option FieldType} {x1 x2 : Value} {q : OS → Prop} (K : Ctx X l Z R y code maxL ret) (pc' : Nat) (hd : decode code pc = .ok (.invokestatic idx, 3)) (w1 : (Jvm.Cond.methodLink y.cls idx z).before a0 Z = true) (w2 : (Jvm.Cond.static z).before a0 Z = true) (w3 : (Jvm.Cond.initialized z.cls).before a0 Z = true) (w4 : (Jvm.Cond.code z bytes mx rt).before a0 Z = true)
    (hsig : parseMethodDescriptor z.desc = some ⟨ps, rr⟩) (hM : OMeets l Z z bytes mx rt rm [x1, x2] os (RetN q)) (k : ∀ os', q os' → WP X Z rc rs Q pc' L S os' (ce + rm.cells) (sl + rm.slots)) (hlen : ([x1, x2] : List Value).length = ps.length := by rfl) (hsz : L.length = maxL := by rfl) (hf : rm.frames + 1 ≤ R.frames := by decide) (hl : (S.map fun v => v.category).sum + (mx + 11) + rm.locals ≤ R.locals := by exact Nat.le_of_ble_eq_true rfl)
    (hc : ce + rm.cells ≤ R.cells := by decide) (hs : sl + rm.slots ≤ R.slots := by decide) (hy : z.cls ≠ "java/lang/invoke/MethodHandle" ∧ z.cls ≠ "java/lang/invoke/VarHandle" := by decide) (hp : pc + 3 = pc' := by rfl) : WP X Z rc rs Q pc L (x2 :: x1 :: S) os ce sl :=
  W.callSn (argsL := [x1, x2]) (S := S) K pc' hd w1 w2 w3 w4 hsig hM k rfl hlen hsz hf hl hc hs hy hp
theorem W.callSn3 {idx mx : Nat} {z : MethodName} {bytes : ByteArray} {rt : Option FieldType} {rm : Room} {ps : List FieldType} {rr : Option FieldType} {x1 x2 x3 : Value} {q : OS → Prop} (K : Ctx X l Z R y code maxL ret) (pc' : Nat) (hd : decode code pc = .ok (.invokestatic idx, 3)) (w1 : (Jvm.Cond.methodLink y.cls idx z).before a0 Z = true) (w2 : (Jvm.Cond.static z).before a0 Z = true) (w3 : (Jvm.Cond.initialized z.cls).before a0 Z = true) (w4 : (Jvm.Cond.code z bytes mx rt).before a0 Z = true)
    (hsig : parseMethodDescriptor z.desc = some ⟨ps, rr⟩) (hM : OMeets l Z z bytes mx rt rm [x1, x2, x3] os (RetN q)) (k : ∀ os', q os' → WP X Z rc rs Q pc' L S os' (ce + rm.cells) (sl + rm.slots)) (hlen : ([x1, x2, x3] : List Value).length = ps.length := by rfl) (hsz : L.length = maxL := by rfl) (hf : rm.frames + 1 ≤ R.frames := by decide) (hl : (S.map fun v => v.category).sum + (mx + 11) + rm.locals ≤ R.locals := by exact Nat.le_of_ble_eq_true rfl)
    (hc : ce + rm.cells ≤ R.cells := by decide) (hs : sl + rm.slots ≤ R.slots := by decide) (hy : z.cls ≠ "java/lang/invoke/MethodHandle" ∧ z.cls ≠ "java/lang/invoke/VarHandle" := by decide) (hp : pc + 3 = pc' := by rfl) : WP X Z rc rs Q pc L (x3 :: x2 :: x1 :: S) os ce sl :=
  W.callSn (argsL := [x1, x2, x3]) (S := S) K pc' hd w1 w2 w3 w4 hsig hM k rfl hlen hsz hf hl hc hs hy hp
theorem W.callSn4 {idx mx : Nat} {z : MethodName} {bytes : ByteArray} {rt : Option FieldType} {rm : Room} {ps : List FieldType} {rr : Option FieldType} {x1 x2 x3 x4 : Value} {q : OS → Prop} (K : Ctx X l Z R y code maxL ret) (pc' : Nat) (hd : decode code pc = .ok (.invokestatic idx, 3)) (w1 : (Jvm.Cond.methodLink y.cls idx z).before a0 Z = true) (w2 : (Jvm.Cond.static z).before a0 Z = true) (w3 : (Jvm.Cond.initialized z.cls).before a0 Z = true) (w4 : (Jvm.Cond.code z bytes mx rt).before a0 Z = true)
    (hsig : parseMethodDescriptor z.desc = some ⟨ps, rr⟩) (hM : OMeets l Z z bytes mx rt rm [x1, x2, x3, x4] os (RetN q)) (k : ∀ os', q os' → WP X Z rc rs Q pc' L S os' (ce + rm.cells) (sl + rm.slots)) (hlen : ([x1, x2, x3, x4] : List Value).length = ps.length := by rfl) (hsz : L.length = maxL := by rfl) (hf : rm.frames + 1 ≤ R.frames := by decide) (hl : (S.map fun v => v.category).sum + (mx + 11) + rm.locals ≤ R.locals := by exact Nat.le_of_ble_eq_true rfl)
    (hc : ce + rm.cells ≤ R.cells := by decide) (hs : sl + rm.slots ≤ R.slots := by decide) (hy : z.cls ≠ "java/lang/invoke/MethodHandle" ∧ z.cls ≠ "java/lang/invoke/VarHandle" := by decide) (hp : pc + 3 = pc' := by rfl) : WP X Z rc rs Q pc L (x4 :: x3 :: x2 :: x1 :: S) os ce sl :=
  W.callSn (argsL := [x1, x2, x3, x4]) (S := S) K pc' hd w1 w2 w3 w4 hsig hM k rfl hlen hsz hf hl hc hs hy hp
theorem W.callSn5 {idx mx : Nat} {z : MethodName} {bytes : ByteArray} {rt : Option FieldType} {rm : Room} {ps : List FieldType} {rr : Option FieldType} {x1 x2 x3 x4 x5 : Value} {q : OS → Prop} (K : Ctx X l Z R y code maxL ret) (pc' : Nat) (hd : decode code pc = .ok (.invokestatic idx, 3)) (w1 : (Jvm.Cond.methodLink y.cls idx z).before a0 Z = true) (w2 : (Jvm.Cond.static z).before a0 Z = true) (w3 : (Jvm.Cond.initialized z.cls).before a0 Z = true) (w4 : (Jvm.Cond.code z bytes mx rt).before a0 Z = true)
    (hsig : parseMethodDescriptor z.desc = some ⟨ps, rr⟩) (hM : OMeets l Z z bytes mx rt rm [x1, x2, x3, x4, x5] os (RetN q)) (k : ∀ os', q os' → WP X Z rc rs Q pc' L S os' (ce + rm.cells) (sl + rm.slots)) (hlen : ([x1, x2, x3, x4, x5] : List Value).length = ps.length := by rfl) (hsz : L.length = maxL := by rfl) (hf : rm.frames + 1 ≤ R.frames := by decide) (hl : (S.map fun v => v.category).sum + (mx + 11) + rm.locals ≤ R.locals := by exact Nat.le_of_ble_eq_true rfl)
    (hc : ce + rm.cells ≤ R.cells := by decide) (hs : sl + rm.slots ≤ R.slots := by decide) (hy : z.cls ≠ "java/lang/invoke/MethodHandle" ∧ z.cls ≠ "java/lang/invoke/VarHandle" := by decide) (hp : pc + 3 = pc' := by rfl) : WP X Z rc rs Q pc L (x5 :: x4 :: x3 :: x2 :: x1 :: S) os ce sl :=
  W.callSn (argsL := [x1, x2, x3, x4, x5]) (S := S) K pc' hd w1 w2 w3 w4 hsig hM k rfl hlen hsz hf hl hc hs hy hp
theorem W.callSn6 {idx mx : Nat} {z : MethodName} {bytes : ByteArray} {rt : Option FieldType} {rm : Room} {ps : List FieldType} {rr : Option FieldType} {x1 x2 x3 x4 x5 x6 : Value} {q : OS → Prop} (K : Ctx X l Z R y code maxL ret) (pc' : Nat) (hd : decode code pc = .ok (.invokestatic idx, 3)) (w1 : (Jvm.Cond.methodLink y.cls idx z).before a0 Z = true) (w2 : (Jvm.Cond.static z).before a0 Z = true) (w3 : (Jvm.Cond.initialized z.cls).before a0 Z = true) (w4 : (Jvm.Cond.code z bytes mx rt).before a0 Z = true)
    (hsig : parseMethodDescriptor z.desc = some ⟨ps, rr⟩) (hM : OMeets l Z z bytes mx rt rm [x1, x2, x3, x4, x5, x6] os (RetN q)) (k : ∀ os', q os' → WP X Z rc rs Q pc' L S os' (ce + rm.cells) (sl + rm.slots)) (hlen : ([x1, x2, x3, x4, x5, x6] : List Value).length = ps.length := by rfl) (hsz : L.length = maxL := by rfl) (hf : rm.frames + 1 ≤ R.frames := by decide) (hl : (S.map fun v => v.category).sum + (mx + 11) + rm.locals ≤ R.locals := by exact Nat.le_of_ble_eq_true rfl)
    (hc : ce + rm.cells ≤ R.cells := by decide) (hs : sl + rm.slots ≤ R.slots := by decide) (hy : z.cls ≠ "java/lang/invoke/MethodHandle" ∧ z.cls ≠ "java/lang/invoke/VarHandle" := by decide) (hp : pc + 3 = pc' := by rfl) : WP X Z rc rs Q pc L (x6 :: x5 :: x4 :: x3 :: x2 :: x1 :: S) os ce sl :=
  W.callSn (argsL := [x1, x2, x3, x4, x5, x6]) (S := S) K pc' hd w1 w2 w3 w4 hsig hM k rfl hlen hsz hf hl hc hs hy hp
theorem W.callSn7 {idx mx : Nat} {z : MethodName} {bytes : ByteArray} {rt : Option FieldType} {rm : Room} {ps : List FieldType} {rr : Option FieldType} {x1 x2 x3 x4 x5 x6 x7 : Value} {q : OS → Prop} (K : Ctx X l Z R y code maxL ret) (pc' : Nat) (hd : decode code pc = .ok (.invokestatic idx, 3)) (w1 : (Jvm.Cond.methodLink y.cls idx z).before a0 Z = true) (w2 : (Jvm.Cond.static z).before a0 Z = true) (w3 : (Jvm.Cond.initialized z.cls).before a0 Z = true) (w4 : (Jvm.Cond.code z bytes mx rt).before a0 Z = true)
    (hsig : parseMethodDescriptor z.desc = some ⟨ps, rr⟩) (hM : OMeets l Z z bytes mx rt rm [x1, x2, x3, x4, x5, x6, x7] os (RetN q)) (k : ∀ os', q os' → WP X Z rc rs Q pc' L S os' (ce + rm.cells) (sl + rm.slots)) (hlen : ([x1, x2, x3, x4, x5, x6, x7] : List Value).length = ps.length := by rfl) (hsz : L.length = maxL := by rfl) (hf : rm.frames + 1 ≤ R.frames := by decide) (hl : (S.map fun v => v.category).sum + (mx + 11) + rm.locals ≤ R.locals := by exact Nat.le_of_ble_eq_true rfl)
    (hc : ce + rm.cells ≤ R.cells := by decide) (hs : sl + rm.slots ≤ R.slots := by decide) (hy : z.cls ≠ "java/lang/invoke/MethodHandle" ∧ z.cls ≠ "java/lang/invoke/VarHandle" := by decide) (hp : pc + 3 = pc' := by rfl) : WP X Z rc rs Q pc L (x7 :: x6 :: x5 :: x4 :: x3 :: x2 :: x1 :: S) os ce sl :=
  W.callSn (argsL := [x1, x2, x3, x4, x5, x6, x7]) (S := S) K pc' hd w1 w2 w3 w4 hsig hM k rfl hlen hsz hf hl hc hs hy hp
theorem W.callIn0 {idx mx : Nat} {z : MethodName} {bytes : ByteArray} {rm : Room} {ps : List FieldType} {rr : Option FieldType} {b : Addr} {q : OS → Prop} (K : Ctx X l Z R y code maxL ret) (pc' : Nat) (hd : decode code pc = .ok (.invokespecial idx, 3)) (w1 : (Jvm.Cond.methodLink y.cls idx z).before a0 Z = true) (w2 : (Jvm.Cond.instanceMethod z).before a0 Z = true) (w3 : (Jvm.Cond.initialized z.cls).before a0 Z = true) (w4 : (Jvm.Cond.code z bytes mx none).before a0 Z = true)
    (hsig : parseMethodDescriptor z.desc = some ⟨ps, rr⟩) (hM : OMeets l Z z bytes mx none rm [.ref b] os (RetN q)) (k : ∀ os', q os' → WP X Z rc rs Q pc' L S os' (ce + rm.cells) (sl + rm.slots)) (hz1 : z.name = "<init>" := by rfl) (hlen : ([] : List Value).length = ps.length := by rfl) (hsz : L.length = maxL := by rfl) (hf : rm.frames + 1 ≤ R.frames := by decide) (hl : (S.map fun v => v.category).sum + (mx + 11) + rm.locals ≤ R.locals := by exact Nat.le_of_ble_eq_true rfl)
    (hc : ce + rm.cells ≤ R.cells := by decide) (hs : sl + rm.slots ≤ R.slots := by decide) (hy : z.cls ≠ "java/lang/invoke/MethodHandle" ∧ z.cls ≠ "java/lang/invoke/VarHandle" := by decide) (hp : pc + 3 = pc' := by rfl) : WP X Z rc rs Q pc L (.ref b :: S) os ce sl :=
  W.callIn (argsL := []) (S := S) K pc' hd w1 w2 w3 w4 hsig hM k hz1 rfl hlen hsz hf hl hc hs hy hp
theorem W.callIn1 {idx mx : Nat} {z : MethodName} {bytes : ByteArray} {rm : Room} {ps : List FieldType} {rr : Option FieldType} {b : Addr} {x1 : Value} {q : OS → Prop} (K : Ctx X l Z R y code maxL ret) (pc' : Nat) (hd : decode code pc = .ok (.invokespecial idx, 3)) (w1 : (Jvm.Cond.methodLink y.cls idx z).before a0 Z = true) (w2 : (Jvm.Cond.instanceMethod z).before a0 Z = true) (w3 : (Jvm.Cond.initialized z.cls).before a0 Z = true) (w4 : (Jvm.Cond.code z bytes mx none).before a0 Z = true)
    (hsig : parseMethodDescriptor z.desc = some ⟨ps, rr⟩) (hM : OMeets l Z z bytes mx none rm [.ref b, x1] os (RetN q)) (k : ∀ os', q os' → WP X Z rc rs Q pc' L S os' (ce + rm.cells) (sl + rm.slots)) (hz1 : z.name = "<init>" := by rfl) (hlen : ([x1] : List Value).length = ps.length := by rfl) (hsz : L.length = maxL := by rfl) (hf : rm.frames + 1 ≤ R.frames := by decide) (hl : (S.map fun v => v.category).sum + (mx + 11) + rm.locals ≤ R.locals := by exact Nat.le_of_ble_eq_true rfl)
    (hc : ce + rm.cells ≤ R.cells := by decide) (hs : sl + rm.slots ≤ R.slots := by decide) (hy : z.cls ≠ "java/lang/invoke/MethodHandle" ∧ z.cls ≠ "java/lang/invoke/VarHandle" := by decide) (hp : pc + 3 = pc' := by rfl) : WP X Z rc rs Q pc L (x1 :: .ref b :: S) os ce sl :=
  W.callIn (argsL := [x1]) (S := S) K pc' hd w1 w2 w3 w4 hsig hM k hz1 rfl hlen hsz hf hl hc hs hy hp
theorem W.callIn2 {idx mx : Nat} {z : MethodName} {bytes : ByteArray} {rm : Room} {ps : List FieldType} {rr : Option FieldType} {b : Addr} {x1 x2 : Value} {q : OS → Prop} (K : Ctx X l Z R y code maxL ret) (pc' : Nat) (hd : decode code pc = .ok (.invokespecial idx, 3)) (w1 : (Jvm.Cond.methodLink y.cls idx z).before a0 Z = true) (w2 : (Jvm.Cond.instanceMethod z).before a0 Z = true) (w3 : (Jvm.Cond.initialized z.cls).before a0 Z = true) (w4 : (Jvm.Cond.code z bytes mx none).before a0 Z = true)
    (hsig : parseMethodDescriptor z.desc = some ⟨ps, rr⟩) (hM : OMeets l Z z bytes mx none rm [.ref b, x1, x2] os (RetN q)) (k : ∀ os', q os' → WP X Z rc rs Q pc' L S os' (ce + rm.cells) (sl + rm.slots)) (hz1 : z.name = "<init>" := by rfl) (hlen : ([x1, x2] : List Value).length = ps.length := by rfl) (hsz : L.length = maxL := by rfl) (hf : rm.frames + 1 ≤ R.frames := by decide) (hl : (S.map fun v => v.category).sum + (mx + 11) + rm.locals ≤ R.locals := by exact Nat.le_of_ble_eq_true rfl)
    (hc : ce + rm.cells ≤ R.cells := by decide) (hs : sl + rm.slots ≤ R.slots := by decide) (hy : z.cls ≠ "java/lang/invoke/MethodHandle" ∧ z.cls ≠ "java/lang/invoke/VarHandle" := by decide) (hp : pc + 3 = pc' := by rfl) : WP X Z rc rs Q pc L (x2 :: x1 :: .ref b :: S) os ce sl :=
  W.callIn (argsL := [x1, x2]) (S := S) K pc' hd w1 w2 w3 w4 hsig hM k hz1 rfl hlen hsz hf hl hc hs hy hp
theorem W.callIn3 {idx mx : Nat} {z : MethodName} {bytes : ByteArray} {rm : Room} {ps : List FieldType} {rr : Option FieldType} {b : Addr} {x1 x2 x3 : Value} {q : OS → Prop} (K : Ctx X l Z R y code maxL ret) (pc' : Nat) (hd : decode code pc = .ok (.invokespecial idx, 3)) (w1 : (Jvm.Cond.methodLink y.cls idx z).before a0 Z = true) (w2 : (Jvm.Cond.instanceMethod z).before a0 Z = true) (w3 : (Jvm.Cond.initialized z.cls).before a0 Z = true) (w4 : (Jvm.Cond.code z bytes mx none).before a0 Z = true)
    (hsig : parseMethodDescriptor z.desc = some ⟨ps, rr⟩) (hM : OMeets l Z z bytes mx none rm [.ref b, x1, x2, x3] os (RetN q)) (k : ∀ os', q os' → WP X Z rc rs Q pc' L S os' (ce + rm.cells) (sl + rm.slots)) (hz1 : z.name = "<init>" := by rfl) (hlen : ([x1, x2, x3] : List Value).length = ps.length := by rfl) (hsz : L.length = maxL := by rfl) (hf : rm.frames + 1 ≤ R.frames := by decide) (hl : (S.map fun v => v.category).sum + (mx + 11) + rm.locals ≤ R.locals := by exact Nat.le_of_ble_eq_true rfl)
    (hc : ce + rm.cells ≤ R.cells := by decide) (hs : sl + rm.slots ≤ R.slots := by decide) (hy : z.cls ≠ "java/lang/invoke/MethodHandle" ∧ z.cls ≠ "java/lang/invoke/VarHandle" := by decide) (hp : pc + 3 = pc' := by rfl) : WP X Z rc rs Q pc L (x3 :: x2 :: x1 :: .ref b :: S) os ce sl :=
  W.callIn (argsL := [x1, x2, x3]) (S := S) K pc' hd w1 w2 w3 w4 hsig hM k hz1 rfl hlen hsz hf hl hc hs hy hp
theorem W.callIn4 {idx mx : Nat} {z : MethodName} {bytes : ByteArray} {rm : Room} {ps : List FieldType} {rr : Option FieldType} {b : Addr} {x1 x2 x3 x4 : Value} {q : OS → Prop} (K : Ctx X l Z R y code maxL ret) (pc' : Nat) (hd : decode code pc = .ok (.invokespecial idx, 3)) (w1 : (Jvm.Cond.methodLink y.cls idx z).before a0 Z = true) (w2 : (Jvm.Cond.instanceMethod z).before a0 Z = true) (w3 : (Jvm.Cond.initialized z.cls).before a0 Z = true) (w4 : (Jvm.Cond.code z bytes mx none).before a0 Z = true)
    (hsig : parseMethodDescriptor z.desc = some ⟨ps, rr⟩) (hM : OMeets l Z z bytes mx none rm [.ref b, x1, x2, x3, x4] os (RetN q)) (k : ∀ os', q os' → WP X Z rc rs Q pc' L S os' (ce + rm.cells) (sl + rm.slots)) (hz1 : z.name = "<init>" := by rfl) (hlen : ([x1, x2, x3, x4] : List Value).length = ps.length := by rfl) (hsz : L.length = maxL := by rfl) (hf : rm.frames + 1 ≤ R.frames := by decide) (hl : (S.map fun v => v.category).sum + (mx + 11) + rm.locals ≤ R.locals := by exact Nat.le_of_ble_eq_true rfl)
    (hc : ce + rm.cells ≤ R.cells := by decide) (hs : sl + rm.slots ≤ R.slots := by decide) (hy : z.cls ≠ "java/lang/invoke/MethodHandle" ∧ z.cls ≠ "java/lang/invoke/VarHandle" := by decide) (hp : pc + 3 = pc' := by rfl) : WP X Z rc rs Q pc L (x4 :: x3 :: x2 :: x1 :: .ref b :: S) os ce sl :=
  W.callIn (argsL := [x1, x2, x3, x4]) (S := S) K pc' hd w1 w2 w3 w4 hsig hM k hz1 rfl hlen hsz hf hl hc hs hy hp
theorem W.callIn5 {idx mx : Nat} {z : MethodName} {bytes : ByteArray} {rm : Room} {ps : List FieldType} {rr : Option FieldType} {b : Addr} {x1 x2 x3 x4 x5 : Value} {q : OS → Prop} (K : Ctx X l Z R y code maxL ret) (pc' : Nat) (hd : decode code pc = .ok (.invokespecial idx, 3)) (w1 : (Jvm.Cond.methodLink y.cls idx z).before a0 Z = true) (w2 : (Jvm.Cond.instanceMethod z).before a0 Z = true) (w3 : (Jvm.Cond.initialized z.cls).before a0 Z = true) (w4 : (Jvm.Cond.code z bytes mx none).before a0 Z = true)
    (hsig : parseMethodDescriptor z.desc = some ⟨ps, rr⟩) (hM : OMeets l Z z bytes mx none rm [.ref b, x1, x2, x3, x4, x5] os (RetN q)) (k : ∀ os', q os' → WP X Z rc rs Q pc' L S os' (ce + rm.cells) (sl + rm.slots)) (hz1 : z.name = "<init>" := by rfl) (hlen : ([x1, x2, x3, x4, x5] : List Value).length = ps.length := by rfl) (hsz : L.length = maxL := by rfl) (hf : rm.frames + 1 ≤ R.frames := by decide) (hl : (S.map fun v => v.category).sum + (mx + 11) + rm.locals ≤ R.locals := by exact Nat.le_of_ble_eq_true rfl)
    (hc : ce + rm.cells ≤ R.cells := by decide) (hs : sl + rm.slots ≤ R.slots := by decide) (hy : z.cls ≠ "java/lang/invoke/MethodHandle" ∧ z.cls ≠ "java/lang/invoke/VarHandle" := by decide) (hp : pc + 3 = pc' := by rfl) : WP X Z rc rs Q pc L (x5 :: x4 :: x3 :: x2 :: x1 :: .ref b :: S) os ce sl :=
  W.callIn (argsL := [x1, x2, x3, x4, x5]) (S := S) K pc' hd w1 w2 w3 w4 hsig hM k hz1 rfl hlen hsz hf hl hc hs hy hp
theorem W.callIn6 {idx mx : Nat} {z : MethodName} {bytes : ByteArray} {rm : Room} {ps : List FieldType} {rr : Option FieldType} {b : Addr} {x1 x2 x3 x4 x5 x6 : Value} {q : OS → Prop} (K : Ctx X l Z R y code maxL ret) (pc' : Nat) (hd : decode code pc = .ok (.invokespecial idx, 3)) (w1 : (Jvm.Cond.methodLink y.cls idx z).before a0 Z = true) (w2 : (Jvm.Cond.instanceMethod z).before a0 Z = true) (w3 : (Jvm.Cond.initialized z.cls).before a0 Z = true) (w4 : (Jvm.Cond.code z bytes mx none).before a0 Z = true)
    (hsig : parseMethodDescriptor z.desc = some ⟨ps, rr⟩) (hM : OMeets l Z z bytes mx none rm [.ref b, x1, x2, x3, x4, x5, x6] os (RetN q)) (k : ∀ os', q os' → WP X Z rc rs Q pc' L S os' (ce + rm.cells) (sl + rm.slots)) (hz1 : z.name = "<init>" := by rfl) (hlen : ([x1, x2, x3, x4, x5, x6] : List Value).length = ps.length := by rfl) (hsz : L.length = maxL := by rfl) (hf : rm.frames + 1 ≤ R.frames := by decide) (hl : (S.map fun v => v.category).sum + (mx + 11) + rm.locals ≤ R.locals := by exact Nat.le_of_ble_eq_true rfl)
    (hc : ce + rm.cells ≤ R.cells := by decide) (hs : sl + rm.slots ≤ R.slots := by decide) (hy : z.cls ≠ "java/lang/invoke/MethodHandle" ∧ z.cls ≠ "java/lang/invoke/VarHandle" := by decide) (hp : pc + 3 = pc' := by rfl) : WP X Z rc rs Q pc L (x6 :: x5 :: x4 :: x3 :: x2 :: x1 :: .ref b :: S) os ce sl :=
  W.callIn (argsL := [x1, x2, x3, x4, x5, x6]) (S := S) K pc' hd w1 w2 w3 w4 hsig hM k hz1 rfl hlen hsz hf hl hc hs hy hp
theorem W.callIn7 {idx mx : Nat} {z : MethodName} {bytes : ByteArray} {rm : Room} {ps : List FieldType} {rr : Option FieldType} {b : Addr} {x1 x2 x3 x4 x5 x6 x7 : Value} {q : OS → Prop} (K : Ctx X l Z R y code maxL ret) (pc' : Nat) (hd : decode code pc = .ok (.invokespecial idx, 3)) (w1 : (Jvm.Cond.methodLink y.cls idx z).before a0 Z = true) (w2 : (Jvm.Cond.instanceMethod z).before a0 Z = true) (w3 : (Jvm.Cond.initialized z.cls).before a0 Z = true) (w4 : (Jvm.Cond.code z bytes mx none).before a0 Z = true)
    (hsig : parseMethodDescriptor z.desc = some ⟨ps, rr⟩) (hM : OMeets l Z z bytes mx none rm [.ref b, x1, x2, x3, x4, x5, x6, x7] os (RetN q)) (k : ∀ os', q os' → WP X Z rc rs Q pc' L S os' (ce + rm.cells) (sl + rm.slots)) (hz1 : z.name = "<init>" := by rfl) (hlen : ([x1, x2, x3, x4, x5, x6, x7] : List Value).length = ps.length := by rfl) (hsz : L.length = maxL := by rfl) (hf : rm.frames + 1 ≤ R.frames := by decide) (hl : (S.map fun v => v.category).sum + (mx + 11) + rm.locals ≤ R.locals := by exact Nat.le_of_ble_eq_true rfl)
    (hc : ce + rm.cells ≤ R.cells := by decide) (hs : sl + rm.slots ≤ R.slots := by decide) (hy : z.cls ≠ "java/lang/invoke/MethodHandle" ∧ z.cls ≠ "java/lang/invoke/VarHandle" := by decide) (hp : pc + 3 = pc' := by rfl) : WP X Z rc rs Q pc L (x7 :: x6 :: x5 :: x4 :: x3 :: x2 :: x1 :: .ref b :: S) os ce sl :=
  W.callIn (argsL := [x1, x2, x3, x4, x5, x6, x7]) (S := S) K pc' hd w1 w2 w3 w4 hsig hM k hz1 rfl hlen hsz hf hl hc hs hy hp
theorem W.callVv0 {idx mx : Nat} {z : MethodName} {bytes : ByteArray} {rt : Option FieldType} {C : String} {rm : Room} {ps : List FieldType} {rr : Option FieldType} {b : Addr} {q : Value → OS → Prop} (K : Ctx X l Z R y code maxL ret) (pc' : Nat) (hd : decode code pc = .ok (.invokevirtual idx, 3)) (w1 : (Jvm.Cond.methodLink y.cls idx z).before a0 Z = true) (w2 : (Jvm.Cond.declares z).before a0 Z = true) (w5 : (Jvm.Cond.selects C z z).before a0 Z = true) (w6 : (Jvm.Cond.instanceMethod z).before a0 Z = true) (w3 : (Jvm.Cond.initialized z.cls).before a0 Z = true) (w4 : (Jvm.Cond.code z bytes mx rt).before a0 Z = true)
    (hsig : parseMethodDescriptor z.desc = some ⟨ps, rr⟩) (hrc : ∀ h, Hp Z h os → Exa Z h b C) (hM : OMeets l Z z bytes mx rt rm [.ref b] os (RetV q)) (k : ∀ v os', q v os' → WP X Z rc rs Q pc' L (v :: S) os' (ce + rm.cells) (sl + rm.slots)) (hlen : ([] : List Value).length = ps.length := by rfl) (hsz : L.length = maxL := by rfl) (hf : rm.frames + 1 ≤ R.frames := by decide) (hl : (S.map fun v => v.category).sum + (mx + 11) + rm.locals ≤ R.locals := by exact Nat.le_of_ble_eq_true rfl)
    (hc : ce + rm.cells ≤ R.cells := by decide) (hs : sl + rm.slots ≤ R.slots := by decide) (hy : z.cls ≠ "java/lang/invoke/MethodHandle" ∧ z.cls ≠ "java/lang/invoke/VarHandle" := by decide) (hp : pc + 3 = pc' := by rfl) : WP X Z rc rs Q pc L (.ref b :: S) os ce sl :=
  W.callVv (argsL := []) (S := S) K pc' hd w1 w2 w5 w6 w3 w4 hsig hrc hM k rfl hlen hsz hf hl hc hs hy hp
theorem W.callVv1 {idx mx : Nat} {z : MethodName} {bytes : ByteArray} {rt : Option FieldType} {C : String} {rm : Room} {ps : List FieldType} {rr : Option FieldType} {b : Addr} {x1 : Value} {q : Value → OS → Prop} (K : Ctx X l Z R y code maxL ret) (pc' : Nat) (hd : decode code pc = .ok (.invokevirtual idx, 3)) (w1 : (Jvm.Cond.methodLink y.cls idx z).before a0 Z = true) (w2 : (Jvm.Cond.declares z).before a0 Z = true) (w5 : (Jvm.Cond.selects C z z).before a0 Z = true) (w6 : (Jvm.Cond.instanceMethod z).before a0 Z = true) (w3 : (Jvm.Cond.initialized z.cls).before a0 Z = true) (w4 : (Jvm.Cond.code z bytes mx rt).before a0 Z = true)
    (hsig : parseMethodDescriptor z.desc = some ⟨ps, rr⟩) (hrc : ∀ h, Hp Z h os → Exa Z h b C) (hM : OMeets l Z z bytes mx rt rm [.ref b, x1] os (RetV q)) (k : ∀ v os', q v os' → WP X Z rc rs Q pc' L (v :: S) os' (ce + rm.cells) (sl + rm.slots)) (hlen : ([x1] : List Value).length = ps.length := by rfl) (hsz : L.length = maxL := by rfl) (hf : rm.frames + 1 ≤ R.frames := by decide) (hl : (S.map fun v => v.category).sum + (mx + 11) + rm.locals ≤ R.locals := by exact Nat.le_of_ble_eq_true rfl)
    (hc : ce + rm.cells ≤ R.cells := by decide) (hs : sl + rm.slots ≤ R.slots := by decide) (hy : z.cls ≠ "java/lang/invoke/MethodHandle" ∧ z.cls ≠ "java/lang/invoke/VarHandle" := by decide) (hp : pc + 3 = pc' := by rfl) : WP X Z rc rs Q pc L (x1 :: .ref b :: S) os ce sl :=
  W.callVv (argsL := [x1]) (S := S) K pc' hd w1 w2 w5 w6 w3 w4 hsig hrc hM k rfl hlen hsz hf hl hc hs hy hp
theorem W.callVv2 {idx mx : Nat} {z : MethodName} {bytes : ByteArray} {rt : Option FieldType} {C : String} {rm : Room} {ps : List FieldType} {rr : Option FieldType} {b : Addr} {x1 x2 : Value} {q : Value → OS → Prop} (K : Ctx X l Z R y code maxL ret) (pc' : Nat) (hd : decode code pc = .ok (.invokevirtual idx, 3)) (w1 : (Jvm.Cond.methodLink y.cls idx z).before a0 Z = true) (w2 : (Jvm.Cond.declares z).before a0 Z = true) (w5 : (Jvm.Cond.selects C z z).before a0 Z = true) (w6 : (Jvm.Cond.instanceMethod z).before a0 Z = true) (w3 : (Jvm.Cond.initialized z.cls).before a0 Z = true) (w4 : (Jvm.Cond.code z bytes mx rt).before a0 Z = true)
    (hsig : parseMethodDescriptor z.desc = some ⟨ps, rr⟩) (hrc : ∀ h, Hp Z h os → Exa Z h b C) (hM : OMeets l Z z bytes mx rt rm [.ref b, x1, x2] os (RetV q)) (k : ∀ v os', q v os' → WP X Z rc rs Q pc' L (v :: S) os' (ce + rm.cells) (sl + rm.slots)) (hlen : ([x1, x2] : List Value).length = ps.length := by rfl) (hsz : L.length = maxL := by rfl) (hf : rm.frames + 1 ≤ R.frames := by decide) (hl : (S.map fun v => v.category).sum + (mx + 11) + rm.locals ≤ R.locals := by exact Nat.le_of_ble_eq_true rfl)
    (hc : ce + rm.cells ≤ R.cells := by decide) (hs : sl + rm.slots ≤ R.slots := by decide) (hy : z.cls ≠ "java/lang/invoke/MethodHandle" ∧ z.cls ≠ "java/lang/invoke/VarHandle" := by decide) (hp : pc + 3 = pc' := by rfl) : WP X Z rc rs Q pc L (x2 :: x1 :: .ref b :: S) os ce sl :=
  W.callVv (argsL := [x1, x2]) (S := S) K pc' hd w1 w2 w5 w6 w3 w4 hsig hrc hM k rfl hlen hsz hf hl hc hs hy hp
theorem W.callVv3 {idx mx : Nat} {z : MethodName} {bytes : ByteArray} {rt : Option FieldType} {C : String} {rm : Room} {ps : List FieldType} {rr : Option FieldType} {b : Addr} {x1 x2 x3 : Value} {q : Value → OS → Prop} (K : Ctx X l Z R y code maxL ret) (pc' : Nat) (hd : decode code pc = .ok (.invokevirtual idx, 3)) (w1 : (Jvm.Cond.methodLink y.cls idx z).before a0 Z = true) (w2 : (Jvm.Cond.declares z).before a0 Z = true) (w5 : (Jvm.Cond.selects C z z).before a0 Z = true) (w6 : (Jvm.Cond.instanceMethod z).before a0 Z = true) (w3 : (Jvm.Cond.initialized z.cls).before a0 Z = true) (w4 : (Jvm.Cond.code z bytes mx rt).before a0 Z = true)
    (hsig : parseMethodDescriptor z.desc = some ⟨ps, rr⟩) (hrc : ∀ h, Hp Z h os → Exa Z h b C) (hM : OMeets l Z z bytes mx rt rm [.ref b, x1, x2, x3] os (RetV q)) (k : ∀ v os', q v os' → WP X Z rc rs Q pc' L (v :: S) os' (ce + rm.cells) (sl + rm.slots)) (hlen : ([x1, x2, x3] : List Value).length = ps.length := by rfl) (hsz : L.length = maxL := by rfl) (hf : rm.frames + 1 ≤ R.frames := by decide) (hl : (S.map fun v => v.category).sum + (mx + 11) + rm.locals ≤ R.locals := by exact Nat.le_of_ble_eq_true rfl)
    (hc : ce + rm.cells ≤ R.cells := by decide) (hs : sl + rm.slots ≤ R.slots := by decide) (hy : z.cls ≠ "java/lang/invoke/MethodHandle" ∧ z.cls ≠ "java/lang/invoke/VarHandle" := by decide) (hp : pc + 3 = pc' := by rfl) : WP X Z rc rs Q pc L (x3 :: x2 :: x1 :: .ref b :: S) os ce sl :=
  W.callVv (argsL := [x1, x2, x3]) (S := S) K pc' hd w1 w2 w5 w6 w3 w4 hsig hrc hM k rfl hlen hsz hf hl hc hs hy hp
theorem W.callVv4 {idx mx : Nat} {z : MethodName} {bytes : ByteArray} {rt : Option FieldType} {C : String} {rm : Room} {ps : List FieldType} {rr : Option FieldType} {b : Addr} {x1 x2 x3 x4 : Value} {q : Value → OS → Prop} (K : Ctx X l Z R y code maxL ret) (pc' : Nat) (hd : decode code pc = .ok (.invokevirtual idx, 3)) (w1 : (Jvm.Cond.methodLink y.cls idx z).before a0 Z = true) (w2 : (Jvm.Cond.declares z).before a0 Z = true) (w5 : (Jvm.Cond.selects C z z).before a0 Z = true) (w6 : (Jvm.Cond.instanceMethod z).before a0 Z = true) (w3 : (Jvm.Cond.initialized z.cls).before a0 Z = true) (w4 : (Jvm.Cond.code z bytes mx rt).before a0 Z = true)
    (hsig : parseMethodDescriptor z.desc = some ⟨ps, rr⟩) (hrc : ∀ h, Hp Z h os → Exa Z h b C) (hM : OMeets l Z z bytes mx rt rm [.ref b, x1, x2, x3, x4] os (RetV q)) (k : ∀ v os', q v os' → WP X Z rc rs Q pc' L (v :: S) os' (ce + rm.cells) (sl + rm.slots)) (hlen : ([x1, x2, x3, x4] : List Value).length = ps.length := by rfl) (hsz : L.length = maxL := by rfl) (hf : rm.frames + 1 ≤ R.frames := by decide) (hl : (S.map fun v => v.category).sum + (mx + 11) + rm.locals ≤ R.locals := by exact Nat.le_of_ble_eq_true rfl)
    (hc : ce + rm.cells ≤ R.cells := by decide) (hs : sl + rm.slots ≤ R.slots := by decide) (hy : z.cls ≠ "java/lang/invoke/MethodHandle" ∧ z.cls ≠ "java/lang/invoke/VarHandle" := by decide) (hp : pc + 3 = pc' := by rfl) : WP X Z rc rs Q pc L (x4 :: x3 :: x2 :: x1 :: .ref b :: S) os ce sl :=
  W.callVv (argsL := [x1, x2, x3, x4]) (S := S) K pc' hd w1 w2 w5 w6 w3 w4 hsig hrc hM k rfl hlen hsz hf hl hc hs hy hp
theorem W.callVv5 {idx mx : Nat} {z : MethodName} {bytes : ByteArray} {rt : Option FieldType} {C : String} {rm : Room} {ps : List FieldType} {rr : Option FieldType} {b : Addr} {x1 x2 x3 x4 x5 : Value} {q : Value → OS → Prop} (K : Ctx X l Z R y code maxL ret) (pc' : Nat) (hd : decode code pc = .ok (.invokevirtual idx, 3)) (w1 : (Jvm.Cond.methodLink y.cls idx z).before a0 Z = true) (w2 : (Jvm.Cond.declares z).before a0 Z = true) (w5 : (Jvm.Cond.selects C z z).before a0 Z = true) (w6 : (Jvm.Cond.instanceMethod z).before a0 Z = true) (w3 : (Jvm.Cond.initialized z.cls).before a0 Z = true) (w4 : (Jvm.Cond.code z bytes mx rt).before a0 Z = true)
    (hsig : parseMethodDescriptor z.desc = some ⟨ps, rr⟩) (hrc : ∀ h, Hp Z h os → Exa Z h b C) (hM : OMeets l Z z bytes mx rt rm [.ref b, x1, x2, x3, x4, x5] os (RetV q)) (k : ∀ v os', q v os' → WP X Z rc rs Q pc' L (v :: S) os' (ce + rm.cells) (sl + rm.slots)) (hlen : ([x1, x2, x3, x4, x5] : List Value).length = ps.length := by rfl) (hsz : L.length = maxL := by rfl) (hf : rm.frames + 1 ≤ R.frames := by decide) (hl : (S.map fun v => v.category).sum + (mx + 11) + rm.locals ≤ R.locals := by exact Nat.le_of_ble_eq_true rfl)
    (hc : ce + rm.cells ≤ R.cells := by decide) (hs : sl + rm.slots ≤ R.slots := by decide) (hy : z.cls ≠ "java/lang/invoke/MethodHandle" ∧ z.cls ≠ "java/lang/invoke/VarHandle" := by decide) (hp : pc + 3 = pc' := by rfl) : WP X Z rc rs Q pc L (x5 :: x4 :: x3 :: x2 :: x1 :: .ref b :: S) os ce sl :=
  W.callVv (argsL := [x1, x2, x3, x4, x5]) (S := S) K pc' hd w1 w2 w5 w6 w3 w4 hsig hrc hM k rfl hlen hsz hf hl hc hs hy hp
theorem W.callVv6 {idx mx : Nat} {z : MethodName} {bytes : ByteArray} {rt : Option FieldType} {C : String} {rm : Room} {ps : List FieldType} {rr : Option FieldType} {b : Addr} {x1 x2 x3 x4 x5 x6 : Value} {q : Value → OS → Prop} (K : Ctx X l Z R y code maxL ret) (pc' : Nat) (hd : decode code pc = .ok (.invokevirtual idx, 3)) (w1 : (Jvm.Cond.methodLink y.cls idx z).before a0 Z = true) (w2 : (Jvm.Cond.declares z).before a0 Z = true) (w5 : (Jvm.Cond.selects C z z).before a0 Z = true) (w6 : (Jvm.Cond.instanceMethod z).before a0 Z = true) (w3 : (Jvm.Cond.initialized z.cls).before a0 Z = true) (w4 : (Jvm.Cond.code z bytes mx rt).before a0 Z = true)
    (hsig : parseMethodDescriptor z.desc = some ⟨ps, rr⟩) (hrc : ∀ h, Hp Z h os → Exa Z h b C) (hM : OMeets l Z z bytes mx rt rm [.ref b, x1, x2, x3, x4, x5, x6] os (RetV q)) (k : ∀ v os', q v os' → WP X Z rc rs Q pc' L (v :: S) os' (ce + rm.cells) (sl + rm.slots)) (hlen : ([x1, x2, x3, x4, x5, x6] : List Value).length = ps.length := by rfl) (hsz : L.length = maxL := by rfl) (hf : rm.frames + 1 ≤ R.frames := by decide) (hl : (S.map fun v => v.category).sum + (mx + 11) + rm.locals ≤ R.locals := by exact Nat.le_of_ble_eq_true rfl)
    (hc : ce + rm.cells ≤ R.cells := by decide) (hs : sl + rm.slots ≤ R.slots := by decide) (hy : z.cls ≠ "java/lang/invoke/MethodHandle" ∧ z.cls ≠ "java/lang/invoke/VarHandle" := by decide) (hp : pc + 3 = pc' := by rfl) : WP X Z rc rs Q pc L (x6 :: x5 :: x4 :: x3 :: x2 :: x1 :: .ref b :: S) os ce sl :=
  W.callVv (argsL := [x1, x2, x3, x4, x5, x6]) (S := S) K pc' hd w1 w2 w5 w6 w3 w4 hsig hrc hM k rfl hlen hsz hf hl hc hs hy hp
theorem W.callVv7 {idx mx : Nat} {z : MethodName} {bytes : ByteArray} {rt : Option FieldType} {C : String} {rm : Room} {ps : List FieldType} {rr : Option FieldType} {b : Addr} {x1 x2 x3 x4 x5 x6 x7 : Value} {q : Value → OS → Prop} (K : Ctx X l Z R y code maxL ret) (pc' : Nat) (hd : decode code pc = .ok (.invokevirtual idx, 3)) (w1 : (Jvm.Cond.methodLink y.cls idx z).before a0 Z = true) (w2 : (Jvm.Cond.declares z).before a0 Z = true) (w5 : (Jvm.Cond.selects C z z).before a0 Z = true) (w6 : (Jvm.Cond.instanceMethod z).before a0 Z = true) (w3 : (Jvm.Cond.initialized z.cls).before a0 Z = true) (w4 : (Jvm.Cond.code z bytes mx rt).before a0 Z = true)
    (hsig : parseMethodDescriptor z.desc = some ⟨ps, rr⟩) (hrc : ∀ h, Hp Z h os → Exa Z h b C) (hM : OMeets l Z z bytes mx rt rm [.ref b, x1, x2, x3, x4, x5, x6, x7] os (RetV q)) (k : ∀ v os', q v os' → WP X Z rc rs Q pc' L (v :: S) os' (ce + rm.cells) (sl + rm.slots)) (hlen : ([x1, x2, x3, x4, x5, x6, x7] : List Value).length = ps.length := by rfl) (hsz : L.length = maxL := by rfl) (hf : rm.frames + 1 ≤ R.frames := by decide) (hl : (S.map fun v => v.category).sum + (mx + 11) + rm.locals ≤ R.locals := by exact Nat.le_of_ble_eq_true rfl)
    (hc : ce + rm.cells ≤ R.cells := by decide) (hs : sl + rm.slots ≤ R.slots := by decide) (hy : z.cls ≠ "java/lang/invoke/MethodHandle" ∧ z.cls ≠ "java/lang/invoke/VarHandle" := by decide) (hp : pc + 3 = pc' := by rfl) : WP X Z rc rs Q pc L (x7 :: x6 :: x5 :: x4 :: x3 :: x2 :: x1 :: .ref b :: S) os ce sl :=
  W.callVv (argsL := [x1, x2, x3, x4, x5, x6, x7]) (S := S) K pc' hd w1 w2 w5 w6 w3 w4 hsig hrc hM k rfl hlen hsz hf hl hc hs hy hp
theorem W.callVn0 {idx mx : Nat} {z : MethodName} {bytes : ByteArray} {rt : Option FieldType} {C : String} {rm : Room} {ps : List FieldType} {rr : Option FieldType} {b : Addr} {q : OS → Prop} (K : Ctx X l Z R y code maxL ret) (pc' : Nat) (hd : decode code pc = .ok (.invokevirtual idx, 3)) (w1 : (Jvm.Cond.methodLink y.cls idx z).before a0 Z = true) (w2 : (Jvm.Cond.declares z).before a0 Z = true) (w5 : (Jvm.Cond.selects C z z).before a0 Z = true) (w6 : (Jvm.Cond.instanceMethod z).before a0 Z = true) (w3 : (Jvm.Cond.initialized z.cls).before a0 Z = true) (w4 : (Jvm.Cond.code z bytes mx rt).before a0 Z = true)
    (hsig : parseMethodDescriptor z.desc = some ⟨ps, rr⟩) (hrc : ∀ h, Hp Z h os → Exa Z h b C) (hM : OMeets l Z z bytes mx rt rm [.ref b] os (RetN q)) (k : ∀ os', q os' → WP X Z rc rs Q pc' L S os' (ce + rm.cells) (sl + rm.slots)) (hlen : ([] : List Value).length = ps.length := by rfl) (hsz : L.length = maxL := by rfl) (hf : rm.frames + 1 ≤ R.frames := by decide) (hl : (S.map fun v => v.category).sum + (mx + 11) + rm.locals ≤ R.locals := by exact Nat.le_of_ble_eq_true rfl)
    (hc : ce + rm.cells ≤ R.cells := by decide) (hs : sl + rm.slots ≤ R.slots := by decide) (hy : z.cls ≠ "java/lang/invoke/MethodHandle" ∧ z.cls ≠ "java/lang/invoke/VarHandle" := by decide) (hp : pc + 3 = pc' := by rfl) : WP X Z rc rs Q pc L (.ref b :: S) os ce sl :=
  W.callVn (argsL := []) (S := S) K pc' hd w1 w2 w5 w6 w3 w4 hsig hrc hM k rfl hlen hsz hf hl hc hs hy hp
theorem W.callVn1 {idx mx : Nat} {z : MethodName} {bytes : ByteArray} {rt : Option FieldType} {C : String} {rm : Room} {ps : List FieldType} {rr : Option FieldType} {b : Addr} {x1 : Value} {q : OS → Prop} (K : Ctx X l Z R y code maxL ret) (pc' : Nat) (hd : decode code pc = .ok (.invokevirtual idx, 3)) (w1 : (Jvm.Cond.methodLink y.cls idx z).before a0 Z = true) (w2 : (Jvm.Cond.declares z).before a0 Z = true) (w5 : (Jvm.Cond.selects C z z).before a0 Z = true) (w6 : (Jvm.Cond.instanceMethod z).before a0 Z = true) (w3 : (Jvm.Cond.initialized z.cls).before a0 Z = true) (w4 : (Jvm.Cond.code z bytes mx rt).before a0 Z = true)
    (hsig : parseMethodDescriptor z.desc = some ⟨ps, rr⟩) (hrc : ∀ h, Hp Z h os → Exa Z h b C) (hM : OMeets l Z z bytes mx rt rm [.ref b, x1] os (RetN q)) (k : ∀ os', q os' → WP X Z rc rs Q pc' L S os' (ce + rm.cells) (sl + rm.slots)) (hlen : ([x1] : List Value).length = ps.length := by rfl) (hsz : L.length = maxL := by rfl) (hf : rm.frames + 1 ≤ R.frames := by decide) (hl : (S.map fun v => v.category).sum + (mx + 11) + rm.locals ≤ R.locals := by exact Nat.le_of_ble_eq_true rfl)
    (hc : ce + rm.cells ≤ R.cells := by decide) (hs : sl + rm.slots ≤ R.slots := by decide) (hy : z.cls ≠ "java/lang/invoke/MethodHandle" ∧ z.cls ≠ "java/lang/invoke/VarHandle" := by decide) (hp : pc + 3 = pc' := by rfl) : WP X Z rc rs Q pc L (x1 :: .ref b :: S) os ce sl :=
  W.callVn (argsL := [x1]) (S := S) K pc' hd w1 w2 w5 w6 w3 w4 hsig hrc hM k rfl hlen hsz hf hl hc hs hy hp
theorem W.callVn2 {idx mx : Nat} {z : MethodName} {bytes : ByteArray} {rt : Option FieldType} {C : String} {rm : Room} {ps : List FieldType} {rr : Option FieldType} {b : Addr} {x1 x2 : Value} {q : OS → Prop} (K : Ctx X l Z R y code maxL ret) (pc' : Nat) (hd : decode code pc = .ok (.invokevirtual idx, 3)) (w1 : (Jvm.Cond.methodLink y.cls idx z).before a0 Z = true) (w2 : (Jvm.Cond.declares z).before a0 Z = true) (w5 : (Jvm.Cond.selects C z z).before a0 Z = true) (w6 : (Jvm.Cond.instanceMethod z).before a0 Z = true) (w3 : (Jvm.Cond.initialized z.cls).before a0 Z = true) (w4 : (Jvm.Cond.code z bytes mx rt).before a0 Z = true)
    (hsig : parseMethodDescriptor z.desc = some ⟨ps, rr⟩) (hrc : ∀ h, Hp Z h os → Exa Z h b C) (hM : OMeets l Z z bytes mx rt rm [.ref b, x1, x2] os (RetN q)) (k : ∀ os', q os' → WP X Z rc rs Q pc' L S os' (ce + rm.cells) (sl + rm.slots)) (hlen : ([x1, x2] : List Value).length = ps.length := by rfl) (hsz : L.length = maxL := by rfl) (hf : rm.frames + 1 ≤ R.frames := by decide) (hl : (S.map fun v => v.category).sum + (mx + 11) + rm.locals ≤ R.locals := by exact Nat.le_of_ble_eq_true rfl)
    (hc : ce + rm.cells ≤ R.cells := by decide) (hs : sl + rm.slots ≤ R.slots := by decide) (hy : z.cls ≠ "java/lang/invoke/MethodHandle" ∧ z.cls ≠ "java/lang/invoke/VarHandle" := by decide) (hp : pc + 3 = pc' := by rfl) : WP X Z rc rs Q pc L (x2 :: x1 :: .ref b :: S) os ce sl :=
  W.callVn (argsL := [x1, x2]) (S := S) K pc' hd w1 w2 w5 w6 w3 w4 hsig hrc hM k rfl hlen hsz hf hl hc hs hy hp
theorem W.callVn3 {idx mx : Nat} {z : MethodName} {bytes : ByteArray} {rt : Option FieldType} {C : String} {rm : Room} {ps : List FieldType} {rr : Option FieldType} {b : Addr} {x1 x2 x3 : Value} {q : OS → Prop} (K : Ctx X l Z R y code maxL ret) (pc' : Nat) (hd : decode code pc = .ok (.invokevirtual idx, 3)) (w1 : (Jvm.Cond.methodLink y.cls idx z).before a0 Z = true) (w2 : (Jvm.Cond.declares z).before a0 Z = true) (w5 : (Jvm.Cond.selects C z z).before a0 Z = true) (w6 : (Jvm.Cond.instanceMethod z).before a0 Z = true) (w3 : (Jvm.Cond.initialized z.cls).before a0 Z = true) (w4 : (Jvm.Cond.code z bytes mx rt).before a0 Z = true)
    (hsig : parseMethodDescriptor z.desc = some ⟨ps, rr⟩) (hrc : ∀ h, Hp Z h os → Exa Z h b C) (hM : OMeets l Z z bytes mx rt rm [.ref b, x1, x2, x3] os (RetN q)) (k : ∀ os', q os' → WP X Z rc rs Q pc' L S os' (ce + rm.cells) (sl + rm.slots)) (hlen : ([x1, x2, x3] : List Value).length = ps.length := by rfl) (hsz : L.length = maxL := by rfl) (hf : rm.frames + 1 ≤ R.frames := by decide) (hl : (S.map fun v => v.category).sum + (mx + 11) + rm.locals ≤ R.locals := by exact Nat.le_of_ble_eq_true rfl)
    (hc : ce + rm.cells ≤ R.cells := by decide) (hs : sl + rm.slots ≤ R.slots := by decide) (hy : z.cls ≠ "java/lang/invoke/MethodHandle" ∧ z.cls ≠ "java/lang/invoke/VarHandle" := by decide) (hp : pc + 3 = pc' := by rfl) : WP X Z rc rs Q pc L (x3 :: x2 :: x1 :: .ref b :: S) os ce sl :=
  W.callVn (argsL := [x1, x2, x3]) (S := S) K pc' hd w1 w2 w5 w6 w3 w4 hsig hrc hM k rfl hlen hsz hf hl hc hs hy hp
theorem W.callVn4 {idx mx : Nat} {z : MethodName} {bytes : ByteArray} {rt : Option FieldType} {C : String} {rm : Room} {ps : List FieldType} {rr : Option FieldType} {b : Addr} {x1 x2 x3 x4 : Value} {q : OS → Prop} (K : Ctx X l Z R y code maxL ret) (pc' : Nat) (hd : decode code pc = .ok (.invokevirtual idx, 3)) (w1 : (Jvm.Cond.methodLink y.cls idx z).before a0 Z = true) (w2 : (Jvm.Cond.declares z).before a0 Z = true) (w5 : (Jvm.Cond.selects C z z).before a0 Z = true) (w6 : (Jvm.Cond.instanceMethod z).before a0 Z = true) (w3 : (Jvm.Cond.initialized z.cls).before a0 Z = true) (w4 : (Jvm.Cond.code z bytes mx rt).before a0 Z = true)
    (hsig : parseMethodDescriptor z.desc = some ⟨ps, rr⟩) (hrc : ∀ h, Hp Z h os → Exa Z h b C) (hM : OMeets l Z z bytes mx rt rm [.ref b, x1, x2, x3, x4] os (RetN q)) (k : ∀ os', q os' → WP X Z rc rs Q pc' L S os' (ce + rm.cells) (sl + rm.slots)) (hlen : ([x1, x2, x3, x4] : List Value).length = ps.length := by rfl) (hsz : L.length = maxL := by rfl) (hf : rm.frames + 1 ≤ R.frames := by decide) (hl : (S.map fun v => v.category).sum + (mx + 11) + rm.locals ≤ R.locals := by exact Nat.le_of_ble_eq_true rfl)
    (hc : ce + rm.cells ≤ R.cells := by decide) (hs : sl + rm.slots ≤ R.slots := by decide) (hy : z.cls ≠ "java/lang/invoke/MethodHandle" ∧ z.cls ≠ "java/lang/invoke/VarHandle" := by decide) (hp : pc + 3 = pc' := by rfl) : WP X Z rc rs Q pc L (x4 :: x3 :: x2 :: x1 :: .ref b :: S) os ce sl :=
  W.callVn (argsL := [x1, x2, x3, x4]) (S := S) K pc' hd w1 w2 w5 w6 w3 w4 hsig hrc hM k rfl hlen hsz hf hl hc hs hy hp
theorem W.callVn5 {idx mx : Nat} {z : MethodName} {bytes : ByteArray} {rt : Option FieldType} {C : String} {rm : Room} {ps : List FieldType} {rr : Option FieldType} {b : Addr} {x1 x2 x3 x4 x5 : Value} {q : OS → Prop} (K : Ctx X l Z R y code maxL ret) (pc' : Nat) (hd : decode code pc = .ok (.invokevirtual idx, 3)) (w1 : (Jvm.Cond.methodLink y.cls idx z).before a0 Z = true) (w2 : (Jvm.Cond.declares z).before a0 Z = true) (w5 : (Jvm.Cond.selects C z z).before a0 Z = true) (w6 : (Jvm.Cond.instanceMethod z).before a0 Z = true) (w3 : (Jvm.Cond.initialized z.cls).before a0 Z = true) (w4 : (Jvm.Cond.code z bytes mx rt).before a0 Z = true)
    (hsig : parseMethodDescriptor z.desc = some ⟨ps, rr⟩) (hrc : ∀ h, Hp Z h os → Exa Z h b C) (hM : OMeets l Z z bytes mx rt rm [.ref b, x1, x2, x3, x4, x5] os (RetN q)) (k : ∀ os', q os' → WP X Z rc rs Q pc' L S os' (ce + rm.cells) (sl + rm.slots)) (hlen : ([x1, x2, x3, x4, x5] : List Value).length = ps.length := by rfl) (hsz : L.length = maxL := by rfl) (hf : rm.frames + 1 ≤ R.frames := by decide) (hl : (S.map fun v => v.category).sum + (mx + 11) + rm.locals ≤ R.locals := by exact Nat.le_of_ble_eq_true rfl)
    (hc : ce + rm.cells ≤ R.cells := by decide) (hs : sl + rm.slots ≤ R.slots := by decide) (hy : z.cls ≠ "java/lang/invoke/MethodHandle" ∧ z.cls ≠ "java/lang/invoke/VarHandle" := by decide) (hp : pc + 3 = pc' := by rfl) : WP X Z rc rs Q pc L (x5 :: x4 :: x3 :: x2 :: x1 :: .ref b :: S) os ce sl :=
  W.callVn (argsL := [x1, x2, x3, x4, x5]) (S := S) K pc' hd w1 w2 w5 w6 w3 w4 hsig hrc hM k rfl hlen hsz hf hl hc hs hy hp
theorem W.callVn6 {idx mx : Nat} {z : MethodName} {bytes : ByteArray} {rt : Option FieldType} {C : String} {rm : Room} {ps : List FieldType} {rr : Option FieldType} {b : Addr} {x1 x2 x3 x4 x5 x6 : Value} {q : OS → Prop} (K : Ctx X l Z R y code maxL ret) (pc' : Nat) (hd : decode code pc = .ok (.invokevirtual idx, 3)) (w1 : (Jvm.Cond.methodLink y.cls idx z).before a0 Z = true) (w2 : (Jvm.Cond.declares z).before a0 Z = true) (w5 : (Jvm.Cond.selects C z z).before a0 Z = true) (w6 : (Jvm.Cond.instanceMethod z).before a0 Z = true) (w3 : (Jvm.Cond.initialized z.cls).before a0 Z = true) (w4 : (Jvm.Cond.code z bytes mx rt).before a0 Z = true)
    (hsig : parseMethodDescriptor z.desc = some ⟨ps, rr⟩) (hrc : ∀ h, Hp Z h os → Exa Z h b C) (hM : OMeets l Z z bytes mx rt rm [.ref b, x1, x2, x3, x4, x5, x6] os (RetN q)) (k : ∀ os', q os' → WP X Z rc rs Q pc' L S os' (ce + rm.cells) (sl + rm.slots)) (hlen : ([x1, x2, x3, x4, x5, x6] : List Value).length = ps.length := by rfl) (hsz : L.length = maxL := by rfl) (hf : rm.frames + 1 ≤ R.frames := by decide) (hl : (S.map fun v => v.category).sum + (mx + 11) + rm.locals ≤ R.locals := by exact Nat.le_of_ble_eq_true rfl)
    (hc : ce + rm.cells ≤ R.cells := by decide) (hs : sl + rm.slots ≤ R.slots := by decide) (hy : z.cls ≠ "java/lang/invoke/MethodHandle" ∧ z.cls ≠ "java/lang/invoke/VarHandle" := by decide) (hp : pc + 3 = pc' := by rfl) : WP X Z rc rs Q pc L (x6 :: x5 :: x4 :: x3 :: x2 :: x1 :: .ref b :: S) os ce sl :=
  W.callVn (argsL := [x1, x2, x3, x4, x5, x6]) (S := S) K pc' hd w1 w2 w5 w6 w3 w4 hsig hrc hM k rfl hlen hsz hf hl hc hs hy hp
theorem W.callVn7 {idx mx : Nat} {z : MethodName} {bytes : ByteArray} {rt : Option FieldType} {C : String} {rm : Room} {ps : List FieldType} {rr : Option FieldType} {b : Addr} {x1 x2 x3 x4 x5 x6 x7 : Value} {q : OS → Prop} (K : Ctx X l Z R y code maxL ret) (pc' : Nat) (hd : decode code pc = .ok (.invokevirtual idx, 3)) (w1 : (Jvm.Cond.methodLink y.cls idx z).before a0 Z = true) (w2 : (Jvm.Cond.declares z).before a0 Z = true) (w5 : (Jvm.Cond.selects C z z).before a0 Z = true) (w6 : (Jvm.Cond.instanceMethod z).before a0 Z = true) (w3 : (Jvm.Cond.initialized z.cls).before a0 Z = true) (w4 : (Jvm.Cond.code z bytes mx rt).before a0 Z = true)
    (hsig : parseMethodDescriptor z.desc = some ⟨ps, rr⟩) (hrc : ∀ h, Hp Z h os → Exa Z h b C) (hM : OMeets l Z z bytes mx rt rm [.ref b, x1, x2, x3, x4, x5, x6, x7] os (RetN q)) (k : ∀ os', q os' → WP X Z rc rs Q pc' L S os' (ce + rm.cells) (sl + rm.slots)) (hlen : ([x1, x2, x3, x4, x5, x6, x7] : List Value).length = ps.length := by rfl) (hsz : L.length = maxL := by rfl) (hf : rm.frames + 1 ≤ R.frames := by decide) (hl : (S.map fun v => v.category).sum + (mx + 11) + rm.locals ≤ R.locals := by exact Nat.le_of_ble_eq_true rfl)
    (hc : ce + rm.cells ≤ R.cells := by decide) (hs : sl + rm.slots ≤ R.slots := by decide) (hy : z.cls ≠ "java/lang/invoke/MethodHandle" ∧ z.cls ≠ "java/lang/invoke/VarHandle" := by decide) (hp : pc + 3 = pc' := by rfl) : WP X Z rc rs Q pc L (x7 :: x6 :: x5 :: x4 :: x3 :: x2 :: x1 :: .ref b :: S) os ce sl :=
  W.callVn (argsL := [x1, x2, x3, x4, x5, x6, x7]) (S := S) K pc' hd w1 w2 w5 w6 w3 w4 hsig hrc hM k rfl hlen hsz hf hl hc hs hy hp
theorem Rc.new {b : Addr} {C : String} {fs : List FV} (hm : (b, OBJ Z C fs) ∈ os) : ∀ h, Hp Z h os → Exa Z h b C := fun h H => by
  obtain ⟨-, c, hc, hO⟩ := H.get hm; exact hO.exa hc
theorem Rc.old {b : Addr} {C : String} (E : Exa Z Z.heap b C) : ∀ h, Hp Z h os → Exa Z h b C := fun h H => E.ext H.1
end Ops
end Jvm.OwnW
namespace Jvm.OwnW
open Sem ClassFile Op Lib Jvm.Stand Jvm.Free Jvm.LawKit Jvm.RoadKit
/-! arrays as functions -/
def AF {α : Type} (c : α → Value) (n : Nat) (F : Nat → α) : List Value := (List.range n).map fun i => c (F i)
def updA {α : Type} (F : Nat → α) (k : Nat) (v : α) : Nat → α := fun i => if i = k then v else F i
theorem updA_same {α : Type} (F : Nat → α) (k : Nat) (v : α) : updA F k v k = v := by simp [updA]
theorem updA_ne {α : Type} (F : Nat → α) {k i : Nat} (v : α) (h : i ≠ k) : updA F k v i = F i := by simp [updA, h]
theorem AF_len {α : Type} {c : α → Value} {n : Nat} {F : Nat → α} : (AF c n F).length = n := by simp [AF]
theorem AF_at {α : Type} {c : α → Value} {n : Nat} {F : Nat → α} {i : Nat} (h : i < n) : (AF c n F)[i]? = some (c (F i)) := by simp [AF, h]
theorem AF_out {α : Type} {c : α → Value} {n : Nat} {F : Nat → α} {i : Nat} (h : ¬ i < n) : (AF c n F)[i]? = none := by simp [AF]; omega
theorem AF_ext {α : Type} {c : α → Value} {n : Nat} {F G : Nat → α} (h : ∀ i, i < n → F i = G i) : AF c n F = AF c n G := by
  apply List.ext_getElem?
  intro i
  by_cases hi : i < n
  · rw [AF_at hi, AF_at hi, h i hi]
  · rw [AF_out hi, AF_out hi]
theorem AF_set {α : Type} {c : α → Value} {n : Nat} {F : Nat → α} {k : Nat} {v : α} : (AF c n F).set k (c v) = AF c n (updA F k v) := by
  apply List.ext_getElem?
  intro i
  rw [List.getElem?_set]
  by_cases hi : i < n
  · rw [AF_at hi, AF_at hi]
    by_cases e : k = i
    · subst e
      rw [if_pos rfl, if_pos (by rw [AF_len]; exact hi), updA_same]
    · rw [if_neg e, updA_ne _ _ (fun h => e h.symm)]
  · rw [AF_out hi, AF_out hi]
    split
    · rename_i e; subst e
      rw [if_neg (by rw [AF_len]; exact hi)]
    · rfl
theorem AF_rep {α : Type} {c : α → Value} {n : Nat} {v : α} : List.replicate n (c v) = AF c n (fun _ => v) := by
  apply List.ext_getElem?
  intro i
  by_cases hi : i < n
  · rw [AF_at hi]; simp [List.getElem?_replicate, hi]
  · rw [AF_out hi]; simp [List.getElem?_replicate, hi]
theorem AF_repI {n : Nat} : List.replicate n (defaultValue .int) = AF Value.int n (fun _ => 0) := AF_rep
theorem AF_repB {n : Nat} : List.replicate n (defaultValue .byte) = AF Value.int n (fun _ => 0) := AF_rep
theorem AF_repC {n : Nat} : List.replicate n (defaultValue .char) = AF Value.int n (fun _ => 0) := AF_rep
theorem AF_repJ {n : Nat} : List.replicate n (defaultValue .long) = AF Value.long n (fun _ => 0) := AF_rep
theorem AF_size {α : Type} {c : α → Value} {n : Nat} {F : Nat → α} {z : Int32} (h : z.toInt = (n : Int)) : (AF c n F).length.toInt32 = z := by
  rw [AF_len]
  apply Int32.toInt_inj.mp
  have h1 := rng32 z
  rw [len_toInt (by omega), h]
theorem toInt_add32 {x z : Int32} {a b : Int} (hx : x.toInt = a) (hz : z.toInt = b) (h1 : -2147483648 ≤ a + b) (h2 : a + b < 2147483648) : (x + z).toInt = a + b := by
  have q := c_iadd x z; have r := rng32 (x + z); omega
theorem toInt_sub32 {x z : Int32} {a b : Int} (hx : x.toInt = a) (hz : z.toInt = b) (h1 : -2147483648 ≤ a - b) (h2 : a - b < 2147483648) : (x - z).toInt = a - b := by
  have q := c_isub x z; have r := rng32 (x - z); omega
theorem toInt_add64 {x z : Int64} {a b : Int} (hx : x.toInt = a) (hz : z.toInt = b) (h1 : -9223372036854775808 ≤ a + b) (h2 : a + b < 9223372036854775808) : (x + z).toInt = a + b := by
  have q := c_ladd x z; have r := rng64 (x + z); omega
theorem toInt_sub64 {x z : Int64} {a b : Int} (hx : x.toInt = a) (hz : z.toInt = b) (h1 : -9223372036854775808 ≤ a - b) (h2 : a - b < 9223372036854775808) : (x - z).toInt = a - b := by
  have q := c_lsub x z; have r := rng64 (x - z); omega
section Old
variable {X : Cx} {l : Launch} {Z : State} {R : Room} {y : MethodName} {code : ByteArray} {maxL : Nat} {ret : Option FieldType} {rc rs : Nat} {Q : Option Value → OS → Prop} {pc : Nat} {L : List Slot} {S : List Value} {os os' : OS} {ce sl : Nat} {a0 : Array Value}
/-- an array that stood at the start -/
theorem W.baloadO {a : Addr} {cl : Cell} {j : Int32} {v : Value} (i : Nat) (K : Ctx X l Z R y code maxL ret) (pc' : Nat) (hd : decode code pc = .ok (.baload, 1)) (A : Arr Z Z.heap a cl .byte) (hj : j.toInt = (i : Int)) (hv : cl.slots[i]? = some v) (k : WP X Z rc rs Q pc' L (v :: S) os ce sl) (hp : pc + 1 = pc' := by rfl) : WP X Z rc rs Q pc L (.int j :: .ref a :: S) os ce sl := by
  obtain ⟨p, l', e, R', s, m, args, below, meth, c⟩ := X
  obtain ⟨h1, h2, hx, hZ, hby, hml, hown, hnm, hret, hlk⟩ := K
  subst hp
  intro T locs hT0 hH hF
  have hT : Stand p l' e R' s m args below meth c T locs ce sl := hT0
  obtain ⟨s2, o, st, r⟩ := k T locs hT hH hF
  have A' := A.ext hH.1
  have e2 : j.toNatClampNeg = i := by show j.toInt.toNat = i; rw [hj]; rfl
  have hlt := (Array.getElem?_eq_some_iff.mp hv).1
  have e1 : ¬ (j < 0 ∨ cl.slots.size ≤ j.toNatClampNeg) := by
    rw [Int32.lt_iff_toInt_lt, e2, hj]
    intro q
    rcases q with q | q
    · exact absurd q (Int.not_lt.mpr (Int.natCast_nonneg i))
    · omega
  exact ⟨s2, o, Stand.baloadBytes hT hx A'.1 (State.isArrayOf_alike hZ.alike A'.2.1) A'.2.2 e1 (by rw [e2]; exact hv) (g := mkF m pc L.toArray (.int j :: .ref a :: S)) rfl rfl (hb hby hd) _ st, r⟩
end Old
end Jvm.OwnW
namespace Jvm.OwnW
open Sem ClassFile Op Lib Jvm.Stand Jvm.Free Jvm.LawKit Jvm.RoadKit
section Copy
variable {X : Cx} {l : Launch} {Z : State} {R : Room} {y : MethodName} {code : ByteArray} {maxL : Nat} {ret : Option FieldType} {rc rs : Nat} {Q : Option Value → OS → Prop} {pc : Nat} {L : List Slot} {S : List Value} {os os' : OS} {ce sl : Nat} {a0 : Array Value}
theorem W.dupX2 {x u v : Value} (K : Ctx X l Z R y code maxL ret) (pc' : Nat) (hd : decode code pc = .ok (.dup_x2, 1)) (k : WP X Z rc rs Q pc' L (x :: u :: v :: x :: S) os ce sl) (hc : x.category = 1 := by rfl) (hc2 : u.category = 1 := by rfl) (hc3 : v.category = 1 := by rfl) (hp : pc + 1 = pc' := by rfl) : WP X Z rc rs Q pc L (x :: u :: v :: S) os ce sl := by
  obtain ⟨p, l', e, R', s, m, args, below, meth, c⟩ := X
  obtain ⟨h1, h2, hx, hZ, hby, hml, hown, hnm, hret, hlk⟩ := K
  subst hp
  intro T locs hT0 hH hF
  have hT : Stand p l' e R' s m args below meth c T locs ce sl := hT0
  obtain ⟨s2, o, st, r⟩ := k T locs hT hH hF
  refine ⟨s2, o, ?_, r⟩
  have hX := Stand.here hT
  have hdg := hb hby hd
  jvm_step hX [hX.top, hx, hdg, hc, hc2, hc3]
  exact st
theorem Hp.keepAt {h h' : Heap} {b : Addr} {P P' : Cell → Prop} {i : Nat} {c' : Cell} (H : Hp Z h os) (hi : os[i]? = some (b, P)) (Kp : Keep h h' [b]) (hc : h'[b]? = some c') (hP : P' c') : Hp Z h' (os.set i (b, P')) := by
  obtain ⟨hb, cb, hcb, -⟩ := H.2.2 i _ hi
  refine ⟨⟨Nat.le_trans H.1.1 Kp.1, fun x cx hx => ?_⟩, ?_, fun k x hx => ?_⟩
  · refine Kp.2.1 x cx (H.1.2 x cx hx) (fun q => ?_)
    have e := List.mem_singleton.mp q
    rw [e] at hx
    exact absurd (Array.getElem?_eq_some_iff.mp hx).1 (Nat.not_lt.mpr hb)
  · have e : (os.set i (b, P')).map Prod.fst = os.map Prod.fst := by
      apply List.ext_getElem?
      intro k
      simp only [List.getElem?_map, List.getElem?_set]
      split
      · rename_i e; subst e
        rw [if_pos (List.getElem?_eq_some_iff.mp hi).1, hi]; rfl
      · rfl
    rw [e]; exact H.2.1
  · rw [List.getElem?_set] at hx
    split at hx
    · rename_i e; subst e
      split at hx
      · cases hx; exact ⟨hb, c', hc, hP⟩
      · cases hx
    · rename_i hne
      obtain ⟨g1, cx, g2, g3⟩ := H.2.2 k x hx
      have ne : x.1 ≠ b := H.ne (i := k) (j := i) (P := x.2) hx hi (fun e => hne e.symm)
      exact ⟨g1, cx, Kp.2.1 _ _ g2 (fun q => ne (List.mem_singleton.mp q)), g3⟩
theorem ARR.arv {h : Heap} {a : Addr} {c : Cell} {ty : FieldType} {vs : List Value} (hc : h[a]? = some c) (q : ARR Z ty vs c) : Arv Z h a c.cls ty vs.length.toInt32 vs .null := by
  obtain ⟨q1, q2, q3, q4, q5⟩ := q
  have e : vs.length.toInt32.toInt = (vs.length : Int) := len_toInt q5
  have e2 : vs.length.toInt32.toNatClampNeg = vs.length := by show (vs.length.toInt32.toInt).toNat = _; rw [e]; rfl
  have hs : c.slots.size = vs.length := by rw [q3]; simp
  refine ⟨c, ⟨hc, q1, q2⟩, rfl, by rw [e2, hs], by rw [Int32.lt_iff_toInt_lt, e]; exact Int.not_lt.mpr (Int.natCast_nonneg _), fun k hk => ?_, fun i hi => ?_⟩
  · rw [hs] at hk
    rw [q3]; simp [List.getElem?_eq_getElem hk]
  · rw [hs] at hi
    refine q4 _ ?_
    rw [List.getD_eq_getElem?_getD, List.getElem?_eq_getElem hi]
    exact List.getElem_mem hi
theorem W.arraycopy {a b : Addr} {vs vd : List Value} {ty : FieldType} {sp dp nn : Int32} {idx : Nat} (i j n : Nat) (K : Ctx X l Z R y code maxL ret) (pc' : Nat) (hd : decode code pc = .ok (.invokestatic idx, 3)) (w1 : (Jvm.Cond.methodLink y.cls idx Jvm.Stand.acN).before a0 Z = true) (w2 : (Jvm.Cond.native Jvm.Stand.acN).before a0 Z = true) (w3 : (Jvm.Cond.static Jvm.Stand.acN).before a0 Z = true) (w4 : (Jvm.Cond.initialized "java/lang/System").before a0 Z = true)
    (hm : (a, ARR Z ty vs) ∈ os) (hu : Upd os b (ARR Z ty vd) (ARR Z ty (vd.take j ++ (vs.drop i).take n ++ vd.drop (j + n))) os') (hsp : sp.toInt = (i : Int)) (hdp : dp.toInt = (j : Int)) (hnn : nn.toInt = (n : Int)) (h4 : i + n ≤ vs.length) (h5 : j + n ≤ vd.length) (hty : refKind ty = false)
    (k : WP X Z rc rs Q pc' L S os' ce sl) (hsz : L.length = maxL := by rfl) (hf : 1 ≤ R.frames := by decide) (hlo : (S.map fun v => v.category).sum + (nativeFrameWords "java/lang/System" "arraycopy" 5 + 11) ≤ R.locals := by exact Nat.le_of_ble_eq_true rfl) (hp : pc + 3 = pc' := by rfl) : WP X Z rc rs Q pc L (.int nn :: .int dp :: .ref b :: .int sp :: .ref a :: S) os ce sl := by
  obtain ⟨p, l', e, R', s, m, args, below, meth, c⟩ := X
  obtain ⟨h1, h2, hx, hZ, hby, hml, hown, hnm, hret, hlk⟩ := K
  have h2' : R' = R := h2
  subst h2'
  subst hp
  intro T locs hT0 hH hF
  have hT : Stand p l' e R' s m args below meth c T locs ce sl := hT0
  obtain ⟨ii, hi, rfl⟩ := hu
  obtain ⟨hbn, cd, hcd, qd⟩ := hH.2.2 ii _ hi
  obtain ⟨-, cs, hcs, qs⟩ := hH.get hm
  have nat : ∀ {x : Int32} {z : Nat}, x.toInt = (z : Int) → x.toNatClampNeg = z := fun {x z} h => by show x.toInt.toNat = z; rw [h]; rfl
  have neg : ∀ {x : Int32} {z : Nat}, x.toInt = (z : Int) → ¬ x < 0 := fun {x z} h => by rw [Int32.lt_iff_toInt_lt, h]; exact Int.not_lt.mpr (Int.natCast_nonneg z)
  have n1 := nat hsp; have n2 := nat hdp; have n3 := nat hnn
  have v1 : vs.length.toInt32.toNatClampNeg = vs.length := nat (len_toInt qs.2.2.2.2)
  have v2 : vd.length.toInt32.toNatClampNeg = vd.length := nat (len_toInt qd.2.2.2.2)
  have hus : (vs.drop i).take n = (List.range nn.toNatClampNeg).map fun q => vs.getD (sp.toNatClampNeg + q) .null := by
    rw [n1, n3]
    apply List.ext_getElem?
    intro q
    by_cases hq : q < n
    · rw [List.getElem?_take, if_pos hq, List.getElem?_drop]
      have hlt : i + q < vs.length := by omega
      simp [hq, List.getElem?_eq_getElem hlt]
    · rw [List.getElem?_take, if_neg hq]
      simp [hq]
  obtain ⟨T', h', L', X', e', N', K', A', st'⟩ := cpA hT hx hZ hown w1 w2 w3 w4 rfl (ARR.arv hcs qs) (ARR.arv hcd qd) (us := (vs.drop i).take n) (Or.inl ⟨rfl, hty⟩) (neg hsp) (neg hdp) (neg hnn) (by rw [n1, n3, v1]; exact h4) (by rw [n2, n3, v2]; exact h5) hus (by rw [n2, n3]; exact h5) hF hbn
    (g := mkF m pc L.toArray (.int nn :: .int dp :: .ref b :: .int sp :: .ref a :: S)) rfl (by rw [hml]; simpa using hsz) rfl (hb hby hd) hf (W := (S.map fun v => v.category).sum) (by show 2 * 0 + _ ≤ _; omega) hlo
  rw [n2, n3] at A'
  obtain ⟨c', B1, -, B3, -, B5, B6⟩ := A'
  have hlen : (vd.take j ++ (vs.drop i).take n ++ vd.drop (j + n)).length = vd.length := by simp; omega
  rw [v2] at B3
  have hA : ARR Z ty (vd.take j ++ (vs.drop i).take n ++ vd.drop (j + n)) c' := by
    generalize vd.take j ++ (vs.drop i).take n ++ vd.drop (j + n) = nv at *
    refine ⟨B1.2.1, B1.2.2, ?_, fun v hv => ?_, by rw [hlen]; exact qd.2.2.2.2⟩
    · apply Array.ext_getElem?
      intro q
      by_cases hq : q < c'.slots.size
      · rw [B5 q hq]
        have hq2 : q < nv.length := by omega
        simp [List.getElem?_eq_getElem hq2]
      · have hq2 : ¬ q < nv.length := by omega
        rw [Array.getElem?_eq_none (by omega)]
        simp; omega
    · obtain ⟨q, hq⟩ := List.getElem?_of_mem hv
      have hlt := (List.getElem?_eq_some_iff.mp hq).1
      have g := B6 q (by omega)
      rw [List.getD_eq_getElem?_getD, hq] at g
      exact g
  obtain ⟨s2, o, st, r⟩ := k T' L' X' (by rw [e']; exact hH.keepAt hi K' B1.1 hA) N'
  exact ⟨s2, o, st' _ st, r⟩
theorem AF_copy {α : Type} {cc : α → Value} {n k : Nat} {F G : Nat → α} (h : k ≤ n) : (AF cc k G).take 0 ++ ((AF cc n F).drop 0).take k ++ (AF cc k G).drop (0 + k) = AF cc k F := by
  have e1 : (AF cc k G).drop (0 + k) = [] := by rw [Nat.zero_add]; exact List.drop_eq_nil_of_le (by rw [AF_len]; exact Nat.le_refl _)
  rw [e1, List.append_nil, List.take_zero, List.nil_append, List.drop_zero]
  apply List.ext_getElem?
  intro i
  rw [List.getElem?_take]
  by_cases hi : i < k
  · rw [if_pos hi, AF_at (by omega), AF_at hi]
  · rw [if_neg hi, AF_out hi]
end Copy
end Jvm.OwnW
namespace Jvm.OwnW
open Sem ClassFile Op Lib Jvm.Stand Jvm.Free Jvm.LawKit Jvm.RoadKit
section Inst
variable {X : Cx} {l : Launch} {Z : State} {R : Room} {y : MethodName} {code : ByteArray} {maxL : Nat} {ret : Option FieldType} {rc rs : Nat} {Q : Option Value → OS → Prop} {pc : Nat} {L : List Slot} {S : List Value} {os os' : OS} {ce sl : Nat} {a0 : Array Value}
theorem W.instY {a : Addr} {C : String} {idx : Nat} (K : Ctx X l Z R y code maxL ret) (pc' : Nat) (hd : decode code pc = .ok (.instanceof idx, 3)) (w : (Jvm.Cond.classLink y.cls idx C).before a0 Z = true) (hE : ∀ h, Hp Z h os → Exa Z h a C) (k : WP X Z rc rs Q pc' L (.int 1 :: S) os ce sl) (hp : pc + 3 = pc' := by rfl) : WP X Z rc rs Q pc L (.ref a :: S) os ce sl := by
  obtain ⟨p, l', e, R', s, m, args, below, meth, c⟩ := X
  obtain ⟨h1, h2, hx, hZ, hby, hml, hown, hnm, hret, hlk⟩ := K
  subst hp
  intro T locs hT0 hH hF
  have hT : Stand p l' e R' s m args below meth c T locs ce sl := hT0
  obtain ⟨T', X', e', st'⟩ := RoadKit.instY hT hx hZ hown w rfl (Ins.self (hE _ hH)) (g := mkF m pc L.toArray (.ref a :: S)) rfl rfl (hb hby hd)
  obtain ⟨s2, o, st, r⟩ := k T' locs X' (by rw [e']; exact hH) hF
  exact ⟨s2, o, st' _ st, r⟩
theorem W.castY {a : Addr} {C : String} {idx : Nat} (K : Ctx X l Z R y code maxL ret) (pc' : Nat) (hd : decode code pc = .ok (.checkcast idx, 3)) (w : (Jvm.Cond.classLink y.cls idx C).before a0 Z = true) (hE : ∀ h, Hp Z h os → Exa Z h a C) (k : WP X Z rc rs Q pc' L (.ref a :: S) os ce sl) (hp : pc + 3 = pc' := by rfl) : WP X Z rc rs Q pc L (.ref a :: S) os ce sl := by
  obtain ⟨p, l', e, R', s, m, args, below, meth, c⟩ := X
  obtain ⟨h1, h2, hx, hZ, hby, hml, hown, hnm, hret, hlk⟩ := K
  subst hp
  intro T locs hT0 hH hF
  have hT : Stand p l' e R' s m args below meth c T locs ce sl := hT0
  obtain ⟨T', X', e', st'⟩ := RoadKit.castY hT hx hZ hown w rfl (Ins.self (hE _ hH)) (g := mkF m pc L.toArray (.ref a :: S)) rfl rfl (hb hby hd)
  obtain ⟨s2, o, st, r⟩ := k T' locs X' (by rw [e']; exact hH) hF
  exact ⟨s2, o, st' _ st, r⟩
theorem W.instNo {a : Addr} {C C' : String} {idx : Nat} (K : Ctx X l Z R y code maxL ret) (pc' : Nat) (hd : decode code pc = .ok (.instanceof idx, 3)) (w : (Jvm.Cond.classLink y.cls idx C').before a0 Z = true) (hE : ∀ h, Hp Z h os → Exa Z h a C) (hN : ∃ c t, Z.vm.findClass C = some c ∧ Z.vm.findClass C' = some t ∧ Z.vm.assignable c t = false) (k : WP X Z rc rs Q pc' L (.int 0 :: S) os ce sl) (hp : pc + 3 = pc' := by rfl) : WP X Z rc rs Q pc L (.ref a :: S) os ce sl := by
  obtain ⟨p, l', e, R', s, m, args, below, meth, c⟩ := X
  obtain ⟨h1, h2, hx, hZ, hby, hml, hown, hnm, hret, hlk⟩ := K
  subst hp
  intro T locs hT0 hH hF
  have hT : Stand p l' e R' s m args below meth c T locs ce sl := hT0
  obtain ⟨T', X', e', st'⟩ := RoadKit.instNo hT hx hZ hown w rfl (hE _ hH) hN (g := mkF m pc L.toArray (.ref a :: S)) rfl rfl (hb hby hd)
  obtain ⟨s2, o, st, r⟩ := k T' locs X' (by rw [e']; exact hH) hF
  exact ⟨s2, o, st' _ st, r⟩
theorem W.instNull {idx : Nat} (K : Ctx X l Z R y code maxL ret) (pc' : Nat) (hd : decode code pc = .ok (.instanceof idx, 3)) (k : WP X Z rc rs Q pc' L (.int 0 :: S) os ce sl) (hp : pc + 3 = pc' := by rfl) : WP X Z rc rs Q pc L (.null :: S) os ce sl := by
  obtain ⟨p, l', e, R', s, m, args, below, meth, c⟩ := X
  obtain ⟨h1, h2, hx, hZ, hby, hml, hown, hnm, hret, hlk⟩ := K
  subst hp
  intro T locs hT0 hH hF
  have hT : Stand p l' e R' s m args below meth c T locs ce sl := hT0
  obtain ⟨s2, o, st, r⟩ := k T locs hT hH hF
  exact ⟨s2, o, Jvm.Stand.instanceofNull hT hx (g := mkF m pc L.toArray (.null :: S)) rfl rfl (hb hby hd) _ st, r⟩
theorem W.aaloadO {a : Addr} {cl : Cell} {ty : FieldType} {j : Int32} {v : Value} (i : Nat) (K : Ctx X l Z R y code maxL ret) (pc' : Nat) (hd : decode code pc = .ok (.aaload, 1)) (A : Arr Z Z.heap a cl ty) (hty : ty.isReference = true) (hj : j.toInt = (i : Int)) (hv : cl.slots[i]? = some v) (k : WP X Z rc rs Q pc' L (v :: S) os ce sl) (hp : pc + 1 = pc' := by rfl) : WP X Z rc rs Q pc L (.int j :: .ref a :: S) os ce sl := by
  obtain ⟨p, l', e, R', s, m, args, below, meth, c⟩ := X
  obtain ⟨h1, h2, hx, hZ, hby, hml, hown, hnm, hret, hlk⟩ := K
  subst hp
  intro T locs hT0 hH hF
  have hT : Stand p l' e R' s m args below meth c T locs ce sl := hT0
  obtain ⟨s2, o, st, r⟩ := k T locs hT hH hF
  have A' := A.ext hH.1
  have e2 : j.toNatClampNeg = i := by show j.toInt.toNat = i; rw [hj]; rfl
  have hlt := (Array.getElem?_eq_some_iff.mp hv).1
  have e1 : ¬ (j < 0 ∨ cl.slots.size ≤ j.toNatClampNeg) := by
    rw [Int32.lt_iff_toInt_lt, e2, hj]
    intro q
    rcases q with q | q
    · exact absurd q (Int.not_lt.mpr (Int.natCast_nonneg i))
    · omega
  exact ⟨s2, o, Stand.aaload hT hx A'.1 (State.isArrayOf_alike hZ.alike A'.2.1) hty A'.2.2 e1 (by rw [e2]; exact hv) (g := mkF m pc L.toArray (.int j :: .ref a :: S)) rfl rfl (hb hby hd) _ st, r⟩
end Inst
end Jvm.OwnW
namespace Jvm.Pilot.@@N@@
open Jvm Jvm.ClassFile Sem Op Lib Jvm.Free Jvm.Stand Jvm.LawKit Jvm.RoadKit Bundle Jvm.OwnW Jvm.Pilot.@@N@@.Jvm.D

theorem pn_0 : plainFor x = true := plainFor_of_name (show plainName "com/example/usage_to_ledger/usagetoledger/verify/Scalar25519IsCanonicalPinLaw" = true by first | (simp [plainName, overriddenIn]; done) | decide +kernel)
theorem pd_0 : parseMethodDescriptor "(JJJJII)Z" = some ⟨[.long, .long, .long, .long, .int, .int], some .boolean⟩ := by decide +kernel
theorem d1_0 : decode method_3_code 0 = .ok (.iload 4, 2) := by decide +kernel
theorem d1_2 : decode method_3_code 2 = .ok (.iconst 3, 1) := by decide +kernel
theorem d1_3 : decode method_3_code 3 = .ok (.iand, 1) := by decide +kernel
theorem d1_4 : decode method_3_code 4 = .ok (.istore 5, 2) := by decide +kernel
theorem d1_6 : decode method_3_code 6 = .ok (.iload 5, 2) := by decide +kernel
theorem d1_8 : decode method_3_code 8 = .ok (.ifCond .ne 5, 3) := by decide +kernel
theorem d1_11 : decode method_3_code 11 = .ok (.lload_n 0, 1) := by decide +kernel
theorem d1_12 : decode method_3_code 12 = .ok (.lreturn, 1) := by decide +kernel
theorem d1_13 : decode method_3_code 13 = .ok (.iload 5, 2) := by decide +kernel
theorem d1_15 : decode method_3_code 15 = .ok (.iconst 1, 1) := by decide +kernel
theorem d1_16 : decode method_3_code 16 = .ok (.if_icmp .ne 14, 3) := by decide +kernel
theorem d1_19 : decode method_3_code 19 = .ok (.lload_n 0, 1) := by decide +kernel
theorem d1_20 : decode method_3_code 20 = .ok (.lconst 1, 1) := by decide +kernel
theorem d1_21 : decode method_3_code 21 = .ok (.lload_n 2, 1) := by decide +kernel
theorem d1_22 : decode method_3_code 22 = .ok (.ldc2_w 35, 3) := by decide +kernel
theorem d1_25 : decode method_3_code 25 = .ok (.land, 1) := by decide +kernel
theorem d1_26 : decode method_3_code 26 = .ok (.l2i, 1) := by decide +kernel
theorem d1_27 : decode method_3_code 27 = .ok (.lshl, 1) := by decide +kernel
theorem d1_28 : decode method_3_code 28 = .ok (.lxor, 1) := by decide +kernel
theorem d1_29 : decode method_3_code 29 = .ok (.lreturn, 1) := by decide +kernel
theorem d1_30 : decode method_3_code 30 = .ok (.iload 5, 2) := by decide +kernel
theorem d1_32 : decode method_3_code 32 = .ok (.iconst 2, 1) := by decide +kernel
theorem d1_33 : decode method_3_code 33 = .ok (.if_icmp .ne 10, 3) := by decide +kernel
theorem d1_36 : decode method_3_code 36 = .ok (.lload_n 0, 1) := by decide +kernel
theorem d1_37 : decode method_3_code 37 = .ok (.lload_n 2, 1) := by decide +kernel
theorem d1_38 : decode method_3_code 38 = .ok (.bipush 56, 2) := by decide +kernel
theorem d1_40 : decode method_3_code 40 = .ok (.lshr, 1) := by decide +kernel
theorem d1_41 : decode method_3_code 41 = .ok (.ladd, 1) := by decide +kernel
theorem d1_42 : decode method_3_code 42 = .ok (.lreturn, 1) := by decide +kernel
theorem d1_43 : decode method_3_code 43 = .ok (.lload_n 2, 1) := by decide +kernel
theorem d1_44 : decode method_3_code 44 = .ok (.lreturn, 1) := by decide +kernel
theorem pn_1 : plainFor (⟨"com/example/usage_to_ledger/usagetoledger/verify/Scalar25519IsCanonicalPinLaw", "pick", "(JJI)J"⟩ : MethodName) = true := plainFor_of_name (show plainName "com/example/usage_to_ledger/usagetoledger/verify/Scalar25519IsCanonicalPinLaw" = true by first | (simp [plainName, overriddenIn]; done) | decide +kernel)
theorem pd_1 : parseMethodDescriptor "(JJI)J" = some ⟨[.long, .long, .int], some .long⟩ := by decide +kernel
theorem d2_0 : decode method_5_code 0 = .ok (.aload_n 0, 1) := by decide +kernel
theorem d2_1 : decode method_5_code 1 = .ok (.iload_n 1, 1) := by decide +kernel
theorem d2_2 : decode method_5_code 2 = .ok (.lload_n 2, 1) := by decide +kernel
theorem d2_3 : decode method_5_code 3 = .ok (.l2i, 1) := by decide +kernel
theorem d2_4 : decode method_5_code 4 = .ok (.i2b, 1) := by decide +kernel
theorem d2_5 : decode method_5_code 5 = .ok (.bastore, 1) := by decide +kernel
theorem d2_6 : decode method_5_code 6 = .ok (.aload_n 0, 1) := by decide +kernel
theorem d2_7 : decode method_5_code 7 = .ok (.iload_n 1, 1) := by decide +kernel
theorem d2_8 : decode method_5_code 8 = .ok (.iconst 1, 1) := by decide +kernel
theorem d2_9 : decode method_5_code 9 = .ok (.iadd, 1) := by decide +kernel
theorem d2_10 : decode method_5_code 10 = .ok (.lload_n 2, 1) := by decide +kernel
theorem d2_11 : decode method_5_code 11 = .ok (.bipush 8, 2) := by decide +kernel
theorem d2_13 : decode method_5_code 13 = .ok (.lushr, 1) := by decide +kernel
theorem d2_14 : decode method_5_code 14 = .ok (.l2i, 1) := by decide +kernel
theorem d2_15 : decode method_5_code 15 = .ok (.i2b, 1) := by decide +kernel
theorem d2_16 : decode method_5_code 16 = .ok (.bastore, 1) := by decide +kernel
theorem d2_17 : decode method_5_code 17 = .ok (.aload_n 0, 1) := by decide +kernel
theorem d2_18 : decode method_5_code 18 = .ok (.iload_n 1, 1) := by decide +kernel
theorem d2_19 : decode method_5_code 19 = .ok (.iconst 2, 1) := by decide +kernel
theorem d2_20 : decode method_5_code 20 = .ok (.iadd, 1) := by decide +kernel
theorem d2_21 : decode method_5_code 21 = .ok (.lload_n 2, 1) := by decide +kernel
theorem d2_22 : decode method_5_code 22 = .ok (.bipush 16, 2) := by decide +kernel
theorem d2_24 : decode method_5_code 24 = .ok (.lushr, 1) := by decide +kernel
theorem d2_25 : decode method_5_code 25 = .ok (.l2i, 1) := by decide +kernel
theorem d2_26 : decode method_5_code 26 = .ok (.i2b, 1) := by decide +kernel
theorem d2_27 : decode method_5_code 27 = .ok (.bastore, 1) := by decide +kernel
theorem d2_28 : decode method_5_code 28 = .ok (.aload_n 0, 1) := by decide +kernel
theorem d2_29 : decode method_5_code 29 = .ok (.iload_n 1, 1) := by decide +kernel
theorem d2_30 : decode method_5_code 30 = .ok (.iconst 3, 1) := by decide +kernel
theorem d2_31 : decode method_5_code 31 = .ok (.iadd, 1) := by decide +kernel
theorem d2_32 : decode method_5_code 32 = .ok (.lload_n 2, 1) := by decide +kernel
theorem d2_33 : decode method_5_code 33 = .ok (.bipush 24, 2) := by decide +kernel
theorem d2_35 : decode method_5_code 35 = .ok (.lushr, 1) := by decide +kernel
theorem d2_36 : decode method_5_code 36 = .ok (.l2i, 1) := by decide +kernel
theorem d2_37 : decode method_5_code 37 = .ok (.i2b, 1) := by decide +kernel
theorem d2_38 : decode method_5_code 38 = .ok (.bastore, 1) := by decide +kernel
theorem d2_39 : decode method_5_code 39 = .ok (.aload_n 0, 1) := by decide +kernel
theorem d2_40 : decode method_5_code 40 = .ok (.iload_n 1, 1) := by decide +kernel
theorem d2_41 : decode method_5_code 41 = .ok (.iconst 4, 1) := by decide +kernel
theorem d2_42 : decode method_5_code 42 = .ok (.iadd, 1) := by decide +kernel
theorem d2_43 : decode method_5_code 43 = .ok (.lload_n 2, 1) := by decide +kernel
theorem d2_44 : decode method_5_code 44 = .ok (.bipush 32, 2) := by decide +kernel
theorem d2_46 : decode method_5_code 46 = .ok (.lushr, 1) := by decide +kernel
theorem d2_47 : decode method_5_code 47 = .ok (.l2i, 1) := by decide +kernel
theorem d2_48 : decode method_5_code 48 = .ok (.i2b, 1) := by decide +kernel
theorem d2_49 : decode method_5_code 49 = .ok (.bastore, 1) := by decide +kernel
theorem d2_50 : decode method_5_code 50 = .ok (.aload_n 0, 1) := by decide +kernel
theorem d2_51 : decode method_5_code 51 = .ok (.iload_n 1, 1) := by decide +kernel
theorem d2_52 : decode method_5_code 52 = .ok (.iconst 5, 1) := by decide +kernel
theorem d2_53 : decode method_5_code 53 = .ok (.iadd, 1) := by decide +kernel
theorem d2_54 : decode method_5_code 54 = .ok (.lload_n 2, 1) := by decide +kernel
theorem d2_55 : decode method_5_code 55 = .ok (.bipush 40, 2) := by decide +kernel
theorem d2_57 : decode method_5_code 57 = .ok (.lushr, 1) := by decide +kernel
theorem d2_58 : decode method_5_code 58 = .ok (.l2i, 1) := by decide +kernel
theorem d2_59 : decode method_5_code 59 = .ok (.i2b, 1) := by decide +kernel
theorem d2_60 : decode method_5_code 60 = .ok (.bastore, 1) := by decide +kernel
theorem d2_61 : decode method_5_code 61 = .ok (.aload_n 0, 1) := by decide +kernel
theorem d2_62 : decode method_5_code 62 = .ok (.iload_n 1, 1) := by decide +kernel
theorem d2_63 : decode method_5_code 63 = .ok (.bipush 6, 2) := by decide +kernel
theorem d2_65 : decode method_5_code 65 = .ok (.iadd, 1) := by decide +kernel
theorem d2_66 : decode method_5_code 66 = .ok (.lload_n 2, 1) := by decide +kernel
theorem d2_67 : decode method_5_code 67 = .ok (.bipush 48, 2) := by decide +kernel
theorem d2_69 : decode method_5_code 69 = .ok (.lushr, 1) := by decide +kernel
theorem d2_70 : decode method_5_code 70 = .ok (.l2i, 1) := by decide +kernel
theorem d2_71 : decode method_5_code 71 = .ok (.i2b, 1) := by decide +kernel
theorem d2_72 : decode method_5_code 72 = .ok (.bastore, 1) := by decide +kernel
theorem d2_73 : decode method_5_code 73 = .ok (.aload_n 0, 1) := by decide +kernel
theorem d2_74 : decode method_5_code 74 = .ok (.iload_n 1, 1) := by decide +kernel
theorem d2_75 : decode method_5_code 75 = .ok (.bipush 7, 2) := by decide +kernel
theorem d2_77 : decode method_5_code 77 = .ok (.iadd, 1) := by decide +kernel
theorem d2_78 : decode method_5_code 78 = .ok (.lload_n 2, 1) := by decide +kernel
theorem d2_79 : decode method_5_code 79 = .ok (.bipush 56, 2) := by decide +kernel
theorem d2_81 : decode method_5_code 81 = .ok (.lushr, 1) := by decide +kernel
theorem d2_82 : decode method_5_code 82 = .ok (.l2i, 1) := by decide +kernel
theorem d2_83 : decode method_5_code 83 = .ok (.i2b, 1) := by decide +kernel
theorem d2_84 : decode method_5_code 84 = .ok (.bastore, 1) := by decide +kernel
theorem d2_85 : decode method_5_code 85 = .ok (.return_, 1) := by decide +kernel
theorem pn_2 : plainFor (⟨"com/example/usage_to_ledger/usagetoledger/verify/Scalar25519IsCanonicalPinLaw", "put", "([BIJ)V"⟩ : MethodName) = true := plainFor_of_name (show plainName "com/example/usage_to_ledger/usagetoledger/verify/Scalar25519IsCanonicalPinLaw" = true by first | (simp [plainName, overriddenIn]; done) | decide +kernel)
theorem pd_2 : parseMethodDescriptor "([BIJ)V" = some ⟨[(.array .byte), .int, .long], none⟩ := by decide +kernel
theorem d3_0 : decode method_4_code 0 = .ok (.lload_n 0, 1) := by decide +kernel
theorem d3_1 : decode method_4_code 1 = .ok (.ldc2_w 39, 3) := by decide +kernel
theorem d3_4 : decode method_4_code 4 = .ok (.lxor, 1) := by decide +kernel
theorem d3_5 : decode method_4_code 5 = .ok (.lload_n 2, 1) := by decide +kernel
theorem d3_6 : decode method_4_code 6 = .ok (.ldc2_w 39, 3) := by decide +kernel
theorem d3_9 : decode method_4_code 9 = .ok (.lxor, 1) := by decide +kernel
theorem d3_10 : decode method_4_code 10 = .ok (.lcmp, 1) := by decide +kernel
theorem d3_11 : decode method_4_code 11 = .ok (.ifCond .ge 7, 3) := by decide +kernel
theorem d3_14 : decode method_4_code 14 = .ok (.iconst 1, 1) := by decide +kernel
theorem d3_15 : decode method_4_code 15 = .ok (.goto 4, 3) := by decide +kernel
theorem d3_18 : decode method_4_code 18 = .ok (.iconst 0, 1) := by decide +kernel
theorem d3_19 : decode method_4_code 19 = .ok (.ireturn, 1) := by decide +kernel
theorem pn_3 : plainFor (⟨"com/example/usage_to_ledger/usagetoledger/verify/Scalar25519IsCanonicalPinLaw", "ult", "(JJ)Z"⟩ : MethodName) = true := plainFor_of_name (show plainName "com/example/usage_to_ledger/usagetoledger/verify/Scalar25519IsCanonicalPinLaw" = true by first | (simp [plainName, overriddenIn]; done) | decide +kernel)
theorem pd_3 : parseMethodDescriptor "(JJ)Z" = some ⟨[.long, .long], some .boolean⟩ := by decide +kernel
theorem d4_0 : decode prog_71_method_4_code 0 = .ok (.bipush 31, 2) := by decide +kernel
theorem d4_2 : decode prog_71_method_4_code 2 = .ok (.istore_n 2, 1) := by decide +kernel
theorem d4_3 : decode prog_71_method_4_code 3 = .ok (.iload_n 2, 1) := by decide +kernel
theorem d4_4 : decode prog_71_method_4_code 4 = .ok (.ifCond .lt 48, 3) := by decide +kernel
theorem d4_7 : decode prog_71_method_4_code 7 = .ok (.aload_n 0, 1) := by decide +kernel
theorem d4_8 : decode prog_71_method_4_code 8 = .ok (.iload_n 1, 1) := by decide +kernel
theorem d4_9 : decode prog_71_method_4_code 9 = .ok (.iload_n 2, 1) := by decide +kernel
theorem d4_10 : decode prog_71_method_4_code 10 = .ok (.iadd, 1) := by decide +kernel
theorem d4_11 : decode prog_71_method_4_code 11 = .ok (.baload, 1) := by decide +kernel
theorem d4_12 : decode prog_71_method_4_code 12 = .ok (.sipush 255, 3) := by decide +kernel
theorem d4_15 : decode prog_71_method_4_code 15 = .ok (.iand, 1) := by decide +kernel
theorem d4_16 : decode prog_71_method_4_code 16 = .ok (.istore_n 3, 1) := by decide +kernel
theorem d4_17 : decode prog_71_method_4_code 17 = .ok (.getstatic 17, 3) := by decide +kernel
theorem d4_20 : decode prog_71_method_4_code 20 = .ok (.iload_n 2, 1) := by decide +kernel
theorem d4_21 : decode prog_71_method_4_code 21 = .ok (.baload, 1) := by decide +kernel
theorem d4_22 : decode prog_71_method_4_code 22 = .ok (.sipush 255, 3) := by decide +kernel
theorem d4_25 : decode prog_71_method_4_code 25 = .ok (.iand, 1) := by decide +kernel
theorem d4_26 : decode prog_71_method_4_code 26 = .ok (.istore 4, 2) := by decide +kernel
theorem d4_28 : decode prog_71_method_4_code 28 = .ok (.iload_n 3, 1) := by decide +kernel
theorem d4_29 : decode prog_71_method_4_code 29 = .ok (.iload 4, 2) := by decide +kernel
theorem d4_31 : decode prog_71_method_4_code 31 = .ok (.if_icmp .eq 15, 3) := by decide +kernel
theorem d4_34 : decode prog_71_method_4_code 34 = .ok (.iload_n 3, 1) := by decide +kernel
theorem d4_35 : decode prog_71_method_4_code 35 = .ok (.iload 4, 2) := by decide +kernel
theorem d4_37 : decode prog_71_method_4_code 37 = .ok (.if_icmp .ge 7, 3) := by decide +kernel
theorem d4_40 : decode prog_71_method_4_code 40 = .ok (.iconst 1, 1) := by decide +kernel
theorem d4_41 : decode prog_71_method_4_code 41 = .ok (.goto 4, 3) := by decide +kernel
theorem d4_44 : decode prog_71_method_4_code 44 = .ok (.iconst 0, 1) := by decide +kernel
theorem d4_45 : decode prog_71_method_4_code 45 = .ok (.ireturn, 1) := by decide +kernel
theorem d4_46 : decode prog_71_method_4_code 46 = .ok (.iinc 2 (-1), 3) := by decide +kernel
theorem d4_49 : decode prog_71_method_4_code 49 = .ok (.goto (-46), 3) := by decide +kernel
theorem d4_52 : decode prog_71_method_4_code 52 = .ok (.iconst 0, 1) := by decide +kernel
theorem d4_53 : decode prog_71_method_4_code 53 = .ok (.ireturn, 1) := by decide +kernel
theorem pn_4 : plainFor (⟨"com/example/usage_to_ledger/usagetoledger/verify/Scalar25519", "isCanonical", "([BI)Z"⟩ : MethodName) = true := plainFor_of_name (show plainName "com/example/usage_to_ledger/usagetoledger/verify/Scalar25519" = true by first | (simp [plainName, overriddenIn]; done) | decide +kernel)
theorem pd_4 : parseMethodDescriptor "([BI)Z" = some ⟨[(.array .byte), .int], some .boolean⟩ := by decide +kernel
def own_put (F : Nat → Int32) (k : Nat) (w : Int64) : Nat → Int32 := (updA (updA (updA (updA (updA (updA (updA (updA F k (w.toInt32.toInt8.toInt32).toInt8.toInt32) (k + 1) (((w.toUInt64 >>> ((8 : Int32) &&& 0x3f).toInt64.toUInt64).toInt64).toInt32.toInt8.toInt32).toInt8.toInt32) (k + 2) (((w.toUInt64 >>> ((16 : Int32) &&& 0x3f).toInt64.toUInt64).toInt64).toInt32.toInt8.toInt32).toInt8.toInt32) (k + 3) (((w.toUInt64 >>> ((24 : Int32) &&& 0x3f).toInt64.toUInt64).toInt64).toInt32.toInt8.toInt32).toInt8.toInt32) (k + 4) (((w.toUInt64 >>> ((32 : Int32) &&& 0x3f).toInt64.toUInt64).toInt64).toInt32.toInt8.toInt32).toInt8.toInt32) (k + 5) (((w.toUInt64 >>> ((40 : Int32) &&& 0x3f).toInt64.toUInt64).toInt64).toInt32.toInt8.toInt32).toInt8.toInt32) (k + 6) (((w.toUInt64 >>> ((48 : Int32) &&& 0x3f).toInt64.toUInt64).toInt64).toInt32.toInt8.toInt32).toInt8.toInt32) (k + 7) (((w.toUInt64 >>> ((56 : Int32) &&& 0x3f).toInt64.toUInt64).toInt64).toInt32.toInt8.toInt32).toInt8.toInt32)
def own_u (w : Int64) : Int := w.toInt % 18446744073709551616
def own_by (w : Int64) (r : Nat) : Int := own_u w / (256 ^ r : Nat) % 256
theorem own_by_of (w : Int64) (x : Int32) (r : Nat) (h : (x.toInt - own_u w / (256 ^ r : Nat)) % 4294967296 = 0) : ((x.toInt8.toInt32.toInt8.toInt32) &&& 255).toInt = own_by w r := by
  rw [c_mask _ _ 8 (by decide) (by decide)]
  have h1 := (c_i2b x).1
  have h2 := (c_i2b x.toInt8.toInt32).1
  have h8 : ((2 ^ 8 : Nat) : Int) = 256 := by decide
  rw [h8]
  unfold own_by
  generalize own_u w / (256 ^ r : Nat) = z at h ⊢
  omega
theorem own_sh0 (w : Int64) : (w.toInt32.toInt - own_u w / (256 ^ 0 : Nat)) % 4294967296 = 0 := by
  have h1 := c_l2i w
  unfold own_u
  have h2 : ((256 ^ 0 : Nat) : Int) = 1 := by decide
  rw [h2]; omega
theorem own_sh1 (w : Int64) : ((((w.toUInt64 >>> ((8 : Int32) &&& 0x3f).toInt64.toUInt64).toInt64).toInt32).toInt - own_u w / (256 ^ 1 : Nat)) % 4294967296 = 0 := by
  have h1 := c_l2i ((w.toUInt64 >>> ((8 : Int32) &&& 0x3f).toInt64.toUInt64).toInt64)
  have h2 := c_lushr w 8 8 (by decide) (by decide)
  have h3 : ((256 ^ 1 : Nat) : Int) = ((2 ^ 8 : Nat) : Int) := by decide
  unfold own_u
  rw [h3, ← h2]; exact h1
theorem own_sh2 (w : Int64) : ((((w.toUInt64 >>> ((16 : Int32) &&& 0x3f).toInt64.toUInt64).toInt64).toInt32).toInt - own_u w / (256 ^ 2 : Nat)) % 4294967296 = 0 := by
  have h1 := c_l2i ((w.toUInt64 >>> ((16 : Int32) &&& 0x3f).toInt64.toUInt64).toInt64)
  have h2 := c_lushr w 16 16 (by decide) (by decide)
  have h3 : ((256 ^ 2 : Nat) : Int) = ((2 ^ 16 : Nat) : Int) := by decide
  unfold own_u
  rw [h3, ← h2]; exact h1
theorem own_sh3 (w : Int64) : ((((w.toUInt64 >>> ((24 : Int32) &&& 0x3f).toInt64.toUInt64).toInt64).toInt32).toInt - own_u w / (256 ^ 3 : Nat)) % 4294967296 = 0 := by
  have h1 := c_l2i ((w.toUInt64 >>> ((24 : Int32) &&& 0x3f).toInt64.toUInt64).toInt64)
  have h2 := c_lushr w 24 24 (by decide) (by decide)
  have h3 : ((256 ^ 3 : Nat) : Int) = ((2 ^ 24 : Nat) : Int) := by decide
  unfold own_u
  rw [h3, ← h2]; exact h1
theorem own_sh4 (w : Int64) : ((((w.toUInt64 >>> ((32 : Int32) &&& 0x3f).toInt64.toUInt64).toInt64).toInt32).toInt - own_u w / (256 ^ 4 : Nat)) % 4294967296 = 0 := by
  have h1 := c_l2i ((w.toUInt64 >>> ((32 : Int32) &&& 0x3f).toInt64.toUInt64).toInt64)
  have h2 := c_lushr w 32 32 (by decide) (by decide)
  have h3 : ((256 ^ 4 : Nat) : Int) = ((2 ^ 32 : Nat) : Int) := by decide
  unfold own_u
  rw [h3, ← h2]; exact h1
theorem own_sh5 (w : Int64) : ((((w.toUInt64 >>> ((40 : Int32) &&& 0x3f).toInt64.toUInt64).toInt64).toInt32).toInt - own_u w / (256 ^ 5 : Nat)) % 4294967296 = 0 := by
  have h1 := c_l2i ((w.toUInt64 >>> ((40 : Int32) &&& 0x3f).toInt64.toUInt64).toInt64)
  have h2 := c_lushr w 40 40 (by decide) (by decide)
  have h3 : ((256 ^ 5 : Nat) : Int) = ((2 ^ 40 : Nat) : Int) := by decide
  unfold own_u
  rw [h3, ← h2]; exact h1
theorem own_sh6 (w : Int64) : ((((w.toUInt64 >>> ((48 : Int32) &&& 0x3f).toInt64.toUInt64).toInt64).toInt32).toInt - own_u w / (256 ^ 6 : Nat)) % 4294967296 = 0 := by
  have h1 := c_l2i ((w.toUInt64 >>> ((48 : Int32) &&& 0x3f).toInt64.toUInt64).toInt64)
  have h2 := c_lushr w 48 48 (by decide) (by decide)
  have h3 : ((256 ^ 6 : Nat) : Int) = ((2 ^ 48 : Nat) : Int) := by decide
  unfold own_u
  rw [h3, ← h2]; exact h1
theorem own_sh7 (w : Int64) : ((((w.toUInt64 >>> ((56 : Int32) &&& 0x3f).toInt64.toUInt64).toInt64).toInt32).toInt - own_u w / (256 ^ 7 : Nat)) % 4294967296 = 0 := by
  have h1 := c_l2i ((w.toUInt64 >>> ((56 : Int32) &&& 0x3f).toInt64.toUInt64).toInt64)
  have h2 := c_lushr w 56 56 (by decide) (by decide)
  have h3 : ((256 ^ 7 : Nat) : Int) = ((2 ^ 56 : Nat) : Int) := by decide
  unfold own_u
  rw [h3, ← h2]; exact h1
theorem own_put_out (F : Nat → Int32) (k : Nat) (w : Int64) (i : Nat) (h : i < k ∨ k + 8 ≤ i) : own_put F k w i = F i := by
  unfold own_put
  rw [updA_ne _ _ (by omega), updA_ne _ _ (by omega), updA_ne _ _ (by omega), updA_ne _ _ (by omega), updA_ne _ _ (by omega), updA_ne _ _ (by omega), updA_ne _ _ (by omega), updA_ne _ _ (by omega)]
theorem own_put_in (F : Nat → Int32) (k : Nat) (w : Int64) (r : Nat) (h : r < 8) : ((own_put F k w (k + r)) &&& 255).toInt = own_by w r := by
  unfold own_put
  have hr : r = 0 ∨ r = 1 ∨ r = 2 ∨ r = 3 ∨ r = 4 ∨ r = 5 ∨ r = 6 ∨ r = 7 := by omega
  rcases hr with rfl | rfl | rfl | rfl | rfl | rfl | rfl | rfl
  · rw [updA_ne _ _ (by omega), updA_ne _ _ (by omega), updA_ne _ _ (by omega), updA_ne _ _ (by omega), updA_ne _ _ (by omega), updA_ne _ _ (by omega), updA_ne _ _ (by omega), Nat.add_zero, updA_same, own_by_of w _ 0 (own_sh0 w)]
  · rw [updA_ne _ _ (by omega), updA_ne _ _ (by omega), updA_ne _ _ (by omega), updA_ne _ _ (by omega), updA_ne _ _ (by omega), updA_ne _ _ (by omega), updA_same, own_by_of w _ 1 (own_sh1 w)]
  · rw [updA_ne _ _ (by omega), updA_ne _ _ (by omega), updA_ne _ _ (by omega), updA_ne _ _ (by omega), updA_ne _ _ (by omega), updA_same, own_by_of w _ 2 (own_sh2 w)]
  · rw [updA_ne _ _ (by omega), updA_ne _ _ (by omega), updA_ne _ _ (by omega), updA_ne _ _ (by omega), updA_same, own_by_of w _ 3 (own_sh3 w)]
  · rw [updA_ne _ _ (by omega), updA_ne _ _ (by omega), updA_ne _ _ (by omega), updA_same, own_by_of w _ 4 (own_sh4 w)]
  · rw [updA_ne _ _ (by omega), updA_ne _ _ (by omega), updA_same, own_by_of w _ 5 (own_sh5 w)]
  · rw [updA_ne _ _ (by omega), updA_same, own_by_of w _ 6 (own_sh6 w)]
  · rw [updA_same, own_by_of w _ 7 (own_sh7 w)]
set_option maxRecDepth 65536 in
set_option maxHeartbeats 40000000 in
theorem spec_2 (l : Launch) (Z : State) (a0 : Array Value) (hw : ∀ d ∈ tables_1, d.before a0 Z = true) (a : Addr) (o : Int32) (w : Int64) (F : Nat → Int32) (n k : Nat) (ho : o.toInt = (k : Int)) (hk : k + 8 ≤ n) (hn : n < 1000) (rest : OS) : OMeets l Z (⟨"com/example/usage_to_ledger/usagetoledger/verify/Scalar25519IsCanonicalPinLaw", "put", "([BIJ)V"⟩ : MethodName) method_5_code 4 none ({ frames := 0, cells := 0, slots := 0, locals := 0 } : Room) [(.ref a), (.int o), (.long w)] ((a, ARR Z .byte (AF Value.int n F)) :: rest) (RetN fun os' => os' = (a, ARR Z .byte (AF Value.int n (own_put F k w))) :: rest) := by
  have e1 : (1 : Int32).toInt = 1 := by decide
  have e2 : (2 : Int32).toInt = 2 := by decide
  have e3 : (3 : Int32).toInt = 3 := by decide
  have e4 : (4 : Int32).toInt = 4 := by decide
  have e5 : (5 : Int32).toInt = 5 := by decide
  have e6 : (6 : Int32).toInt = 6 := by decide
  have e7 : (7 : Int32).toInt = 7 := by decide
  have q1 : (o + 1).toInt = ((k + 1 : Nat) : Int) := by rw [toInt_add32 ho e1 (by omega) (by omega)]; omega
  have q2 : (o + 2).toInt = ((k + 2 : Nat) : Int) := by rw [toInt_add32 ho e2 (by omega) (by omega)]; omega
  have q3 : (o + 3).toInt = ((k + 3 : Nat) : Int) := by rw [toInt_add32 ho e3 (by omega) (by omega)]; omega
  have q4 : (o + 4).toInt = ((k + 4 : Nat) : Int) := by rw [toInt_add32 ho e4 (by omega) (by omega)]; omega
  have q5 : (o + 5).toInt = ((k + 5 : Nat) : Int) := by rw [toInt_add32 ho e5 (by omega) (by omega)]; omega
  have q6 : (o + 6).toInt = ((k + 6 : Nat) : Int) := by rw [toInt_add32 ho e6 (by omega) (by omega)]; omega
  have q7 : (o + 7).toInt = ((k + 7 : Nat) : Int) := by rw [toInt_add32 ho e7 (by omega) (by omega)]; omega
  refine OMeets.of_body [.val (.ref a), .val (.int o), .val (.long w), .second] pn_2 (laid_eq _ _ rfl) ?_
  intro X K
  refine W.aloadN K 1 d2_0 0 rfl rfl rfl ?_
  refine W.iloadN K 2 d2_1 1 rfl rfl ?_
  refine W.lloadN K 3 d2_2 2 rfl rfl ?_
  refine W.l2i K 4 d2_3 ?_
  refine W.i2b K 5 d2_4 ?_
  refine W.bastore k K 6 d2_5 (by repeat (first | exact Upd.here | apply Upd.there)) ho (AF_at (by omega)) ?_
  rw [AF_set]
  refine W.aloadN K 7 d2_6 0 rfl rfl rfl ?_
  refine W.iloadN K 8 d2_7 1 rfl rfl ?_
  refine W.iconst K 9 d2_8 (1 : Int32) (by decide) ?_
  refine W.iadd K 10 d2_9 ?_
  refine W.lloadN K 11 d2_10 2 rfl rfl ?_
  refine W.bipush K 13 d2_11 (8 : Int32) (by decide) ?_
  refine W.lushr K 14 d2_13 ?_
  refine W.l2i K 15 d2_14 ?_
  refine W.i2b K 16 d2_15 ?_
  refine W.bastore (k + 1) K 17 d2_16 (by repeat (first | exact Upd.here | apply Upd.there)) q1 (AF_at (by omega)) ?_
  rw [AF_set]
  refine W.aloadN K 18 d2_17 0 rfl rfl rfl ?_
  refine W.iloadN K 19 d2_18 1 rfl rfl ?_
  refine W.iconst K 20 d2_19 (2 : Int32) (by decide) ?_
  refine W.iadd K 21 d2_20 ?_
  refine W.lloadN K 22 d2_21 2 rfl rfl ?_
  refine W.bipush K 24 d2_22 (16 : Int32) (by decide) ?_
  refine W.lushr K 25 d2_24 ?_
  refine W.l2i K 26 d2_25 ?_
  refine W.i2b K 27 d2_26 ?_
  refine W.bastore (k + 2) K 28 d2_27 (by repeat (first | exact Upd.here | apply Upd.there)) q2 (AF_at (by omega)) ?_
  rw [AF_set]
  refine W.aloadN K 29 d2_28 0 rfl rfl rfl ?_
  refine W.iloadN K 30 d2_29 1 rfl rfl ?_
  refine W.iconst K 31 d2_30 (3 : Int32) (by decide) ?_
  refine W.iadd K 32 d2_31 ?_
  refine W.lloadN K 33 d2_32 2 rfl rfl ?_
  refine W.bipush K 35 d2_33 (24 : Int32) (by decide) ?_
  refine W.lushr K 36 d2_35 ?_
  refine W.l2i K 37 d2_36 ?_
  refine W.i2b K 38 d2_37 ?_
  refine W.bastore (k + 3) K 39 d2_38 (by repeat (first | exact Upd.here | apply Upd.there)) q3 (AF_at (by omega)) ?_
  rw [AF_set]
  refine W.aloadN K 40 d2_39 0 rfl rfl rfl ?_
  refine W.iloadN K 41 d2_40 1 rfl rfl ?_
  refine W.iconst K 42 d2_41 (4 : Int32) (by decide) ?_
  refine W.iadd K 43 d2_42 ?_
  refine W.lloadN K 44 d2_43 2 rfl rfl ?_
  refine W.bipush K 46 d2_44 (32 : Int32) (by decide) ?_
  refine W.lushr K 47 d2_46 ?_
  refine W.l2i K 48 d2_47 ?_
  refine W.i2b K 49 d2_48 ?_
  refine W.bastore (k + 4) K 50 d2_49 (by repeat (first | exact Upd.here | apply Upd.there)) q4 (AF_at (by omega)) ?_
  rw [AF_set]
  refine W.aloadN K 51 d2_50 0 rfl rfl rfl ?_
  refine W.iloadN K 52 d2_51 1 rfl rfl ?_
  refine W.iconst K 53 d2_52 (5 : Int32) (by decide) ?_
  refine W.iadd K 54 d2_53 ?_
  refine W.lloadN K 55 d2_54 2 rfl rfl ?_
  refine W.bipush K 57 d2_55 (40 : Int32) (by decide) ?_
  refine W.lushr K 58 d2_57 ?_
  refine W.l2i K 59 d2_58 ?_
  refine W.i2b K 60 d2_59 ?_
  refine W.bastore (k + 5) K 61 d2_60 (by repeat (first | exact Upd.here | apply Upd.there)) q5 (AF_at (by omega)) ?_
  rw [AF_set]
  refine W.aloadN K 62 d2_61 0 rfl rfl rfl ?_
  refine W.iloadN K 63 d2_62 1 rfl rfl ?_
  refine W.bipush K 65 d2_63 (6 : Int32) (by decide) ?_
  refine W.iadd K 66 d2_65 ?_
  refine W.lloadN K 67 d2_66 2 rfl rfl ?_
  refine W.bipush K 69 d2_67 (48 : Int32) (by decide) ?_
  refine W.lushr K 70 d2_69 ?_
  refine W.l2i K 71 d2_70 ?_
  refine W.i2b K 72 d2_71 ?_
  refine W.bastore (k + 6) K 73 d2_72 (by repeat (first | exact Upd.here | apply Upd.there)) q6 (AF_at (by omega)) ?_
  rw [AF_set]
  refine W.aloadN K 74 d2_73 0 rfl rfl rfl ?_
  refine W.iloadN K 75 d2_74 1 rfl rfl ?_
  refine W.bipush K 77 d2_75 (7 : Int32) (by decide) ?_
  refine W.iadd K 78 d2_77 ?_
  refine W.lloadN K 79 d2_78 2 rfl rfl ?_
  refine W.bipush K 81 d2_79 (56 : Int32) (by decide) ?_
  refine W.lushr K 82 d2_81 ?_
  refine W.l2i K 83 d2_82 ?_
  refine W.i2b K 84 d2_83 ?_
  refine W.bastore (k + 7) K 85 d2_84 (by repeat (first | exact Upd.here | apply Upd.there)) q7 (AF_at (by omega)) ?_
  rw [AF_set]
  exact W.return K d2_85 ⟨rfl, rfl⟩
set_option maxRecDepth 65536 in
set_option maxHeartbeats 40000000 in
theorem spec_1 (l : Launch) (Z : State) (a0 : Array Value) (hw : ∀ d ∈ tables_1, d.before a0 Z = true) (p q : Int64) (z : Int32) (os : OS) : OMeets l Z (⟨"com/example/usage_to_ledger/usagetoledger/verify/Scalar25519IsCanonicalPinLaw", "pick", "(JJI)J"⟩ : MethodName) method_3_code 6 (some .long) ({ frames := 0, cells := 0, slots := 0, locals := 0 } : Room) [(.long p), (.long q), (.int z)] os (RetV fun v os' => ∃ w : Int64, v = .long w ∧ os' = os) := by
  refine OMeets.of_body [.val (.long p), .second, .val (.long q), .second, .val (.int z), .unset] pn_1 (laid_eq _ _ rfl) ?_
  intro X K
  refine W.iload K 2 d1_0 rfl ?_
  refine W.iconst K 3 d1_2 (3 : Int32) (by decide) ?_
  refine W.iand K 4 d1_3 ?_
  refine W.istore K 6 d1_4 rfl (by repeat (first | apply setLS | exact setL0)) ?_
  refine W.iload K 8 d1_6 rfl ?_
  refine W.if_ne K 13 11 d1_8 (fun h8 => ?_) (fun h8 => ?_)
  · refine W.iload K 15 d1_13 rfl ?_
    refine W.iconst K 16 d1_15 (1 : Int32) (by decide) ?_
    refine W.icmp_ne K 30 19 d1_16 (fun h16 => ?_) (fun h16 => ?_)
    · refine W.iload K 32 d1_30 rfl ?_
      refine W.iconst K 33 d1_32 (2 : Int32) (by decide) ?_
      refine W.icmp_ne K 43 36 d1_33 (fun h33 => ?_) (fun h33 => ?_)
      · refine W.lloadN K 44 d1_43 2 rfl rfl ?_
        refine W.lreturn K d1_44 ⟨_, rfl, _, rfl, rfl⟩
      · refine W.lloadN K 37 d1_36 0 rfl rfl ?_
        refine W.lloadN K 38 d1_37 2 rfl rfl ?_
        refine W.bipush K 40 d1_38 (56 : Int32) (by decide) ?_
        refine W.lshr K 41 d1_40 ?_
        refine W.ladd K 42 d1_41 ?_
        refine W.lreturn K d1_42 ⟨_, rfl, _, rfl, rfl⟩
    · refine W.lloadN K 20 d1_19 0 rfl rfl ?_
      refine W.lconst K 21 d1_20 (1 : Int64) (by decide) ?_
      refine W.lloadN K 22 d1_21 2 rfl rfl ?_
      refine W.ldc2 K 25 d1_22 (hw _ (List.mem_of_getElem? (i := 22) rfl)) ?_
      refine W.land K 26 d1_25 ?_
      refine W.l2i K 27 d1_26 ?_
      refine W.lshl K 28 d1_27 ?_
      refine W.lxor K 29 d1_28 ?_
      refine W.lreturn K d1_29 ⟨_, rfl, _, rfl, rfl⟩
  · refine W.lloadN K 12 d1_11 0 rfl rfl ?_
    refine W.lreturn K d1_12 ⟨_, rfl, _, rfl, rfl⟩
theorem own_minbit : ∀ i : Fin 64, (-9223372036854775808 : Int64).toBitVec.getLsbD i.1 = decide (i.1 = 63) := by decide +kernel
theorem own_maxbit : ∀ i : Fin 64, (9223372036854775807 : Int64).toBitVec.getLsbD i.1 = !decide (i.1 = 63) := by decide +kernel
theorem own_msb (x : Int64) : x.toBitVec.getLsbD 63 = decide (x.toInt < 0) := by
  have h : x.toBitVec.msb = decide (x.toInt < 0) := by rw [BitVec.msb_eq_toInt]; rfl
  rw [← h, BitVec.msb_eq_getLsbD_last]
theorem own_xor (x : Int64) : (x ^^^ (-9223372036854775808 : Int64)).toInt = own_u x - 9223372036854775808 := by
  have hr := rng64 x
  unfold own_u
  by_cases hx : 0 ≤ x.toInt
  · have e : x ^^^ (-9223372036854775808 : Int64) = (-9223372036854775808 : Int64) ||| x := by
      apply Int64.toBitVec_inj.mp
      apply BitVec.eq_of_getLsbD_eq
      intro i hi
      simp only [Int64.toBitVec_xor, Int64.toBitVec_or, BitVec.getLsbD_xor, BitVec.getLsbD_or]
      rw [own_minbit ⟨i, hi⟩]
      by_cases h63 : i = 63
      · subst h63
        rw [own_msb]
        have : ¬ x.toInt < 0 := by omega
        simp [this]
      · simp [h63]
    rw [e]
    have h := c_orL (-9223372036854775808 : Int64) x 63 (by decide) 9223372036854775808 (by decide) (by decide) hx (by omega)
    have h1 : (-9223372036854775808 : Int64).toInt = -9223372036854775808 := by decide
    rw [h1] at h
    have h2 := rng64 ((-9223372036854775808 : Int64) ||| x)
    omega
  · have e : x ^^^ (-9223372036854775808 : Int64) = x &&& (9223372036854775807 : Int64) := by
      apply Int64.toBitVec_inj.mp
      apply BitVec.eq_of_getLsbD_eq
      intro i hi
      simp only [Int64.toBitVec_xor, Int64.toBitVec_and, BitVec.getLsbD_xor, BitVec.getLsbD_and]
      rw [own_minbit ⟨i, hi⟩, own_maxbit ⟨i, hi⟩]
      by_cases h63 : i = 63
      · subst h63
        rw [own_msb]
        have : x.toInt < 0 := by omega
        simp [this]
      · simp [h63]
    rw [e, c_maskL _ _ 63 (by decide) (by decide)]
    have h3 : ((2 ^ 63 : Nat) : Int) = 9223372036854775808 := by decide
    rw [h3]
    omega
set_option maxRecDepth 65536 in
set_option maxHeartbeats 40000000 in
theorem spec_3 (l : Launch) (Z : State) (a0 : Array Value) (hw : ∀ d ∈ tables_1, d.before a0 Z = true) (p q : Int64) (os : OS) : OMeets l Z (⟨"com/example/usage_to_ledger/usagetoledger/verify/Scalar25519IsCanonicalPinLaw", "ult", "(JJ)Z"⟩ : MethodName) method_4_code 4 (some .boolean) ({ frames := 0, cells := 0, slots := 0, locals := 0 } : Room) [(.long p), (.long q)] os (RetV fun v os' => v = .int (if own_u p < own_u q then 1 else 0) ∧ os' = os) := by
  have h1 := own_xor p
  have h2 := own_xor q
  refine OMeets.of_body [.val (.long p), .second, .val (.long q), .second] pn_3 (laid_eq _ _ rfl) ?_
  intro X K
  refine W.lloadN K 1 d3_0 0 rfl rfl ?_
  refine W.ldc2 K 4 d3_1 (hw _ (List.mem_of_getElem? (i := 15) rfl)) ?_
  refine W.lxor K 5 d3_4 ?_
  refine W.lloadN K 6 d3_5 2 rfl rfl ?_
  refine W.ldc2 K 9 d3_6 (hw _ (List.mem_of_getElem? (i := 15) rfl)) ?_
  refine W.lxor K 10 d3_9 ?_
  refine W.lcmp_ge K 11 18 14 d3_10 d3_11 (fun h11 => ?_) (fun h11 => ?_)
  · refine W.iconst K 19 d3_18 (0 : Int32) (by decide) ?_
    refine W.zreturn K d3_19 (Or.inl rfl) ⟨_, rfl, ?_, rfl⟩
    rw [if_neg (by omega)]
  · refine W.iconst K 15 d3_14 (1 : Int32) (by decide) ?_
    refine W.goto K 19 d3_15 ?_
    refine W.zreturn K d3_19 (Or.inr rfl) ⟨_, rfl, ?_, rfl⟩
    rw [if_pos (by omega)]
def own_lex (A B : Nat → Int) : Nat → Bool
  | 0 => false
  | m + 1 => if A m = B m then own_lex A B m else decide (A m < B m)
theorem own_lexS (A B : Nat → Int) (m : Nat) : own_lex A B (m + 1) = if A m = B m then own_lex A B m else decide (A m < B m) := rfl
set_option maxRecDepth 65536 in
set_option maxHeartbeats 40000000 in
theorem spec_4 (l : Launch) (Z : State) (a0 : Array Value) (hw : ∀ d ∈ tables_1, d.before a0 Z = true) (a : Addr) (o : Int32) (F : Nat → Int32) (k : Nat) (ho : o.toInt = (k : Int)) (hk : k ≤ 8) (aL : Addr) (cl : Cell) (SL : Sta Z Z.heap "com/example/usage_to_ledger/usagetoledger/verify/Scalar25519" "L_BYTES" "[B" (.ref aL)) (AL : Arr Z Z.heap aL cl .byte) (G : Nat → Int32) (HG : ∀ i, i < 32 → cl.slots[i]? = some (.int (G i))) (os : OS) (hm : (a, ARR Z .byte (AF Value.int 40 F)) ∈ os) : OMeets l Z (⟨"com/example/usage_to_ledger/usagetoledger/verify/Scalar25519", "isCanonical", "([BI)Z"⟩ : MethodName) prog_71_method_4_code 5 (some .boolean) ({ frames := 0, cells := 0, slots := 0, locals := 0 } : Room) [(.ref a), (.int o)] os (RetV fun v os' => v = .int (if own_lex (fun i => ((F (k + i)) &&& 255).toInt) (fun i => ((G i) &&& 255).toInt) 32 then 1 else 0) ∧ os' = os) := by
  refine OMeets.of_body [.val (.ref a), .val (.int o), .unset, .unset, .unset] pn_4 (laid_eq _ _ rfl) ?_
  intro X K
  obtain ⟨A, hA⟩ : ∃ A : Nat → Int, A = fun i => ((F (k + i)) &&& 255).toInt := ⟨_, rfl⟩
  obtain ⟨C, hC⟩ : ∃ C : Nat → Int, C = fun i => ((G i) &&& 255).toInt := ⟨_, rfl⟩
  rw [← hA, ← hC]
  have en : (-1 : Int32).toInt = -1 := by decide
  obtain ⟨Lx, hLx⟩ : ∃ b, b = own_lex A C 32 := ⟨_, rfl⟩
  rw [← hLx]
  have loop : ∀ (m : Nat) (i : Int32) (s3 s4 : Slot), i.toInt = (m : Int) - 1 → m ≤ 32 → okS s3 = true → okS s4 = true → Lx = own_lex A C m → WP X Z 0 0 (RetV fun v os' => v = .int (if Lx then 1 else 0) ∧ os' = os) 3 [.val (.ref a), .val (.int o), .val (.int i), s3, s4] [] os 0 0 := by
    intro m
    induction m with
    | zero =>
      intro i s3 s4 hi hm0 g3 g4 hl
      have hl0 : Lx = false := hl
      refine W.iloadN K 4 d4_3 2 rfl rfl ?_
      refine W.if_lt K 52 7 d4_4 (fun h4 => ?_) (fun h4 => False.elim (by omega))
      refine W.iconst K 53 d4_52 (0 : Int32) (by decide) ?_
      refine W.zreturn K d4_53 (Or.inl rfl) ⟨_, rfl, by rw [hl0]; rfl, rfl⟩
    | succ m ih =>
      intro i s3 s4 hi hm0 g3 g4 hl
      have hi2 : i.toInt = (m : Int) := by omega
      have hoi : (o + i).toInt = ((k + m : Nat) : Int) := by rw [toInt_add32 ho hi2 (by omega) (by omega)]; omega
      rw [own_lexS] at hl
      refine W.iloadN K 4 d4_3 2 rfl rfl ?_
      refine W.if_lt K 52 7 d4_4 (fun h4 => False.elim (by omega)) (fun h4 => ?_)
      refine W.aloadN K 8 d4_7 0 rfl rfl rfl ?_
      refine W.iloadN K 9 d4_8 1 rfl rfl ?_
      refine W.iloadN K 10 d4_9 2 rfl rfl ?_
      refine W.iadd K 11 d4_10 ?_
      refine W.baload (k + m) K 12 d4_11 hm hoi (AF_at (by omega)) ?_
      refine W.sipush K 15 d4_12 (255 : Int32) (by decide) ?_
      refine W.iand K 16 d4_15 ?_
      refine W.istoreN K 17 d4_16 3 rfl (congrArg some g3) (by repeat (first | apply setLS | exact setL0)) ?_
      refine W.getS K 20 d4_17 (hw _ (List.mem_of_getElem? (i := 20) rfl)) SL ?_
      refine W.iloadN K 21 d4_20 2 rfl rfl ?_
      refine W.baloadO m K 22 d4_21 AL hi2 (HG m (by omega)) ?_
      refine W.sipush K 25 d4_22 (255 : Int32) (by decide) ?_
      refine W.iand K 26 d4_25 ?_
      refine W.istore K 28 d4_26 (congrArg some g4) (by repeat (first | apply setLS | exact setL0)) ?_
      refine W.iloadN K 29 d4_28 3 rfl rfl ?_
      refine W.iload K 31 d4_29 rfl ?_
      refine W.icmp_eq K 46 34 d4_31 (fun h31 => ?_) (fun h31 => ?_)
      · have hAC : A m = C m := by rw [hA, hC]; exact congrArg Int32.toInt h31
        rw [if_pos hAC] at hl
        refine W.iinc K 49 d4_46 (-1 : Int32) (by decide) rfl (by repeat (first | apply setLS | exact setL0)) ?_
        refine W.goto K 3 d4_49 ?_
        exact ih _ _ _ (by rw [toInt_add32 hi2 en (by omega) (by omega)]; omega) (by omega) rfl rfl hl
      · have hAC : ¬ A m = C m := by rw [hA, hC]; exact fun q => h31 (Int32.toInt_inj.mp q)
        rw [if_neg hAC] at hl
        refine W.iloadN K 35 d4_34 3 rfl rfl ?_
        refine W.iload K 37 d4_35 rfl ?_
        refine W.icmp_ge K 44 40 d4_37 (fun h37 => ?_) (fun h37 => ?_)
        · have hl2 : Lx = false := by rw [hl]; exact decide_eq_false (by rw [hA, hC]; exact h37)
          refine W.iconst K 45 d4_44 (0 : Int32) (by decide) ?_
          refine W.zreturn K d4_45 (Or.inl rfl) ⟨_, rfl, ?_, rfl⟩
          rw [hl2]; rfl
        · have hl2 : Lx = true := by rw [hl]; exact decide_eq_true (by rw [hA, hC]; exact h37)
          refine W.iconst K 41 d4_40 (1 : Int32) (by decide) ?_
          refine W.goto K 45 d4_41 ?_
          refine W.zreturn K d4_45 (Or.inr rfl) ⟨_, rfl, ?_, rfl⟩
          rw [hl2]; rfl
  refine W.bipush K 2 d4_0 (31 : Int32) (by decide) ?_
  refine W.istoreN K 3 d4_2 2 rfl rfl (by repeat (first | apply setLS | exact setL0)) ?_
  exact loop 32 31 .unset .unset (by decide) (by omega) rfl rfl hLx
theorem own_sum (w : Int64) : own_u w = own_by w 0 + 256 * own_by w 1 + 65536 * own_by w 2 + 16777216 * own_by w 3 + 4294967296 * own_by w 4 + 1099511627776 * own_by w 5 + 281474976710656 * own_by w 6 + 72057594037927936 * own_by w 7 := by
  have h : 0 ≤ own_u w ∧ own_u w < 18446744073709551616 := by unfold own_u; omega
  have p0 : ((256 ^ 0 : Nat) : Int) = 1 := by decide
  have p1 : ((256 ^ 1 : Nat) : Int) = 256 := by decide
  have p2 : ((256 ^ 2 : Nat) : Int) = 65536 := by decide
  have p3 : ((256 ^ 3 : Nat) : Int) = 16777216 := by decide
  have p4 : ((256 ^ 4 : Nat) : Int) = 4294967296 := by decide
  have p5 : ((256 ^ 5 : Nat) : Int) = 1099511627776 := by decide
  have p6 : ((256 ^ 6 : Nat) : Int) = 281474976710656 := by decide
  have p7 : ((256 ^ 7 : Nat) : Int) = 72057594037927936 := by decide
  unfold own_by
  rw [p0, p1, p2, p3, p4, p5, p6, p7]
  omega
theorem own_by_rng (w : Int64) (r : Nat) : 0 ≤ own_by w r ∧ own_by w r < 256 := by unfold own_by; omega
theorem own_u_inj {w v : Int64} (h : own_u w = own_u v) : w = v := by
  apply Int64.toInt_inj.mp
  have h1 := rng64 w; have h2 := rng64 v
  unfold own_u at h; omega
theorem own_lex8 (A C : Nat → Int) (m : Nat) (w v : Int64) (hA : ∀ r, r < 8 → A (m + r) = own_by w r) (hC : ∀ r, r < 8 → C (m + r) = own_by v r) :
    own_lex A C (m + 8) = if w = v then own_lex A C m else decide (own_u w < own_u v) := by
  have s1 := own_sum w; have s2 := own_sum v
  have a0 := hA 0 (by omega); have a1 := hA 1 (by omega); have a2 := hA 2 (by omega); have a3 := hA 3 (by omega); have a4 := hA 4 (by omega); have a5 := hA 5 (by omega); have a6 := hA 6 (by omega); have a7 := hA 7 (by omega)
  have c0 := hC 0 (by omega); have c1 := hC 1 (by omega); have c2 := hC 2 (by omega); have c3 := hC 3 (by omega); have c4 := hC 4 (by omega); have c5 := hC 5 (by omega); have c6 := hC 6 (by omega); have c7 := hC 7 (by omega)
  have hlex : own_lex A C (m + 8) = if A (m + 7) = C (m + 7) then (if A (m + 6) = C (m + 6) then (if A (m + 5) = C (m + 5) then (if A (m + 4) = C (m + 4) then (if A (m + 3) = C (m + 3) then (if A (m + 2) = C (m + 2) then (if A (m + 1) = C (m + 1) then (if A (m + 0) = C (m + 0) then own_lex A C m else decide (A (m + 0) < C (m + 0))) else decide (A (m + 1) < C (m + 1))) else decide (A (m + 2) < C (m + 2))) else decide (A (m + 3) < C (m + 3))) else decide (A (m + 4) < C (m + 4))) else decide (A (m + 5) < C (m + 5))) else decide (A (m + 6) < C (m + 6))) else decide (A (m + 7) < C (m + 7)) := rfl
  rw [hlex, a0, a1, a2, a3, a4, a5, a6, a7, c0, c1, c2, c3, c4, c5, c6, c7]
  have b0 := own_by_rng w 0; have b1 := own_by_rng w 1; have b2 := own_by_rng w 2; have b3 := own_by_rng w 3; have b4 := own_by_rng w 4; have b5 := own_by_rng w 5; have b6 := own_by_rng w 6; have b7 := own_by_rng w 7
  have d0 := own_by_rng v 0; have d1 := own_by_rng v 1; have d2 := own_by_rng v 2; have d3 := own_by_rng v 3; have d4 := own_by_rng v 4; have d5 := own_by_rng v 5; have d6 := own_by_rng v 6; have d7 := own_by_rng v 7
  have hwv : w = v ↔ own_u w = own_u v := ⟨fun h => by rw [h], own_u_inj⟩
  generalize own_by w 0 = x0 at *; generalize own_by w 1 = x1 at *; generalize own_by w 2 = x2 at *; generalize own_by w 3 = x3 at *; generalize own_by w 4 = x4 at *; generalize own_by w 5 = x5 at *; generalize own_by w 6 = x6 at *; generalize own_by w 7 = x7 at *
  generalize own_by v 0 = y0 at *; generalize own_by v 1 = y1 at *; generalize own_by v 2 = y2 at *; generalize own_by v 3 = y3 at *; generalize own_by v 4 = y4 at *; generalize own_by v 5 = y5 at *; generalize own_by v 6 = y6 at *; generalize own_by v 7 = y7 at *
  generalize own_u w = u at *; generalize own_u v = t at *
  by_cases h7 : x7 = y7
  · rw [if_pos h7]
    by_cases h6 : x6 = y6
    · rw [if_pos h6]
      by_cases h5 : x5 = y5
      · rw [if_pos h5]
        by_cases h4 : x4 = y4
        · rw [if_pos h4]
          by_cases h3 : x3 = y3
          · rw [if_pos h3]
            by_cases h2 : x2 = y2
            · rw [if_pos h2]
              by_cases h1 : x1 = y1
              · rw [if_pos h1]
                by_cases h0 : x0 = y0
                · rw [if_pos h0, if_pos (hwv.mpr (by omega))]
                · rw [if_neg h0, if_neg (fun q => h0 (by have := hwv.mp q; omega)), decide_eq_decide]; omega
              · rw [if_neg h1, if_neg (fun q => h1 (by have := hwv.mp q; omega)), decide_eq_decide]; omega
            · rw [if_neg h2, if_neg (fun q => h2 (by have := hwv.mp q; omega)), decide_eq_decide]; omega
          · rw [if_neg h3, if_neg (fun q => h3 (by have := hwv.mp q; omega)), decide_eq_decide]; omega
        · rw [if_neg h4, if_neg (fun q => h4 (by have := hwv.mp q; omega)), decide_eq_decide]; omega
      · rw [if_neg h5, if_neg (fun q => h5 (by have := hwv.mp q; omega)), decide_eq_decide]; omega
    · rw [if_neg h6, if_neg (fun q => h6 (by have := hwv.mp q; omega)), decide_eq_decide]; omega
  · rw [if_neg h7, if_neg (fun q => h7 (by have := hwv.mp q; omega)), decide_eq_decide]; omega
def own_L : Nat → Int32
  | 0 => -19
  | 1 => -45
  | 2 => -11
  | 3 => 92
  | 4 => 26
  | 5 => 99
  | 6 => 18
  | 7 => 88
  | 8 => -42
  | 9 => -100
  | 10 => -9
  | 11 => -94
  | 12 => -34
  | 13 => -7
  | 14 => -34
  | 15 => 20
  | 16 => 0
  | 17 => 0
  | 18 => 0
  | 19 => 0
  | 20 => 0
  | 21 => 0
  | 22 => 0
  | 23 => 0
  | 24 => 0
  | 25 => 0
  | 26 => 0
  | 27 => 0
  | 28 => 0
  | 29 => 0
  | 30 => 0
  | 31 => 16
  | _ => 0
theorem own_LB0 : ∀ r : Fin 8, (own_L (0 + r.1) &&& 255).toInt = own_by (6346243789798364141 : Int64) r.1 := by decide +kernel
theorem own_LB1 : ∀ r : Fin 8, (own_L (8 + r.1) &&& 255).toInt = own_by (1503914060200516822 : Int64) r.1 := by decide +kernel
theorem own_LB2 : ∀ r : Fin 8, (own_L (16 + r.1) &&& 255).toInt = own_by (0 : Int64) r.1 := by decide +kernel
theorem own_LB3 : ∀ r : Fin 8, (own_L (24 + r.1) &&& 255).toInt = own_by (1152921504606846976 : Int64) r.1 := by decide +kernel
def own_E (w0 w1 w2 w3 : Int64) : Bool := if ¬ w3 = 1152921504606846976 then decide (own_u w3 < own_u 1152921504606846976) else if ¬ w2 = 0 then decide (own_u w2 < own_u 0) else if ¬ w1 = 1503914060200516822 then decide (own_u w1 < own_u 1503914060200516822) else if ¬ w0 = 6346243789798364141 then decide (own_u w0 < own_u 6346243789798364141) else false
theorem own_fin (F : Nat → Int32) (k : Nat) (w0 w1 w2 w3 : Int64) : own_lex (fun i => ((own_put (own_put (own_put (own_put F k w0) (k + 8) w1) (k + 16) w2) (k + 24) w3 (k + i)) &&& 255).toInt) (fun i => ((own_L i) &&& 255).toInt) 32 = own_E w0 w1 w2 w3 := by
  generalize hA : (fun i => ((own_put (own_put (own_put (own_put F k w0) (k + 8) w1) (k + 16) w2) (k + 24) w3 (k + i)) &&& 255).toInt) = A
  generalize hC : (fun i => ((own_L i) &&& 255).toInt) = C
  have g3 := own_lex8 A C 24 w3 1152921504606846976 (fun r hr => by rw [← hA]; show ((own_put _ (k + 24) w3 (k + (24 + r))) &&& 255).toInt = _; rw [← Nat.add_assoc]; exact own_put_in _ _ _ r hr) (fun r hr => by rw [← hC]; exact own_LB3 ⟨r, hr⟩)
  have g2 := own_lex8 A C 16 w2 0 (fun r hr => by rw [← hA]; show ((own_put (own_put _ (k + 16) w2) (k + 24) w3 (k + (16 + r))) &&& 255).toInt = _; rw [own_put_out _ _ _ _ (by omega), ← Nat.add_assoc]; exact own_put_in _ _ _ r hr) (fun r hr => by rw [← hC]; exact own_LB2 ⟨r, hr⟩)
  have g1 := own_lex8 A C 8 w1 1503914060200516822 (fun r hr => by rw [← hA]; show ((own_put (own_put (own_put _ (k + 8) w1) (k + 16) w2) (k + 24) w3 (k + (8 + r))) &&& 255).toInt = _; rw [own_put_out _ _ _ _ (by omega), own_put_out _ _ _ _ (by omega), ← Nat.add_assoc]; exact own_put_in _ _ _ r hr) (fun r hr => by rw [← hC]; exact own_LB1 ⟨r, hr⟩)
  have g0 := own_lex8 A C 0 w0 6346243789798364141 (fun r hr => by rw [← hA]; show ((own_put (own_put (own_put (own_put _ k w0) (k + 8) w1) (k + 16) w2) (k + 24) w3 (k + (0 + r))) &&& 255).toInt = _; rw [own_put_out _ _ _ _ (by omega), own_put_out _ _ _ _ (by omega), own_put_out _ _ _ _ (by omega), Nat.zero_add]; exact own_put_in _ _ _ r hr) (fun r hr => by rw [← hC]; exact own_LB0 ⟨r, hr⟩)
  rw [g3, g2, g1, g0]
  unfold own_E
  by_cases h3 : w3 = 1152921504606846976
  · by_cases h2 : w2 = 0
    · by_cases h1 : w1 = 1503914060200516822
      · by_cases h0 : w0 = 6346243789798364141
        · simp [h3, h2, h1, h0, own_lex]
        · simp [h3, h2, h1, h0]
      · simp [h3, h2, h1]
    · simp [h3, h2]
  · simp [h3]
set_option maxRecDepth 65536 in
set_option maxHeartbeats 40000000 in
theorem spec_0 (l : Launch) (Z : State) (a0 : Array Value) (hw : ∀ d ∈ tables_1, d.before a0 Z = true) (p0 p1 p2 p3 : Int64) (mo of : Int32) (aL : Addr) (cl : Cell) (SL : Sta Z Z.heap "com/example/usage_to_ledger/usagetoledger/verify/Scalar25519" "L_BYTES" "[B" (.ref aL)) (AL : Arr Z Z.heap aL cl .byte) (HG : ∀ i, i < 32 → cl.slots[i]? = some (.int (own_L i))) : OMeets l Z x code maxLocals ret room_1 [(.long p0), (.long p1), (.long p2), (.long p3), (.int mo), (.int of)] [] (RetV fun v _ => v = .int 1) := by
  have e0 : (0 : Int32).toInt = 0 := by decide
  have e8 : (8 : Int32).toInt = 8 := by decide
  have e16 : (16 : Int32).toInt = 16 := by decide
  have e24 : (24 : Int32).toInt = 24 := by decide
  have e32 : (32 : Int32).toInt = 32 := by decide
  have e40 : (40 : Int32).toInt = 40 := by decide
  refine OMeets.of_body [.val (.long p0), .second, .val (.long p1), .second, .val (.long p2), .second, .val (.long p3), .second, .val (.int mo), .val (.int of), .unset, .unset, .unset, .unset, .unset, .unset, .unset, .unset, .unset, .unset, .unset, .unset, .unset, .unset, .unset, .unset, .unset, .unset, .unset, .unset, .unset] pn_0 (laid_eq _ _ rfl) ?_
  intro X K
  refine W.ldc2 K 3 at_0 (hw _ (List.mem_of_getElem? (i := 0) rfl)) ?_
  refine W.lstore K 5 at_3 (by repeat (first | apply setLS | exact setL0)) (by repeat (first | apply setLS | exact setL0)) ?_
  refine W.ldc2 K 8 at_5 (hw _ (List.mem_of_getElem? (i := 1) rfl)) ?_
  refine W.lstore K 10 at_8 (by repeat (first | apply setLS | exact setL0)) (by repeat (first | apply setLS | exact setL0)) ?_
  refine W.lconst K 11 at_10 (0 : Int64) (by decide) ?_
  refine W.lstore K 13 at_11 (by repeat (first | apply setLS | exact setL0)) (by repeat (first | apply setLS | exact setL0)) ?_
  refine W.ldc2 K 16 at_13 (hw _ (List.mem_of_getElem? (i := 2) rfl)) ?_
  refine W.lstore K 18 at_16 (by repeat (first | apply setLS | exact setL0)) (by repeat (first | apply setLS | exact setL0)) ?_
  refine W.lload K 20 at_18 rfl ?_
  refine W.lloadN K 21 at_20 0 rfl rfl ?_
  refine W.iload K 23 at_21 rfl ?_
  refine W.callSv3 K 26 at_23 (hw _ (List.mem_of_getElem? (i := 3) rfl)) (hw _ (List.mem_of_getElem? (i := 4) rfl)) (hw _ (List.mem_of_getElem? (i := 5) rfl)) (hw _ (List.mem_of_getElem? (i := 6) rfl)) pd_1 (spec_1 l Z a0 hw _ _ _ _) (fun v os1 hq => ?_)
  obtain ⟨w0, rfl, rfl⟩ := hq
  refine W.lstore K 28 at_26 (by repeat (first | apply setLS | exact setL0)) (by repeat (first | apply setLS | exact setL0)) ?_
  refine W.lload K 30 at_28 rfl ?_
  refine W.lloadN K 31 at_30 2 rfl rfl ?_
  refine W.iload K 33 at_31 rfl ?_
  refine W.iconst K 34 at_33 (2 : Int32) (by decide) ?_
  refine W.ishr K 35 at_34 ?_
  refine W.callSv3 K 38 at_35 (hw _ (List.mem_of_getElem? (i := 3) rfl)) (hw _ (List.mem_of_getElem? (i := 4) rfl)) (hw _ (List.mem_of_getElem? (i := 5) rfl)) (hw _ (List.mem_of_getElem? (i := 6) rfl)) pd_1 (spec_1 l Z a0 hw _ _ _ _) (fun v os1 hq => ?_)
  obtain ⟨w1, rfl, rfl⟩ := hq
  refine W.lstore K 40 at_38 (by repeat (first | apply setLS | exact setL0)) (by repeat (first | apply setLS | exact setL0)) ?_
  refine W.lload K 42 at_40 rfl ?_
  refine W.lload K 44 at_42 rfl ?_
  refine W.iload K 46 at_44 rfl ?_
  refine W.iconst K 47 at_46 (4 : Int32) (by decide) ?_
  refine W.ishr K 48 at_47 ?_
  refine W.callSv3 K 51 at_48 (hw _ (List.mem_of_getElem? (i := 3) rfl)) (hw _ (List.mem_of_getElem? (i := 4) rfl)) (hw _ (List.mem_of_getElem? (i := 5) rfl)) (hw _ (List.mem_of_getElem? (i := 6) rfl)) pd_1 (spec_1 l Z a0 hw _ _ _ _) (fun v os1 hq => ?_)
  obtain ⟨w2, rfl, rfl⟩ := hq
  refine W.lstore K 53 at_51 (by repeat (first | apply setLS | exact setL0)) (by repeat (first | apply setLS | exact setL0)) ?_
  refine W.lload K 55 at_53 rfl ?_
  refine W.lload K 57 at_55 rfl ?_
  refine W.iload K 59 at_57 rfl ?_
  refine W.bipush K 61 at_59 (6 : Int32) (by decide) ?_
  refine W.ishr K 62 at_61 ?_
  refine W.callSv3 K 65 at_62 (hw _ (List.mem_of_getElem? (i := 3) rfl)) (hw _ (List.mem_of_getElem? (i := 4) rfl)) (hw _ (List.mem_of_getElem? (i := 5) rfl)) (hw _ (List.mem_of_getElem? (i := 6) rfl)) pd_1 (spec_1 l Z a0 hw _ _ _ _) (fun v os1 hq => ?_)
  obtain ⟨w3, rfl, rfl⟩ := hq
  refine W.lstore K 67 at_65 (by repeat (first | apply setLS | exact setL0)) (by repeat (first | apply setLS | exact setL0)) ?_
  refine W.iload K 69 at_67 rfl ?_
  refine W.bipush K 71 at_69 (7 : Int32) (by decide) ?_
  refine W.iand K 72 at_71 ?_
  have hk7 := c_mask of 7 3 (by decide) (by decide)
  generalize (of &&& 7) = oo at hk7 ⊢
  obtain ⟨k, hk⟩ : ∃ k : Nat, oo.toInt = (k : Int) := ⟨oo.toInt.toNat, by rw [hk7]; omega⟩
  have h23 : ((2 ^ 3 : Nat) : Int) = 8 := by decide
  have hk3 : k ≤ 7 := by rw [h23] at hk7; omega
  have hk8 : (oo + 8).toInt = ((k + 8 : Nat) : Int) := by rw [toInt_add32 hk e8 (by omega) (by omega)]; omega
  have hk16 : (oo + 16).toInt = ((k + 16 : Nat) : Int) := by rw [toInt_add32 hk e16 (by omega) (by omega)]; omega
  have hk24 : (oo + 24).toInt = ((k + 24 : Nat) : Int) := by rw [toInt_add32 hk e24 (by omega) (by omega)]; omega
  refine W.istore K 74 at_72 rfl (by repeat (first | apply setLS | exact setL0)) ?_
  refine W.iload K 76 at_74 rfl ?_
  refine W.i2l K 77 at_76 ?_
  refine W.ldc2 K 80 at_77 (hw _ (List.mem_of_getElem? (i := 7) rfl)) ?_
  refine W.lmul K 81 at_80 ?_
  refine W.iload K 83 at_81 rfl ?_
  refine W.i2l K 84 at_83 ?_
  refine W.lxor K 85 at_84 ?_
  generalize (mo.toInt64 * (-7046029254386353131 : Int64) ^^^ of.toInt64) = junk
  refine W.lstore K 87 at_85 (by repeat (first | apply setLS | exact setL0)) (by repeat (first | apply setLS | exact setL0)) ?_
  refine W.bipush K 89 at_87 (40 : Int32) (by decide) ?_
  refine W.newarray (ty := .byte) 40 40 K 91 at_89 (hw _ (List.mem_of_getElem? (i := 8) rfl)) (by decide) (by decide) (fun ab => ?_)
  rw [AF_repB]
  refine W.astore K 93 at_91 rfl rfl (by repeat (first | apply setLS | exact setL0)) ?_
  refine W.aload K 95 at_93 rfl rfl ?_
  refine W.iconst K 96 at_95 (0 : Int32) (by decide) ?_
  refine W.lload K 98 at_96 rfl ?_
  refine W.callSn3 K 101 at_98 (hw _ (List.mem_of_getElem? (i := 9) rfl)) (hw _ (List.mem_of_getElem? (i := 10) rfl)) (hw _ (List.mem_of_getElem? (i := 5) rfl)) (hw _ (List.mem_of_getElem? (i := 11) rfl)) pd_2 (spec_2 l Z a0 hw _ _ _ _ 40 0 (by decide) (by decide) (by decide) _) (fun os1 hq => ?_)
  obtain rfl := hq
  refine W.aload K 103 at_101 rfl rfl ?_
  refine W.bipush K 105 at_103 (8 : Int32) (by decide) ?_
  refine W.lload K 107 at_105 rfl ?_
  refine W.callSn3 K 110 at_107 (hw _ (List.mem_of_getElem? (i := 9) rfl)) (hw _ (List.mem_of_getElem? (i := 10) rfl)) (hw _ (List.mem_of_getElem? (i := 5) rfl)) (hw _ (List.mem_of_getElem? (i := 11) rfl)) pd_2 (spec_2 l Z a0 hw _ _ _ _ 40 8 (by decide) (by decide) (by decide) _) (fun os1 hq => ?_)
  obtain rfl := hq
  refine W.aload K 112 at_110 rfl rfl ?_
  refine W.bipush K 114 at_112 (16 : Int32) (by decide) ?_
  refine W.lload K 116 at_114 rfl ?_
  refine W.callSn3 K 119 at_116 (hw _ (List.mem_of_getElem? (i := 9) rfl)) (hw _ (List.mem_of_getElem? (i := 10) rfl)) (hw _ (List.mem_of_getElem? (i := 5) rfl)) (hw _ (List.mem_of_getElem? (i := 11) rfl)) pd_2 (spec_2 l Z a0 hw _ _ _ _ 40 16 (by decide) (by decide) (by decide) _) (fun os1 hq => ?_)
  obtain rfl := hq
  refine W.aload K 121 at_119 rfl rfl ?_
  refine W.bipush K 123 at_121 (24 : Int32) (by decide) ?_
  refine W.lload K 125 at_123 rfl ?_
  refine W.callSn3 K 128 at_125 (hw _ (List.mem_of_getElem? (i := 9) rfl)) (hw _ (List.mem_of_getElem? (i := 10) rfl)) (hw _ (List.mem_of_getElem? (i := 5) rfl)) (hw _ (List.mem_of_getElem? (i := 11) rfl)) pd_2 (spec_2 l Z a0 hw _ _ _ _ 40 24 (by decide) (by decide) (by decide) _) (fun os1 hq => ?_)
  obtain rfl := hq
  refine W.aload K 130 at_128 rfl rfl ?_
  refine W.bipush K 132 at_130 (32 : Int32) (by decide) ?_
  refine W.lload K 134 at_132 rfl ?_
  refine W.callSn3 K 137 at_134 (hw _ (List.mem_of_getElem? (i := 9) rfl)) (hw _ (List.mem_of_getElem? (i := 10) rfl)) (hw _ (List.mem_of_getElem? (i := 5) rfl)) (hw _ (List.mem_of_getElem? (i := 11) rfl)) pd_2 (spec_2 l Z a0 hw _ _ _ _ 40 32 (by decide) (by decide) (by decide) _) (fun os1 hq => ?_)
  obtain rfl := hq
  refine W.aload K 139 at_137 rfl rfl ?_
  refine W.iload K 141 at_139 rfl ?_
  refine W.lload K 143 at_141 rfl ?_
  refine W.callSn3 K 146 at_143 (hw _ (List.mem_of_getElem? (i := 9) rfl)) (hw _ (List.mem_of_getElem? (i := 10) rfl)) (hw _ (List.mem_of_getElem? (i := 5) rfl)) (hw _ (List.mem_of_getElem? (i := 11) rfl)) pd_2 (spec_2 l Z a0 hw _ _ _ _ 40 k hk (by omega) (by decide) _) (fun os1 hq => ?_)
  obtain rfl := hq
  refine W.aload K 148 at_146 rfl rfl ?_
  refine W.iload K 150 at_148 rfl ?_
  refine W.bipush K 152 at_150 (8 : Int32) (by decide) ?_
  refine W.iadd K 153 at_152 ?_
  refine W.lload K 155 at_153 rfl ?_
  refine W.callSn3 K 158 at_155 (hw _ (List.mem_of_getElem? (i := 9) rfl)) (hw _ (List.mem_of_getElem? (i := 10) rfl)) (hw _ (List.mem_of_getElem? (i := 5) rfl)) (hw _ (List.mem_of_getElem? (i := 11) rfl)) pd_2 (spec_2 l Z a0 hw _ _ _ _ 40 (k + 8) hk8 (by omega) (by decide) _) (fun os1 hq => ?_)
  obtain rfl := hq
  refine W.aload K 160 at_158 rfl rfl ?_
  refine W.iload K 162 at_160 rfl ?_
  refine W.bipush K 164 at_162 (16 : Int32) (by decide) ?_
  refine W.iadd K 165 at_164 ?_
  refine W.lload K 167 at_165 rfl ?_
  refine W.callSn3 K 170 at_167 (hw _ (List.mem_of_getElem? (i := 9) rfl)) (hw _ (List.mem_of_getElem? (i := 10) rfl)) (hw _ (List.mem_of_getElem? (i := 5) rfl)) (hw _ (List.mem_of_getElem? (i := 11) rfl)) pd_2 (spec_2 l Z a0 hw _ _ _ _ 40 (k + 16) hk16 (by omega) (by decide) _) (fun os1 hq => ?_)
  obtain rfl := hq
  refine W.aload K 172 at_170 rfl rfl ?_
  refine W.iload K 174 at_172 rfl ?_
  refine W.bipush K 176 at_174 (24 : Int32) (by decide) ?_
  refine W.iadd K 177 at_176 ?_
  refine W.lload K 179 at_177 rfl ?_
  refine W.callSn3 K 182 at_179 (hw _ (List.mem_of_getElem? (i := 9) rfl)) (hw _ (List.mem_of_getElem? (i := 10) rfl)) (hw _ (List.mem_of_getElem? (i := 5) rfl)) (hw _ (List.mem_of_getElem? (i := 11) rfl)) pd_2 (spec_2 l Z a0 hw _ _ _ _ 40 (k + 24) hk24 (by omega) (by decide) _) (fun os1 hq => ?_)
  obtain rfl := hq
  refine W.cutI (S := []) (G := fun v => v = if own_E w0 w1 w2 w3 then 1 else 0) 265 30 (fun kk => ?_) (fun v hv => ?_)
  · refine W.lload K 184 at_182 rfl ?_
    refine W.lload K 186 at_184 rfl ?_
    refine W.lcmp_eq K 187 202 190 at_186 at_187 (fun h187 => ?_) (fun h187 => ?_)
    · refine W.lload K 204 at_202 rfl ?_
      refine W.lload K 206 at_204 rfl ?_
      refine W.lcmp_eq K 207 222 210 at_206 at_207 (fun h207 => ?_) (fun h207 => ?_)
      · refine W.lload K 224 at_222 rfl ?_
        refine W.lload K 226 at_224 rfl ?_
        refine W.lcmp_eq K 227 242 230 at_226 at_227 (fun h227 => ?_) (fun h227 => ?_)
        · refine W.lload K 244 at_242 rfl ?_
          refine W.lload K 246 at_244 rfl ?_
          refine W.lcmp_eq K 247 262 250 at_246 at_247 (fun h247 => ?_) (fun h247 => ?_)
          · refine W.iconst K 263 at_262 (0 : Int32) (by decide) ?_
            refine W.istore K 265 at_263 rfl (by repeat (first | apply setLS | exact setL0)) ?_
            exact kk _ (by simp [own_E, h187, h207, h227, h247])
          · refine W.lload K 252 at_250 rfl ?_
            refine W.lload K 254 at_252 rfl ?_
            refine W.callSv2 K 257 at_254 (hw _ (List.mem_of_getElem? (i := 12) rfl)) (hw _ (List.mem_of_getElem? (i := 13) rfl)) (hw _ (List.mem_of_getElem? (i := 5) rfl)) (hw _ (List.mem_of_getElem? (i := 14) rfl)) pd_3 (spec_3 l Z a0 hw _ _ _) (fun v os1 hq => ?_)
            obtain ⟨rfl, rfl⟩ := hq
            refine W.istore K 259 at_257 rfl (by repeat (first | apply setLS | exact setL0)) ?_
            refine W.goto K 265 at_259 ?_
            exact kk _ (by simp [own_E, h187, h207, h227, h247])
        · refine W.lload K 232 at_230 rfl ?_
          refine W.lload K 234 at_232 rfl ?_
          refine W.callSv2 K 237 at_234 (hw _ (List.mem_of_getElem? (i := 12) rfl)) (hw _ (List.mem_of_getElem? (i := 13) rfl)) (hw _ (List.mem_of_getElem? (i := 5) rfl)) (hw _ (List.mem_of_getElem? (i := 14) rfl)) pd_3 (spec_3 l Z a0 hw _ _ _) (fun v os1 hq => ?_)
          obtain ⟨rfl, rfl⟩ := hq
          refine W.istore K 239 at_237 rfl (by repeat (first | apply setLS | exact setL0)) ?_
          refine W.goto K 265 at_239 ?_
          exact kk _ (by simp [own_E, h187, h207, h227])
      · refine W.lload K 212 at_210 rfl ?_
        refine W.lload K 214 at_212 rfl ?_
        refine W.callSv2 K 217 at_214 (hw _ (List.mem_of_getElem? (i := 12) rfl)) (hw _ (List.mem_of_getElem? (i := 13) rfl)) (hw _ (List.mem_of_getElem? (i := 5) rfl)) (hw _ (List.mem_of_getElem? (i := 14) rfl)) pd_3 (spec_3 l Z a0 hw _ _ _) (fun v os1 hq => ?_)
        obtain ⟨rfl, rfl⟩ := hq
        refine W.istore K 219 at_217 rfl (by repeat (first | apply setLS | exact setL0)) ?_
        refine W.goto K 265 at_219 ?_
        exact kk _ (by simp [own_E, h187, h207])
    · refine W.lload K 192 at_190 rfl ?_
      refine W.lload K 194 at_192 rfl ?_
      refine W.callSv2 K 197 at_194 (hw _ (List.mem_of_getElem? (i := 12) rfl)) (hw _ (List.mem_of_getElem? (i := 13) rfl)) (hw _ (List.mem_of_getElem? (i := 5) rfl)) (hw _ (List.mem_of_getElem? (i := 14) rfl)) pd_3 (spec_3 l Z a0 hw _ _ _) (fun v os1 hq => ?_)
      obtain ⟨rfl, rfl⟩ := hq
      refine W.istore K 199 at_197 rfl (by repeat (first | apply setLS | exact setL0)) ?_
      refine W.goto K 265 at_199 ?_
      exact kk _ (by simp [own_E, h187])
  simp only [List.set_cons_succ, List.set_cons_zero]
  refine W.aload K 267 at_265 rfl rfl ?_
  refine W.iload K 269 at_267 rfl ?_
  refine W.callSv2 K 272 at_269 (hw _ (List.mem_of_getElem? (i := 16) rfl)) (hw _ (List.mem_of_getElem? (i := 17) rfl)) (hw _ (List.mem_of_getElem? (i := 18) rfl)) (hw _ (List.mem_of_getElem? (i := 19) rfl)) pd_4 (spec_4 l Z a0 hw _ _ _ k hk (by omega) aL cl SL AL own_L HG _ (by repeat (first | exact List.mem_cons_self | apply List.mem_cons_of_mem))) (fun v os1 hq => ?_)
  obtain ⟨rfl, rfl⟩ := hq
  refine W.iload K 274 at_272 rfl ?_
  refine W.icmp_ne K 281 277 at_274 (fun h274 => False.elim (h274 (by rw [own_fin, ← hv]))) (fun h274 => ?_)
  refine W.iconst K 278 at_277 (1 : Int32) (by decide) ?_
  refine W.goto K 282 at_278 ?_
  refine W.zreturn K at_282 (Or.inr rfl) ⟨_, rfl, rfl⟩
theorem own_or {args : Array Value} {s : State} {a b : Jvm.Cond} {idx : List Nat} (ha : a.value args s none s idx = some false) (h : (Jvm.Cond.or a b).value args s none s idx = some true) : b.value args s none s idx = some true := by
  simp only [Jvm.Cond.value, ha] at h
  exact h
theorem own_elZ {args : Array Value} {s : State} {C n d : String} {a : Addr} {cl : Cell} (i : Nat) (ht : (Term.static C n d).eval args s none [] s = some (.ref a)) (hc : s.heap[a]? = some cl)
    (hA : (Jvm.Cond.lt (Term.index 0) (Term.int 16)).value args s none s [i] = some false) (hB : (Jvm.Cond.le (Term.int 31) (Term.index 0)).value args s none s [i] = some false) (hi : i < cl.slots.size)
    (h : (Jvm.Cond.all (Term.static C n d) (Jvm.Cond.or (Jvm.Cond.lt (Term.index 0) (Term.int 16)) (Jvm.Cond.or (Jvm.Cond.le (Term.int 31) (Term.index 0)) (Jvm.Cond.eq (Term.elem (Term.static C n d) (Term.index 0)) (Term.int 0))))).value args s none s [] = some true) : cl.slots[i.toInt32.toNatClampNeg]? = some (.int 0) := by
  have hq : s.arrayAt? a = some cl := by
    cases hq : s.arrayAt? a with
    | none => simp [Jvm.Cond.value, ht, hq] at h
    | some cell =>
      have e := (arrayAt_spec hq).1
      rw [hc] at e
      exact e.symm
  have g := own_or hB (own_or hA (Cond.all_elim ht hq h i hi))
  obtain ⟨x, y, hx, hy, k1, k2⟩ := cmp_v (Or.inl g)
  have q := (elem_in hx (show (Term.static C n d).eval args s none [i] s = some (.ref a) from ht) (show (Term.index 0).eval args s none [i] s = some (.int i.toInt32) from rfl) hc).2
  obtain rfl : y = .int 0 := (Option.some.inj hy).symm
  obtain ⟨z, rfl⟩ : ∃ z, x = .int z := k2
  have q2 := g
  simp [Jvm.Cond.value, hx, hy] at q2
  rw [q, q2]
theorem own_el {args : Array Value} {s : State} {t : Term} {a : Addr} {cl : Cell} {j k : Int32} (ht : t.eval args s none [] s = some (.ref a)) (hc : s.heap[a]? = some cl) (h : (Jvm.Cond.eq (Term.elem t (Term.int j)) (Term.int k)).value args s none s [] = some true) : cl.slots[j.toNatClampNeg]? = some (.int k) := by
  obtain ⟨x, y, hx, hy, k1, k2⟩ := cmp_v (Or.inl h)
  have q := (elem_in hx ht rfl hc).2
  obtain rfl : y = .int k := (Option.some.inj hy).symm
  obtain ⟨z, rfl⟩ : ∃ z, x = .int z := k2
  have q2 := h
  simp [Jvm.Cond.value, hx, hy] at q2
  rw [q, q2]
set_option maxRecDepth 65536 in
set_option maxHeartbeats 40000000 in
theorem comes_1 {Post : Tables → Env → Array Value → State → Outcome → State → Prop} (hpost : ∀ tb e args s v u, (limb_1_1.after args s (.returned v) u = true ∧ limb_1_2.after args s (.returned v) u = true ∧ True) → FrameEnd s (.returned v) u (Jvm.fieldLocs frame_1_writes args s ++ Jvm.arrayLocs frame_1_arrays args s ++ Jvm.staticLocs frame_1_statics s) 16 192 → Post tb e args s (.returned v) u) :
    ArmFor flags0 classFile x code maxLocals ret World_1 tables_1 room_1 Calls_1 rest_1 Pre_1 Post := by
  intro l hfl _ _ p e ha hc hk s m args below hf hA hF happ hP
  obtain ⟨hcalls, hrest, hpre⟩ := hP
  obtain ⟨-, -, -, hnamed, -, -, -, hat⟩ := (Spec.applies_iff hf).mp happ
  obtain ⟨hg, hn⟩ := and_e (Cond.before_iff.mp (show (Jvm.Cond.and given_1 narrow_1).before args s = true from hpre))
  obtain ⟨gc, g0⟩ := and_e hg
  obtain ⟨k0, g1⟩ := and_e g0
  obtain ⟨k1, g2⟩ := and_e g1
  obtain ⟨k2, g3⟩ := and_e g2
  obtain ⟨k3, g4⟩ := and_e g3
  obtain ⟨k4, g5⟩ := and_e g4
  have k5 := g5
  obtain ⟨w0, w1, w2, w3, w4, w5, rfl⟩ : ∃ w0 w1 w2 w3 w4 w5 : Value, args = #[w0, w1, w2, w3, w4, w5] := by
    have hs : args.size = 6 := by simpa [Cond.value, given_1] using gc
    obtain ⟨L⟩ := args
    match L, hs with
    | [w0, w1, w2, w3, w4, w5], _ => exact ⟨w0, w1, w2, w3, w4, w5, rfl⟩
  have hw := fun d (hd : d ∈ tables_1) => atoms_spec (ws := Jvm.Cond.code x code maxLocals ret :: tables_1) hat d (List.mem_cons_of_mem _ hd)
  have hfit : Fit s := fun {y c} hc i hi => by
    obtain ⟨ha, rfl⟩ := Array.getElem?_eq_some_iff.mp hc
    have q := List.all_eq_true.mp ((Array.all_eq_true_iff_forall_mem.mp hF) _ (Array.getElem_mem ha)) i (List.mem_range.mpr hi)
    simpa [Array.getElem?_eq_getElem hi] using q
  obtain ⟨i0, ei0⟩ := isL_v k0
  obtain rfl : w0 = (.long i0) := Option.some.inj ei0
  obtain ⟨i1, ei1⟩ := isL_v k1
  obtain rfl : w1 = (.long i1) := Option.some.inj ei1
  obtain ⟨i2, ei2⟩ := isL_v k2
  obtain rfl : w2 = (.long i2) := Option.some.inj ei2
  obtain ⟨i3, ei3⟩ := isL_v k3
  obtain rfl : w3 = (.long i3) := Option.some.inj ei3
  obtain ⟨i4, ei4⟩ := is_v k4
  obtain rfl : w4 = (.int i4) := Option.some.inj ei4
  obtain ⟨i5, ei5⟩ := is_v k5
  obtain rfl : w5 = (.int i5) := Option.some.inj ei5
  obtain ⟨n0, n1⟩ := and_e hn
  obtain ⟨n1, n2⟩ := and_e n1
  obtain ⟨m0, n3⟩ := and_e n2
  obtain ⟨m1, n4⟩ := and_e n3
  obtain ⟨m2, n5⟩ := and_e n4
  obtain ⟨m3, n6⟩ := and_e n5
  obtain ⟨m4, n7⟩ := and_e n6
  obtain ⟨m5, n8⟩ := and_e n7
  obtain ⟨m6, n9⟩ := and_e n8
  obtain ⟨m7, n10⟩ := and_e n9
  obtain ⟨m8, n11⟩ := and_e n10
  obtain ⟨m9, n12⟩ := and_e n11
  obtain ⟨m10, n13⟩ := and_e n12
  obtain ⟨m11, n14⟩ := and_e n13
  obtain ⟨m12, n15⟩ := and_e n14
  obtain ⟨m13, n16⟩ := and_e n15
  obtain ⟨m14, n17⟩ := and_e n16
  obtain ⟨m15, n18⟩ := and_e n17
  obtain ⟨mall, m31⟩ := and_e n18
  obtain ⟨aL, evL⟩ := arr_v n0
  obtain ⟨cl, AL⟩ := Arr.start evL n0
  have SL := Sta.start evL (Or.inr ⟨(hw _ (List.mem_of_getElem? (i := 18) rfl)), (hw _ (List.mem_of_getElem? (i := 21) rfl))⟩)
  have HG : ∀ i, i < 32 → cl.slots[i]? = some (.int (own_L i)) := by
    intro i hi
    have t0 := own_el evL AL.1 m0
    have t1 := own_el evL AL.1 m1
    have t2 := own_el evL AL.1 m2
    have t3 := own_el evL AL.1 m3
    have t4 := own_el evL AL.1 m4
    have t5 := own_el evL AL.1 m5
    have t6 := own_el evL AL.1 m6
    have t7 := own_el evL AL.1 m7
    have t8 := own_el evL AL.1 m8
    have t9 := own_el evL AL.1 m9
    have t10 := own_el evL AL.1 m10
    have t11 := own_el evL AL.1 m11
    have t12 := own_el evL AL.1 m12
    have t13 := own_el evL AL.1 m13
    have t14 := own_el evL AL.1 m14
    have t15 := own_el evL AL.1 m15
    have t31 := own_el evL AL.1 m31
    have hsz : 31 < cl.slots.size := (Array.getElem?_eq_some_iff.mp t31).1
    have t16 := own_elZ 16 evL AL.1 rfl rfl (by omega) mall
    have t17 := own_elZ 17 evL AL.1 rfl rfl (by omega) mall
    have t18 := own_elZ 18 evL AL.1 rfl rfl (by omega) mall
    have t19 := own_elZ 19 evL AL.1 rfl rfl (by omega) mall
    have t20 := own_elZ 20 evL AL.1 rfl rfl (by omega) mall
    have t21 := own_elZ 21 evL AL.1 rfl rfl (by omega) mall
    have t22 := own_elZ 22 evL AL.1 rfl rfl (by omega) mall
    have t23 := own_elZ 23 evL AL.1 rfl rfl (by omega) mall
    have t24 := own_elZ 24 evL AL.1 rfl rfl (by omega) mall
    have t25 := own_elZ 25 evL AL.1 rfl rfl (by omega) mall
    have t26 := own_elZ 26 evL AL.1 rfl rfl (by omega) mall
    have t27 := own_elZ 27 evL AL.1 rfl rfl (by omega) mall
    have t28 := own_elZ 28 evL AL.1 rfl rfl (by omega) mall
    have t29 := own_elZ 29 evL AL.1 rfl rfl (by omega) mall
    have t30 := own_elZ 30 evL AL.1 rfl rfl (by omega) mall
    match i, hi with
    | 0, _ => exact t0
    | 1, _ => exact t1
    | 2, _ => exact t2
    | 3, _ => exact t3
    | 4, _ => exact t4
    | 5, _ => exact t5
    | 6, _ => exact t6
    | 7, _ => exact t7
    | 8, _ => exact t8
    | 9, _ => exact t9
    | 10, _ => exact t10
    | 11, _ => exact t11
    | 12, _ => exact t12
    | 13, _ => exact t13
    | 14, _ => exact t14
    | 15, _ => exact t15
    | 16, _ => exact t16
    | 17, _ => exact t17
    | 18, _ => exact t18
    | 19, _ => exact t19
    | 20, _ => exact t20
    | 21, _ => exact t21
    | 22, _ => exact t22
    | 23, _ => exact t23
    | 24, _ => exact t24
    | 25, _ => exact t25
    | 26, _ => exact t26
    | 27, _ => exact t27
    | 28, _ => exact t28
    | 29, _ => exact t29
    | 30, _ => exact t30
    | 31, _ => exact t31
    | n + 32, h => exact absurd h (by omega)
  obtain ⟨n, o, h1, h2, h3, _, L, rfl, ⟨os1, ⟨_, rfl, rfl⟩, -, N⟩, hq⟩ := spec_0 l s _ hw i0 i1 i2 i3 i4 i5 aL cl SL AL HG s.heap (Hp.nil s) tables_1 p e ha hc hk s m _ below hf ((Spec.applies_iff_loose hf).mp happ).1 ⟨rfl, State.Warmed39.refl s, rfl⟩ trivial
  refine ⟨n, _, h1, h2, h3, hpost _ _ _ _ _ _ ⟨Cond.after_iff.mpr rfl, Cond.after_iff.mpr (eq_i res_at (Term.int_eval (1)) rfl), trivial⟩ ⟨hq.1, hq.2.1, (hq.2.2.sift fun y hy => Or.inr (N y hy)).mono (by decide) (by decide)⟩⟩
theorem main_1_1 : Claimed_1_1 := comes_1 fun _ _ _ _ _ _ h hF => ⟨h.1, hF⟩
theorem main_1_2 : Claimed_1_2 := comes_1 fun _ _ _ _ _ _ h hF => ⟨h.2.1, hF⟩
end Jvm.Pilot.@@N@@
namespace Jvm.Pilot.@@N@@
open Jvm Jvm.ClassFile Sem Op Lib Jvm.Free Jvm.Stand Jvm.Pilot.@@N@@.Jvm.D
/-! MADE BY PROGRAM (witnessworld.py) out of the Statement's table words and the real class files: 9 classes; the members and pool entries that the words name. The judged class is class 1, her method 1. -/
namespace start1
open Jvm.ClassFile
def u (s : String) : CpInfo := .utf8 (stringToUtf16 s)
/-- a pool by its gaps: so many unusable entries, then the entry; so many at the end -/
def gap : Nat → List CpInfo → List CpInfo
  | 0, r => r
  | n + 1, r => .unusable :: gap n r
def poolList (es : List (Nat × CpInfo)) (last : Nat) : List CpInfo := es.foldr (fun e r => gap e.1 (e.2 :: r)) (gap last [])
def pool (es : List (Nat × CpInfo)) (last : Nat) : Array CpInfo := ⟨poolList es last⟩
def fileOf (pool : Array CpInfo) (this : Nat) (attrs : Array Attribute := #[]) (ms : Array MethodInfo := #[]) (fl : Nat := 33) (sup : Nat := 0) (ifs : Array Nat := #[]) (fds : Array FieldInfo := #[]) : ClassFile where
  minorVersion := 0
  majorVersion := 65
  constantPool := pool
  accessFlags := fl
  thisClass := this
  superClass := sup
  interfaces := ifs
  fields := fds
  methods := ms
  attributes := attrs
def plain (name : String) (sup : Option ClassId) : Class where
  name := name
  kind := .ordinary
  loader := none
  accessFlags := 33
  super := sup
  interfaces := #[]
  cf := none
  fields := #[]
  methods := #[]
  instanceTypes := #[]
  staticTypes := #[]
  resolved := #[]
  callSites := []
  init := .initialized
  statics := none
  mirror := none

def pool0 : Array CpInfo := pool [(5, u "<init>"), (0, u "()V"), (1, .class_ 10), (1, u "java/lang/Object")] 113

def k0m0 : Method := { name := "<init>", desc := "()V", sig := { parameters := [], returnType := none }, accessFlags := 1, code := none }
/-- java/lang/Object -/
def k0 : Class := { plain "java/lang/Object" none with
  accessFlags := 33
  interfaces := #[]
  cf := some (fileOf pool0 8 #[] #[{ accessFlags := 1, nameIndex := 5, descriptorIndex := 6, attributes := #[] }] 33 0 #[] #[])
  fields := #[]
  methods := #[k0m0]
  instanceTypes := #[]
  staticTypes := #[]
  resolved := Array.replicate 124 none
  statics := none }

def pool1 : Array CpInfo := pool [(2, .class_ 4), (1, u "java/lang/Object"), (0, u "<init>"), (0, u "()V"), (0, .long 6346243789798364141), (1, .long 1503914060200516822), (1, .long 1152921504606846976), (1, .methodref 14 15), (0, .class_ 16), (0, .nameAndType 17 18), (0, u "com/example/usage_to_ledger/usagetoledger/verify/Scalar25519IsCanonicalPinLaw"), (0, u "pick"), (0, u "(JJI)J"), (0, .long 11400714819323198485), (1, .methodref 14 22), (0, .nameAndType 23 24), (0, u "put"), (0, u "([BIJ)V"), (0, .methodref 14 26), (0, .nameAndType 27 28), (0, u "ult"), (0, u "(JJ)Z"), (0, .methodref 30 31), (0, .class_ 32), (0, .nameAndType 33 34), (0, u "com/example/usage_to_ledger/usagetoledger/verify/Scalar25519"), (0, u "isCanonical"), (0, u "([BI)Z"), (0, .long 63), (3, .long 9223372036854775808), (3, u "law"), (0, u "(JJJJII)Z")] 5

def k1m0 : Method := { name := "<init>", desc := "()V", sig := { parameters := [], returnType := none }, accessFlags := 2, code := none }
def k1c1 : Code := { maxStack := 6, maxLocals := 31, code := code, exceptionTable := #[], attributes := #[] }
def k1m1 : Method := { name := "law", desc := "(JJJJII)Z", sig := { parameters := [.long, .long, .long, .long, .int, .int], returnType := some .boolean }, accessFlags := 9, code := some k1c1 }
def k1c2 : Code := { maxStack := 8, maxLocals := 6, code := method_3_code, exceptionTable := #[], attributes := #[] }
def k1m2 : Method := { name := "pick", desc := "(JJI)J", sig := { parameters := [.long, .long, .int], returnType := some .long }, accessFlags := 10, code := some k1c2 }
def k1c3 : Code := { maxStack := 6, maxLocals := 4, code := method_4_code, exceptionTable := #[], attributes := #[] }
def k1m3 : Method := { name := "ult", desc := "(JJ)Z", sig := { parameters := [.long, .long], returnType := some .boolean }, accessFlags := 10, code := some k1c3 }
def k1c4 : Code := { maxStack := 5, maxLocals := 4, code := method_5_code, exceptionTable := #[], attributes := #[] }
def k1m4 : Method := { name := "put", desc := "([BIJ)V", sig := { parameters := [(.array .byte), .int, .long], returnType := none }, accessFlags := 10, code := some k1c4 }
/-- com/example/usage_to_ledger/usagetoledger/verify/Scalar25519IsCanonicalPinLaw -/
def k1 : Class := { plain "com/example/usage_to_ledger/usagetoledger/verify/Scalar25519IsCanonicalPinLaw" (some 0) with
  accessFlags := 49
  interfaces := #[]
  cf := some (fileOf pool1 14 #[] #[{ accessFlags := 2, nameIndex := 5, descriptorIndex := 6, attributes := #[] }, { accessFlags := 9, nameIndex := 43, descriptorIndex := 44, attributes := #[] }, { accessFlags := 10, nameIndex := 17, descriptorIndex := 18, attributes := #[] }, { accessFlags := 10, nameIndex := 27, descriptorIndex := 28, attributes := #[] }, { accessFlags := 10, nameIndex := 23, descriptorIndex := 24, attributes := #[] }] 49 2 #[] #[])
  fields := #[]
  methods := #[k1m0, k1m1, k1m2, k1m3, k1m4]
  instanceTypes := #[]
  staticTypes := #[]
  resolved := Array.replicate 50 none
  statics := none }

def pool2 : Array CpInfo := pool [(1, .class_ 2), (0, u "com/example/usage_to_ledger/usagetoledger/verify/Scalar25519"), (1, .class_ 6), (1, u "java/lang/Object"), (0, u "<init>"), (0, u "()V"), (8, .fieldref 1 18), (0, .nameAndType 19 20), (0, u "L_BYTES"), (0, u "[B"), (9, u "L"), (0, u "[J"), (4, u "C"), (13, u "Ljava/math/BigInteger;"), (15, u "ORDER"), (7, u "LENGTH"), (0, u "I"), (2, u "BITS"), (1, u "MASK"), (0, u "J"), (0, u "HIGH"), (1, u "LIMBS"), (9, u "isCanonical"), (0, u "([BI)Z")] 8

def k2m0 : Method := { name := "<init>", desc := "()V", sig := { parameters := [], returnType := none }, accessFlags := 2, code := none }
def k2c1 : Code := { maxStack := 3, maxLocals := 5, code := prog_71_method_4_code, exceptionTable := #[], attributes := #[] }
def k2m1 : Method := { name := "isCanonical", desc := "([BI)Z", sig := { parameters := [(.array .byte), .int], returnType := some .boolean }, accessFlags := 8, code := some k2c1 }
/-- com/example/usage_to_ledger/usagetoledger/verify/Scalar25519 -/
def k2 : Class := { plain "com/example/usage_to_ledger/usagetoledger/verify/Scalar25519" (some 0) with
  accessFlags := 32
  interfaces := #[]
  cf := some (fileOf pool2 1 #[] #[{ accessFlags := 2, nameIndex := 7, descriptorIndex := 8, attributes := #[] }, { accessFlags := 8, nameIndex := 94, descriptorIndex := 95, attributes := #[] }] 32 4 #[] #[{ accessFlags := 24, nameIndex := 74, descriptorIndex := 75, attributes := #[] }, { accessFlags := 26, nameIndex := 66, descriptorIndex := 50, attributes := #[] }, { accessFlags := 26, nameIndex := 78, descriptorIndex := 75, attributes := #[] }, { accessFlags := 26, nameIndex := 80, descriptorIndex := 81, attributes := #[] }, { accessFlags := 26, nameIndex := 82, descriptorIndex := 75, attributes := #[] }, { accessFlags := 26, nameIndex := 84, descriptorIndex := 75, attributes := #[] }, { accessFlags := 26, nameIndex := 36, descriptorIndex := 31, attributes := #[] }, { accessFlags := 26, nameIndex := 30, descriptorIndex := 31, attributes := #[] }, { accessFlags := 26, nameIndex := 19, descriptorIndex := 20, attributes := #[] }])
  fields := #[{ name := "LENGTH", type := .int, accessFlags := 24, slot := 0, constantValue := 0 }, { name := "ORDER", type := (.object "java/math/BigInteger"), accessFlags := 26, slot := 1, constantValue := 0 }, { name := "BITS", type := .int, accessFlags := 26, slot := 2, constantValue := 0 }, { name := "MASK", type := .long, accessFlags := 26, slot := 3, constantValue := 0 }, { name := "HIGH", type := .int, accessFlags := 26, slot := 4, constantValue := 0 }, { name := "LIMBS", type := .int, accessFlags := 26, slot := 5, constantValue := 0 }, { name := "C", type := (.array .long), accessFlags := 26, slot := 6, constantValue := 0 }, { name := "L", type := (.array .long), accessFlags := 26, slot := 7, constantValue := 0 }, { name := "L_BYTES", type := (.array .byte), accessFlags := 26, slot := 8, constantValue := 0 }]
  methods := #[k2m0, k2m1]
  instanceTypes := #[]
  staticTypes := #[.int, (.object "java/math/BigInteger"), .int, .long, .int, .int, (.array .long), (.array .long), (.array .byte)]
  resolved := Array.replicate 104 none
  statics := some 0 }

def pool3 : Array CpInfo := pool [(1, u "java/lang/Cloneable"), (0, .class_ 1), (0, u "java/lang/Object"), (0, .class_ 3)] 3

/-- java/lang/Cloneable -/
def k3 : Class := { plain "java/lang/Cloneable" (some 0) with
  accessFlags := 1537
  interfaces := #[]
  cf := some (fileOf pool3 2 #[] #[] 1537 4 #[] #[])
  fields := #[]
  methods := #[]
  instanceTypes := #[]
  staticTypes := #[]
  resolved := Array.replicate 8 none
  statics := none }

def pool4 : Array CpInfo := pool [(1, u "java/io/Serializable"), (0, .class_ 1), (0, u "java/lang/Object"), (0, .class_ 3)] 3

/-- java/io/Serializable -/
def k4 : Class := { plain "java/io/Serializable" (some 0) with
  accessFlags := 1537
  interfaces := #[]
  cf := some (fileOf pool4 2 #[] #[] 1537 4 #[] #[])
  fields := #[]
  methods := #[]
  instanceTypes := #[]
  staticTypes := #[]
  resolved := Array.replicate 8 none
  statics := none }

/-- the primitive byte -/
def k5 : Class := { plain "byte" none with kind := .primitive 'B', accessFlags := 0x411 }
/-- [B -/
def k6 : Class := { plain "[B" (some 0) with kind := .array 5 .byte, interfaces := #[3, 4], accessFlags := 1041 }

/-- the primitive int -/
def k7 : Class := { plain "int" none with kind := .primitive 'I', accessFlags := 0x411 }
/-- [I -/
def k8 : Class := { plain "[I" (some 0) with kind := .array 7 .int, interfaces := #[3, 4], accessFlags := 1041 }

def heap : Heap := #[{ cls := 2, slots := #[.int 0, .null, .int 0, .long 0, .int 0, .int 0, .null, .null, .ref 1], vm := .statics 2 },
  { cls := 6, slots := #[.int (-19), .int (-45), .int (-11), .int 92, .int 26, .int 99, .int 18, .int 88, .int (-42), .int (-100), .int (-9), .int (-94), .int (-34), .int (-7), .int (-34), .int 20, .int 0, .int 0, .int 0, .int 0, .int 0, .int 0, .int 0, .int 0, .int 0, .int 0, .int 0, .int 0, .int 0, .int 0, .int 0, .int 16], vm := .none }]
def classes : Array Class := #[k0, k1, k2, k3, k4, k5, k6, k7, k8]
def interned : List (Array UInt16 × Addr) := []
def slotsUsed : Nat := 41
def theMethod : MethodId := ⟨1, 1⟩
def args0 : Array Value := #[.long 1, .long 2, .long 3, .long 4, .int 5, .int 6]
def aboutOver (below : List Frame) : State where
  vm := { classes := classes, interned := interned.toArray }
  heap := heap
  slotsUsed := slotsUsed
  threads := #[{ frames := .invoking theMethod args0 :: below }]
def below0 : List Frame := [.native { method := ⟨0, 0⟩, args := #[] }]
def about1 : State := aboutOver below0
def p0 : Program := .bare "" "" ""
def e0 : Env := launch0.env 0 0 0
theorem w_frames : about1.frames = Frame.invoking theMethod args0 :: below0 := rfl
set_option maxRecDepth 65536 in
theorem w_args : argsFit about1.vm theMethod args0 = true := by decide +kernel
set_option maxRecDepth 65536 in
theorem w_heap : heapFits about1 = true := by decide +kernel
set_option maxRecDepth 65536 in
theorem w_runnable : about1.curStatus? = some .runnable := by decide +kernel
set_option maxRecDepth 65536 in
theorem w_alone : about1.alone = true := by decide +kernel
set_option maxRecDepth 65536 in
theorem w_named : about1.methodNamed? x = some theMethod := by decide +kernel
set_option maxRecDepth 65536 in
theorem w_hears : about1.hears theMethod below0 = true := by decide +kernel
set_option maxRecDepth 65536 in
theorem w_ripe : about1.ripe theMethod args0 below0 = true := by decide +kernel
theorem w_running : about1.status = .running := rfl
set_option maxRecDepth 65536 in
theorem w_room : about1.hasRoom e0.platform room_1 = true :=
  launch0.hasRoom_least _ room_1 (by decide +kernel) (by decide +kernel) (by decide +kernel) (by decide +kernel) (by decide +kernel) (by decide +kernel)
theorem allAtoms_all (ts : List Jvm.Cond) (a : Array Jvm.Value) (st : Jvm.State) : (allAtoms ts).before a st = ts.all (fun c => c.before a st) := by
  induction ts with
  | nil => rfl
  | cons c t ih =>
    show (Jvm.Cond.and c (allAtoms t)).before a st = _
    rw [Jvm.Cond.before_and, ih, List.all_cons]
def words1 : List Jvm.Cond := Jvm.Cond.code x code maxLocals ret :: tables_1
/-- a 'code' word, met by the world's own term for the bytes: nothing is compared byte by byte -/
theorem code_word {y : MethodName} {bytes : ByteArray} {mx : Nat} {rt : Option FieldType} {a : Array Value} {s : State} {m : MethodId} {meth : Method} {c : Code} (h1 : s.methodNamed? y = some m) (h2 : s.vm.method? m = some meth) (h3 : meth.code = some c) (h4 : c.code = bytes)
    (h5 : (c.maxLocals == mx && c.exceptionTable.isEmpty && decide (c.maxStack ≤ mostOperands) && decide (meth.sig.returnType = rt) && !meth.locks && decide (parseMethodDescriptor y.desc = some meth.sig)) = true) : (Jvm.Cond.code y bytes mx rt).before a s = true := by
  simp only [Bool.and_eq_true, beq_iff_eq, Bool.not_eq_true', decide_eq_true_eq] at h5
  obtain ⟨⟨⟨⟨⟨g1, g2⟩, g3⟩, g4⟩, g5⟩, g6⟩ := h5
  simp [Cond.before, Cond.holds, Cond.value, h1, h2, h3, h4, g1, g2, g3, g4, g5, g6]
def isCode : Jvm.Cond → Bool
  | .code _ _ _ _ => true
  | _ => false
theorem all_split {L : List Jvm.Cond} {P : Jvm.Cond → Bool} (h1 : L.all (fun c => isCode c || P c) = true) (h2 : ∀ c ∈ L.filter isCode, P c = true) : L.all P = true := by
  refine List.all_eq_true.mpr fun c hc => ?_
  have h := List.all_eq_true.mp h1 c hc
  rcases Bool.eq_false_or_eq_true (isCode c) with hi | hi
  · exact h2 c (List.mem_filter.mpr ⟨hc, hi⟩)
  · simpa [hi] using h
set_option maxRecDepth 65536 in
theorem w_c0 : (Jvm.Cond.code x code maxLocals ret).before args0 about1 = true := code_word (m := ⟨1, 1⟩) (meth := k1m1) (c := k1c1) (by decide +kernel) rfl rfl rfl (by decide +kernel)
set_option maxRecDepth 65536 in
theorem w_c1 : (Jvm.Cond.code ({ cls := "com/example/usage_to_ledger/usagetoledger/verify/Scalar25519IsCanonicalPinLaw", name := "pick", desc := "(JJI)J" } : Jvm.MethodName) method_3_code (6 : Nat) (Option.some Jvm.ClassFile.FieldType.long)).before args0 about1 = true := code_word (m := ⟨1, 2⟩) (meth := k1m2) (c := k1c2) (by decide +kernel) rfl rfl rfl (by decide +kernel)
set_option maxRecDepth 65536 in
theorem w_c2 : (Jvm.Cond.code ({ cls := "com/example/usage_to_ledger/usagetoledger/verify/Scalar25519IsCanonicalPinLaw", name := "put", desc := "([BIJ)V" } : Jvm.MethodName) method_5_code (4 : Nat) (Option.none : Option Jvm.ClassFile.FieldType)).before args0 about1 = true := code_word (m := ⟨1, 4⟩) (meth := k1m4) (c := k1c4) (by decide +kernel) rfl rfl rfl (by decide +kernel)
set_option maxRecDepth 65536 in
theorem w_c3 : (Jvm.Cond.code ({ cls := "com/example/usage_to_ledger/usagetoledger/verify/Scalar25519IsCanonicalPinLaw", name := "ult", desc := "(JJ)Z" } : Jvm.MethodName) method_4_code (4 : Nat) (Option.some Jvm.ClassFile.FieldType.boolean)).before args0 about1 = true := code_word (m := ⟨1, 3⟩) (meth := k1m3) (c := k1c3) (by decide +kernel) rfl rfl rfl (by decide +kernel)
set_option maxRecDepth 65536 in
theorem w_c4 : (Jvm.Cond.code ({ cls := "com/example/usage_to_ledger/usagetoledger/verify/Scalar25519", name := "isCanonical", desc := "([BI)Z" } : Jvm.MethodName) prog_71_method_4_code (5 : Nat) (Option.some Jvm.ClassFile.FieldType.boolean)).before args0 about1 = true := code_word (m := ⟨2, 1⟩) (meth := k2m1) (c := k2c1) (by decide +kernel) rfl rfl rfl (by decide +kernel)
def codes1 : List Jvm.Cond := [Jvm.Cond.code x code maxLocals ret, Jvm.Cond.code ({ cls := "com/example/usage_to_ledger/usagetoledger/verify/Scalar25519IsCanonicalPinLaw", name := "pick", desc := "(JJI)J" } : Jvm.MethodName) method_3_code (6 : Nat) (Option.some Jvm.ClassFile.FieldType.long), Jvm.Cond.code ({ cls := "com/example/usage_to_ledger/usagetoledger/verify/Scalar25519IsCanonicalPinLaw", name := "put", desc := "([BIJ)V" } : Jvm.MethodName) method_5_code (4 : Nat) (Option.none : Option Jvm.ClassFile.FieldType), Jvm.Cond.code ({ cls := "com/example/usage_to_ledger/usagetoledger/verify/Scalar25519IsCanonicalPinLaw", name := "ult", desc := "(JJ)Z" } : Jvm.MethodName) method_4_code (4 : Nat) (Option.some Jvm.ClassFile.FieldType.boolean), Jvm.Cond.code ({ cls := "com/example/usage_to_ledger/usagetoledger/verify/Scalar25519", name := "isCanonical", desc := "([BI)Z" } : Jvm.MethodName) prog_71_method_4_code (5 : Nat) (Option.some Jvm.ClassFile.FieldType.boolean)]
set_option maxRecDepth 65536 in
theorem codes_eq : words1.filter isCode = codes1 := rfl
theorem w_codes : ∀ c ∈ words1.filter isCode, c.before args0 about1 = true := by
  rw [codes_eq]
  intro c hc
  simp only [codes1, List.mem_cons, List.not_mem_nil, or_false] at hc
  rcases hc with rfl | rfl | rfl | rfl | rfl
  · exact w_c0
  · exact w_c1
  · exact w_c2
  · exact w_c3
  · exact w_c4
set_option maxRecDepth 65536 in
theorem w_t1 : words1.all (fun c => isCode c || c.before args0 about1) = true := by decide +kernel
theorem w_tables : (allAtoms (Jvm.Cond.code x code maxLocals ret :: tables_1)).before args0 about1 = true := by
  rw [allAtoms_all]
  show words1.all (fun c => c.before args0 about1) = true
  refine all_split ?_ w_codes
  rw [w_t1]
set_option maxRecDepth 65536 in
theorem w_case : (Jvm.Cond.and given_1 narrow_1).before args0 about1 = true := by decide +kernel
theorem w_applies : (headSpec (Jvm.Cond.code x code maxLocals ret :: tables_1) room_1).applies x e0.platform about1 = true :=
  (Spec.applies_iff w_frames).mpr ⟨w_running, w_runnable, w_alone, w_named, w_hears, w_ripe, w_room, w_tables⟩
theorem atStart : AtStart classFile x code maxLocals ret World_1 tables_1 room_1 Calls_1 rest_1 Pre_1 launch0 p0 e0 about1 theMethod args0 below0 :=
  ⟨lists_1, trivial, launch0.admits_env _ _ _, launch0.least_env, fairChoices_fair.cas, fairChoices_fair.clock, w_frames, w_args, w_heap, w_applies, trivial, trivial, w_case⟩
end start1
theorem witness_1 : WitnessClaimed_1 := ⟨start1.p0, start1.e0, start1.about1, start1.theMethod, start1.args0, start1.below0, start1.atStart⟩
end Jvm.Pilot.@@N@@
