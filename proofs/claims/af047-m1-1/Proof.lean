import JvmDerived
import JvmDerived.Pilot.@@N@@Statement
import JvmDerived.Pilot.@@N@@Code
set_option linter.unusedVariables false
set_option linter.unusedSimpArgs false
namespace Jvm.OwnW
open Sem ClassFile Op Lib Jvm.Stand Jvm.Free Jvm.LawKit Jvm.RoadKit
/-! THE OWN LAYER: a walk as a backward reckoning over an abstract heap. -/
abbrev OS := List (Addr × (Cell → Prop))
abbrev FV := String × String × String × Value
abbrev Cx := Program × Launch × Env × Room × State × MethodId × Array Value × List Frame × Method × Code
/-- what the walk knows of a heap: the start's cells stand in it unchanged; the listed cells are new, lie apart, and are as described -/
def Hp (Z : State) (h : Heap) (os : OS) : Prop :=
  Ext Z.heap h ∧ (os.map Prod.fst).Nodup ∧ ∀ (k : Nat) (x : Addr × (Cell → Prop)), os[k]? = some x → Z.heap.size ≤ x.1 ∧ ∃ c, h[x.1]? = some c ∧ x.2 c
def FldC (Z : State) (c : Cell) (f : FV) : Prop := ∃ (cf : ClassId) (k : Class) (i : Nat) (fd : Field), Z.fieldFound? f.1 f.2.1 f.2.2.1 = some (cf, k, i, fd) ∧ fd.isStatic = false ∧ c.vm ≠ .unknown ∧ c.vm.isStatics = false ∧ Z.vm.assignable c.cls cf = true ∧ c.slots[fd.slot]? = some f.2.2.2
def ExaC (Z : State) (C : String) (c : Cell) : Prop := ∃ k : Class, Z.vm.findClass C = some c.cls ∧ Z.vm.classes[c.cls]? = some k ∧ c.vm.isStatics = false ∧ (k.kind = .ordinary → c.slots.size = k.instanceTypes.size)
def sl3 (Z : State) (f : FV) : Nat := RoadKit.slotOf Z f.1 f.2.1 f.2.2.1
/-- an object of just the class C with these fields -/
def OBJ (Z : State) (C : String) (fs : List FV) (c : Cell) : Prop := ExaC Z C c ∧ (fs.map (sl3 Z)).Nodup ∧ ∀ f ∈ fs, FldC Z c f
/-- an array of this component kind with these values -/
def ARR (Z : State) (ty : FieldType) (vs : List Value) (c : Cell) : Prop := Z.isArrayOf c ty ∧ c.vm ≠ .unknown ∧ c.slots = vs.toArray ∧ (∀ v ∈ vs, fits ty v = true) ∧ vs.length < 2 ^ 31

section Heap
variable {Z : State} {h h' : Heap} {os os' : OS} {a b : Addr} {P P' : Cell → Prop} {C O n d : String} {fs fs' : List FV} {v w : Value} {ty : FieldType} {vs : List Value} {c : Cell}
theorem Hp.nil (Z : State) : Hp Z Z.heap [] := ⟨⟨Nat.le_refl _, fun _ _ q => q⟩, List.nodup_nil, fun k x hx => by simp at hx⟩
theorem Hp.get (H : Hp Z h os) (hm : (a, P) ∈ os) : Z.heap.size ≤ a ∧ ∃ c, h[a]? = some c ∧ P c := by
  obtain ⟨k, hk⟩ := List.getElem?_of_mem hm
  exact H.2.2 k _ hk
theorem OBJ.exa (hc : h[a]? = some c) (q : OBJ Z C fs c) : Exa Z h a C := by
  obtain ⟨⟨k, h1, h2, h3, h4⟩, -⟩ := q
  exact ⟨c, k, hc, h1, h2, h3, h4⟩
theorem OBJ.fld (hc : h[a]? = some c) (q : OBJ Z C fs c) (hm : (O, n, d, v) ∈ fs) : Fld Z h a O n d v := by
  obtain ⟨cf, k, i, fd, h1, h2, h3, h4, h5, h6⟩ := q.2.2 _ hm
  exact ⟨c, cf, k, i, fd, hc, h1, h2, h3, h4, h5, h6⟩
theorem Hp.ne (H : Hp Z h os) {i j : Nat} {P P' : Cell → Prop} (hi : os[i]? = some (a, P)) (hj : os[j]? = some (b, P')) (hn : i ≠ j) : a ≠ b := by
  intro e
  subst e
  have h1 : (os.map Prod.fst)[i]? = some a := by simp [hi]
  have h2 : (os.map Prod.fst)[j]? = some a := by simp [hj]
  exact hn ((List.getElem?_inj (List.getElem?_eq_some_iff.mp h1).1 H.2.1).mp (h1.trans h2.symm))
theorem Hp.upd (H : Hp Z h os) {i : Nat} (hi : os[i]? = some (a, P)) {sl : Nat} (W : Wr h h' a sl v) (q : ∀ c c', h[a]? = some c → P c → h'[a]? = some c' → c' = c.setSlot sl v → P' c') : Hp Z h' (os.set i (a, P')) := by
  obtain ⟨ha, ca, hca, hPa⟩ := H.2.2 i _ hi
  refine ⟨⟨by rw [W.size]; exact H.1.1, fun x cx hx => ?_⟩, ?_, fun k x hx => ?_⟩
  · obtain ⟨cx', e1, -, -, -, e5, -⟩ := wr_at W (H.1.2 x cx hx)
    have ne : x ≠ a := fun e => by
      subst e
      exact absurd (Array.getElem?_eq_some_iff.mp hx).1 (Nat.not_lt.mpr ha)
    rw [e5 ne] at e1; exact e1
  · have e : (os.set i (a, P')).map Prod.fst = os.map Prod.fst := by
      apply List.ext_getElem?
      intro k
      simp only [List.getElem?_map, List.getElem?_set]
      split
      · rename_i e; subst e
        rw [if_pos (List.getElem?_eq_some_iff.mp hi).1, hi]; rfl
      · rfl
    rw [e]; exact H.2.1
  · rw [List.getElem?_set] at hx
    split at hx
    · rename_i e; subst e
      split at hx
      · cases hx
        obtain ⟨c', e1, -, -, -, -, -, e7⟩ := wr_at W hca
        exact ⟨ha, c', e1, q ca c' hca hPa e1 (e7 rfl).1⟩
      · cases hx
    · rename_i hne
      obtain ⟨g1, cx, g2, g3⟩ := H.2.2 k x hx
      obtain ⟨c', e1, -, -, -, e5, -⟩ := wr_at W g2
      have ne : x.1 ≠ a := H.ne (i := k) (j := i) (P := x.2) hx hi (fun e => hne e.symm)
      rw [e5 ne] at e1
      exact ⟨g1, cx, e1, g3⟩
theorem Hp.new (H : Hp Z h os) (E : Ext h h') (hc : h'[h.size]? = some c) (hP : P c) : Hp Z h' ((h.size, P) :: os) := by
  refine ⟨⟨Nat.le_trans H.1.1 E.1, fun x cx q => E.2 _ _ (H.1.2 _ _ q)⟩, ?_, fun k x hx => ?_⟩
  · rw [List.map_cons, List.nodup_cons]
    refine ⟨fun hm => ?_, H.2.1⟩
    obtain ⟨⟨y1, y2⟩, hy, he⟩ := List.mem_map.mp hm
    obtain ⟨-, cy, hcy, -⟩ := H.get hy
    have := (Array.getElem?_eq_some_iff.mp hcy).1
    dsimp at he
    rw [he] at this; exact Nat.lt_irrefl _ this
  · cases k with
    | zero => cases hx; exact ⟨H.1.1, c, hc, hP⟩
    | succ k =>
      obtain ⟨g1, cx, g2, g3⟩ := H.2.2 k x hx
      exact ⟨g1, cx, E.2 _ _ g2, g3⟩
theorem Hp.ext (H : Hp Z h os) (E : Ext h h') : Hp Z h' os :=
  ⟨⟨Nat.le_trans H.1.1 E.1, fun x cx q => E.2 _ _ (H.1.2 _ _ q)⟩, H.2.1, fun k x hx => by
    obtain ⟨g1, cx, g2, g3⟩ := H.2.2 k x hx; exact ⟨g1, cx, E.2 _ _ g2, g3⟩⟩
theorem Hp.perm (H : Hp Z h os) (p : os.Perm os') : Hp Z h os' :=
  ⟨H.1, (p.map Prod.fst).nodup_iff.mp H.2.1, fun k x hx => by
    obtain ⟨k', hk'⟩ := List.getElem?_of_mem (p.symm.subset (List.mem_of_getElem? hx))
    exact H.2.2 k' x hk'⟩
theorem Hp.sub (H : Hp Z h os) (p : List.Sublist os' os) : Hp Z h os' :=
  ⟨H.1, H.2.1.sublist (p.map Prod.fst), fun k x hx => by
    obtain ⟨k', hk'⟩ := List.getElem?_of_mem (p.subset (List.mem_of_getElem? hx))
    exact H.2.2 k' x hk'⟩
theorem Hp.imp (H : Hp Z h ((a, P) :: os)) (q : ∀ c, P c → P' c) : Hp Z h ((a, P') :: os) :=
  ⟨H.1, H.2.1, fun k x hx => by
    cases k with
    | zero => cases hx; obtain ⟨g1, c, g2, g3⟩ := H.2.2 0 (a, P) rfl; exact ⟨g1, c, g2, q c g3⟩
    | succ k => exact H.2.2 (k + 1) x hx⟩
/-- the list os with the entry at a turned from P to P' is os' -/
def Upd (os : OS) (a : Addr) (P P' : Cell → Prop) (os' : OS) : Prop := ∃ i : Nat, os[i]? = some (a, P) ∧ os' = os.set i (a, P')
theorem Upd.here {r : OS} : Upd ((a, P) :: r) a P P' ((a, P') :: r) := ⟨0, rfl, rfl⟩
theorem Upd.there {r r' : OS} {x : Addr × (Cell → Prop)} (u : Upd r a P P' r') : Upd (x :: r) a P P' (x :: r') := by
  obtain ⟨i, h1, rfl⟩ := u; exact ⟨i + 1, h1, rfl⟩
/-- the fields fs with (O, n, d) now at v are fs' -/
def UpdF (fs : List FV) (O n d : String) (w v : Value) (fs' : List FV) : Prop := ∃ i : Nat, fs[i]? = some (O, n, d, w) ∧ fs' = fs.set i (O, n, d, v)
theorem UpdF.here {r : List FV} : UpdF ((O, n, d, w) :: r) O n d w v ((O, n, d, v) :: r) := ⟨0, rfl, rfl⟩
theorem UpdF.there {r r' : List FV} {x : FV} (u : UpdF r O n d w v r') : UpdF (x :: r) O n d w v (x :: r') := by
  obtain ⟨i, h1, rfl⟩ := u; exact ⟨i + 1, h1, rfl⟩
theorem OBJ.put {c : Cell} (q : OBJ Z C fs c) (u : UpdF fs O n d w v fs') : OBJ Z C fs' (c.setSlot (RoadKit.slotOf Z O n d) v) := by
  obtain ⟨i, hi, rfl⟩ := u
  obtain ⟨⟨k, e1, e2, e3, e4⟩, nd, ff⟩ := q
  have hslots : ∀ j : Nat, (c.setSlot (RoadKit.slotOf Z O n d) v).slots[j]? = if RoadKit.slotOf Z O n d = j then (if j < c.slots.size then some v else none) else c.slots[j]? := fun j => by
    simp only [Cell.setSlot, Array.getElem?_setIfInBounds]
    by_cases e : RoadKit.slotOf Z O n d = j
    · rw [if_pos e, if_pos e, e]
    · rw [if_neg e, if_neg e]
  have hes : ∀ x ∈ fs, ∃ fd : Field, sl3 Z x = fd.slot ∧ ∃ cf k' i', Z.fieldFound? x.1 x.2.1 x.2.2.1 = some (cf, k', i', fd) := fun x hx => by
    obtain ⟨cf, k', i', fd, g1, -⟩ := ff x hx
    exact ⟨fd, by simp [sl3, RoadKit.slotOf, g1], cf, k', i', g1⟩
  refine ⟨⟨k, e1, e2, e3, fun z => by rw [show (c.setSlot (RoadKit.slotOf Z O n d) v).slots.size = c.slots.size by simp [Cell.setSlot]]; exact e4 z⟩, ?_, fun x hx => ?_⟩
  · have e : (fs.set i (O, n, d, v)).map (sl3 Z) = fs.map (sl3 Z) := by
      apply List.ext_getElem?
      intro k
      simp only [List.getElem?_map, List.getElem?_set]
      split
      · rename_i e; subst e
        rw [if_pos (List.getElem?_eq_some_iff.mp hi).1, hi]; rfl
      · rfl
    rw [e]; exact nd
  · obtain ⟨m, hm⟩ := List.getElem?_of_mem hx
    rw [List.getElem?_set] at hm
    split at hm
    · split at hm
      · cases hm
        obtain ⟨cf, k', i', fd, g1, g2, g3, g4, g5, g6⟩ := ff _ (List.mem_of_getElem? hi)
        refine ⟨cf, k', i', fd, g1, g2, g3, g4, g5, ?_⟩
        have es : RoadKit.slotOf Z O n d = fd.slot := by have g1' : Z.fieldFound? O n d = some (cf, k', i', fd) := g1; simp [RoadKit.slotOf, g1']
        rw [hslots, if_pos es, if_pos (Array.getElem?_eq_some_iff.mp g6).1]
      · cases hm
    · rename_i hne
      obtain ⟨cf, k', i', fd, g1, g2, g3, g4, g5, g6⟩ := ff x (List.mem_of_getElem? hm)
      refine ⟨cf, k', i', fd, g1, g2, g3, g4, g5, ?_⟩
      have es : sl3 Z x = fd.slot := by simp [sl3, RoadKit.slotOf, g1]
      have ne : RoadKit.slotOf Z O n d ≠ fd.slot := fun e => by
        have h1 : (fs.map (sl3 Z))[i]? = some fd.slot := by simp [hi, sl3, e]
        have h2 : (fs.map (sl3 Z))[m]? = some fd.slot := by simp [hm, es]
        exact hne ((List.getElem?_inj (List.getElem?_eq_some_iff.mp h1).1 nd).mp (h1.trans h2.symm))
      rw [hslots, if_neg ne]; exact g6
theorem ARR.put {c : Cell} (q : ARR Z ty vs c) {k : Nat} (hv : fits ty v = true) : ARR Z ty (vs.set k v) (c.setSlot k v) := by
  obtain ⟨h1, h2, h3, h4, h5⟩ := q
  refine ⟨h1, h2, by simp [Cell.setSlot, h3], fun x hx => ?_, by simpa using h5⟩
  rcases List.mem_or_eq_of_mem_set hx with g | g
  · exact h4 x g
  · rw [g]; exact hv
/-- the sheet's words on the fields of a class, and their first values -/
def Laids (Z : State) (a0 : Array Value) (C : String) : List FV → Prop
  | [] => True
  | f :: r => (Laid Z a0 C f.1 f.2.1 f.2.2.1 ∧ ∃ ty, parseFieldDescriptor f.2.2.1 = some ty ∧ defaultValue ty = f.2.2.2) ∧ Laids Z a0 C r
theorem Laids.mem {a0 : Array Value} : ∀ {fs : List FV}, Laids Z a0 C fs → ∀ f ∈ fs, Laid Z a0 C f.1 f.2.1 f.2.2.1 ∧ ∃ ty, parseFieldDescriptor f.2.2.1 = some ty ∧ defaultValue ty = f.2.2.2
  | [], _, f, hf => nomatch hf
  | g :: r, q, f, hf => by
    rcases List.mem_cons.mp hf with rfl | hf
    · exact q.1
    · exact Laids.mem q.2 f hf
theorem Laids.nodup {a0 : Array Value} : ∀ {fs : List FV}, Laids Z a0 C fs → (fs.map (fun f => f.2.1)).Nodup → (fs.map (sl3 Z)).Nodup
  | [], _, _ => List.nodup_nil
  | g :: r, q, nd => by
    rw [List.map_cons, List.nodup_cons] at nd ⊢
    refine ⟨fun hm => ?_, Laids.nodup q.2 nd.2⟩
    obtain ⟨x, hx, he⟩ := List.mem_map.mp hm
    obtain ⟨l1, t1, p1, -⟩ := q.1
    obtain ⟨l2, t2, p2, -⟩ := Laids.mem q.2 x hx
    exact RoadKit.slot_ne l2 l1 (fun e => nd.1 (List.mem_map.mpr ⟨x, hx, e⟩)) p2 p1 he
theorem OBJ.new {a0 : Array Value} (E : Exa Z h a C) (D : ∀ {O nm d : String} {ty : FieldType}, Laid Z a0 C O nm d → parseFieldDescriptor d = some ty → Fld Z h a O nm d (defaultValue ty)) (q : Laids Z a0 C fs) (nd : (fs.map (fun f => f.2.1)).Nodup) :
    ∃ c, h[a]? = some c ∧ OBJ Z C fs c := by
  obtain ⟨c, k, h1, h2, h3, h4, h5⟩ := E
  refine ⟨c, h1, ⟨k, h2, h3, h4, h5⟩, q.nodup nd, fun f hf => ?_⟩
  obtain ⟨l1, ty, p1, e1⟩ := q.mem f hf
  obtain ⟨c', cf, k', i, fd, g1, g2, g3, g4, g5, g6, g7⟩ := D l1 p1
  cases h1.symm.trans g1
  exact ⟨cf, k', i, fd, g2, g3, g4, g5, g6, by rw [← e1]; exact g7⟩
end Heap
end Jvm.OwnW
namespace Jvm.OwnW
open Sem ClassFile Op Lib Jvm.Stand Jvm.Free Jvm.LawKit Jvm.RoadKit
def Stn (X : Cx) (T : State) (locs : List Loc) (ce sl : Nat) : Prop := Stand X.1 X.2.1 X.2.2.1 X.2.2.2.1 X.2.2.2.2.1 X.2.2.2.2.2.1 X.2.2.2.2.2.2.1 X.2.2.2.2.2.2.2.1 X.2.2.2.2.2.2.2.2.1 X.2.2.2.2.2.2.2.2.2 T locs ce sl
/-- from here the run comes to the method's end, and there Q holds -/
def Fn (X : Cx) (Z : State) (rc rs : Nat) (Q : Option Value → OS → Prop) (start : State) : Prop :=
  ∃ s₂ o, Steps X.1.tables X.2.2.1 X.2.2.2.2.2.2.2.1 start s₂ ∧ s₂.status = .running ∧ Ended s₂ X.2.2.2.2.2.2.2.1 o ∧ ∃ v L, o = .returned v ∧ (∃ os', Q v os' ∧ Hp Z s₂.heap os' ∧ Fr Z.heap.size L) ∧ FrameEnd X.2.2.2.2.1 o s₂ L rc rs
def WP (X : Cx) (Z : State) (rc rs : Nat) (Q : Option Value → OS → Prop) (pc : Nat) (L : List Slot) (S : List Value) (os : OS) (ce sl : Nat) : Prop :=
  ∀ T locs, Stn X T locs ce sl → Hp Z T.heap os → Fr Z.heap.size locs → Fn X Z rc rs Q (T.setTop (mkF X.2.2.2.2.2.1 pc L.toArray S))
def Ctx (X : Cx) (l : Launch) (Z : State) (R : Room) (y : MethodName) (code : ByteArray) (maxL : Nat) (ret : Option FieldType) : Prop :=
  X.2.1 = l ∧ X.2.2.2.1 = R ∧ X.1.tables.exec = Jvm.exec ∧ Z.Warmed39 X.2.2.2.2.1.vm ∧ X.2.2.2.2.2.2.2.2.2.code = code ∧ X.2.2.2.2.2.2.2.2.2.maxLocals = maxL ∧ X.2.2.2.2.1.vm.findClass y.cls = some X.2.2.2.2.2.1.cls ∧ X.2.2.2.2.2.2.2.2.1.name = y.name ∧ X.2.2.2.2.2.2.2.2.1.sig.returnType = ret ∧ X.2.2.2.2.2.2.2.2.1.locks = false
/-- the contract of a method, called with these arguments over this abstract heap -/
def OMeets (l : Launch) (Z : State) (y : MethodName) (bytes : ByteArray) (maxL : Nat) (ret : Option FieldType) (rm : Room) (as : List Value) (os : OS) (Q : Option Value → OS → Prop) : Prop :=
  ∀ h0, Hp Z h0 os → ∀ ws : List Jvm.Cond, MetFree l y (head1 (Jvm.Cond.code y bytes maxL ret :: ws) rm) (fun a U => a = as.toArray ∧ Z.Warmed39 U.vm ∧ U.heap = h0) (fun _ _ _ _ _ => True)
    (fun _ U o U' => ∃ v L, o = .returned v ∧ (∃ os', Q v os' ∧ Hp Z U'.heap os' ∧ Fr Z.heap.size L) ∧ FrameEnd U o U' L rm.cells rm.slots)
def RetV (q : Value → OS → Prop) : Option Value → OS → Prop := fun v os => ∃ x, v = some x ∧ q x os
def RetN (q : OS → Prop) : Option Value → OS → Prop := fun v os => v = none ∧ q os
def laid : List Value → List Slot
  | [] => []
  | v :: r => match v.category with
    | 2 => .val v :: .second :: laid r
    | _ => .val v :: laid r
theorem laid_fold : ∀ (as : List Value) (acc : Array Slot), as.foldl (fun acc v => if v.category = 2 then (acc.push (.val v)).push .second else acc.push (.val v)) acc = acc ++ (laid as).toArray
  | [], acc => by simp [laid]
  | v :: r, acc => by
    rw [List.foldl_cons, laid_fold r]
    have hv : v.category = 2 ∨ v.category = 1 := by cases v <;> simp [Value.category]
    rcases hv with h | h
    · rw [if_pos h]
      simp only [laid, h]
      apply Array.ext'
      simp
    · rw [if_neg (by rw [h]; decide)]
      simp only [laid, h]
      apply Array.ext'
      simp
theorem laid_eq (as : List Value) (n : Nat) {L : List Slot} (h : laid as ++ List.replicate (n - (laid as).length) .unset = L) : argsToLocals as.toArray n = L.toArray := by
  subst h
  unfold argsToLocals
  rw [List.foldl_toArray, laid_fold]
  apply Array.ext'
  simp
theorem OMeets.of_body {l : Launch} {Z : State} {y : MethodName} {bytes : ByteArray} {maxL : Nat} {ret : Option FieldType} {rm : Room} {as : List Value} {os : OS} {Q : Option Value → OS → Prop} (L : List Slot)
    (hpn : plainFor y = true) (hef : argsToLocals as.toArray maxL = L.toArray) (hk : ∀ X : Cx, Ctx X l Z rm y bytes maxL ret → WP X Z rm.cells rm.slots Q 0 L [] os 0 0) : OMeets l Z y bytes maxL ret rm as os Q := by
  intro h0 H ws
  refine MetFree.of_bodySF hpn hisR ?_
  intro p e s m args below meth c s₁ Bd hml0 hP hK
  obtain ⟨rfl, hZ, hh⟩ := hP
  have X0 : Stand p l e rm s m as.toArray below meth c s₁ [] 0 0 := Stand.of_body Bd
  have e0 : s₁.heap = h0 := by rw [← hh, Bd.state]; rfl
  obtain ⟨s2, o, st, r⟩ := hk (p, l, e, rm, s, m, as.toArray, below, meth, c) ⟨rfl, rfl, Bd.exec, hZ, Bd.bytes, hml0, findClass_of_methodNamed Bd.named, (name_of_methodNamed Bd.named Bd.method).1, Bd.returns, Bd.notSynchronized⟩ s₁ [] X0 (by rw [e0]; exact H) (Fr.nil _)
  refine ⟨s2, o, castTop (g' := mkF m 0 L.toArray []) ?_ st, r⟩
  simp only [entryFrame, mkF, hef]
theorem OMeets.weaken {l : Launch} {Z : State} {y : MethodName} {bytes : ByteArray} {maxL : Nat} {ret : Option FieldType} {rm : Room} {as : List Value} {os : OS} {Q Q' : Option Value → OS → Prop}
    (h : OMeets l Z y bytes maxL ret rm as os Q) (q : ∀ v os', Q v os' → Q' v os') : OMeets l Z y bytes maxL ret rm as os Q' := by
  intro h0 H ws p e ha hc hk s m args below hf happ hP hK
  obtain ⟨n, o, h1, h2, h3, v, L, h4, ⟨os', h5, h6⟩, h7⟩ := h h0 H ws p e ha hc hk s m args below hf happ hP hK
  exact ⟨n, o, h1, h2, h3, v, L, h4, ⟨os', q v os' h5, h6⟩, h7⟩
section Ops
variable {X : Cx} {l : Launch} {Z : State} {R : Room} {y : MethodName} {code : ByteArray} {maxL : Nat} {ret : Option FieldType} {rc rs : Nat} {Q : Option Value → OS → Prop} {pc : Nat} {L : List Slot} {S : List Value} {os os' : OS} {ce sl : Nat} {a0 : Array Value}
theorem WP.perm (p : os.Perm os') (k : WP X Z rc rs Q pc L S os' ce sl) : WP X Z rc rs Q pc L S os ce sl := fun T locs hT hH hF => k T locs hT (hH.perm p) hF
theorem WP.sub (p : List.Sublist os' os) (k : WP X Z rc rs Q pc L S os' ce sl) : WP X Z rc rs Q pc L S os ce sl := fun T locs hT hH hF => k T locs hT (hH.sub p) hF
/-- a fact out of the abstract heap -/
theorem WP.fact {F : Prop} (f : ∀ h, Hp Z h os → F) (k : F → WP X Z rc rs Q pc L S os ce sl) : WP X Z rc rs Q pc L S os ce sl := fun T locs hT hH hF => k (f _ hH) T locs hT hH hF
theorem perm_front {α : Type} {x : α} : ∀ {os : List α} (i : Nat), os[i]? = some x → os.Perm (x :: os.eraseIdx i)
  | [], i, h => by simp at h
  | y :: r, 0, h => by cases h; exact List.Perm.refl _
  | y :: r, i + 1, h => ((perm_front (os := r) i h).cons y).trans (List.Perm.swap x y _)
theorem pickHere {α : Type} {x : α} {r : List α} : (x :: r).Perm (x :: r) := List.Perm.refl _
theorem pickThere {α : Type} {x z : α} {r r' : List α} (h : r.Perm (x :: r')) : (z :: r).Perm (x :: z :: r') := (h.cons z).trans (List.Perm.swap x z r')
/-- the entry of address a comes to the front -/
theorem WP.pick {P : Cell → Prop} (a : Addr) (p : os.Perm ((a, P) :: os')) (k : WP X Z rc rs Q pc L S ((a, P) :: os') ce sl) : WP X Z rc rs Q pc L S os ce sl := WP.perm p k
theorem WP.imp0 {a : Addr} {P P2 : Cell → Prop} {r : OS} (q : ∀ c, P c → P2 c) (k : WP X Z rc rs Q pc L S ((a, P2) :: r) ce sl) : WP X Z rc rs Q pc L S ((a, P) :: r) ce sl := fun T locs hT hH hF => k T locs hT (hH.imp q) hF
/-- more cells and slots booked than were used -/
theorem WP.book {ce' sl' : Nat} (hc : ce ≤ ce') (hs : sl ≤ sl') (k : WP X Z rc rs Q pc L S os ce' sl') : WP X Z rc rs Q pc L S os ce sl := by
  intro T locs hT hH hF
  refine k T locs ?_ hH hF
  obtain ⟨h1, h2, h3, h4, h5, h6, h7, h8, h9, h10, h11, h12, h13, h14⟩ := hT
  exact ⟨h1, h2, h3, h4, h5, h6, h7, h8, h9, h10, h11, h12, h13, h14.mono hc hs⟩

theorem W.iadd {x z : Int32} (K : Ctx X l Z R y code maxL ret) (pc' : Nat) (hd : decode code pc = .ok (.iadd, 1)) (k : WP X Z rc rs Q pc' L (.int (x + z) :: S) os ce sl) (hp : pc + 1 = pc' := by rfl) : WP X Z rc rs Q pc L (.int z :: .int x :: S) os ce sl := by
  obtain ⟨p, l', e, R', s, m, args, below, meth, c⟩ := X
  obtain ⟨h1, h2, hx, hZ, hby, hml, hown, hnm, hret, hlk⟩ := K
  have h2' : R' = R := h2
  subst h2'
  subst hp
  intro T locs hT0 hH hF
  have hT : Stand p l' e R' s m args below meth c T locs ce sl := hT0
  obtain ⟨s2, o, st, r⟩ := k T locs hT hH hF
  exact ⟨s2, o, XS.iadd (Stand.here hT) hx rfl (hb hby hd) rfl st, r⟩
theorem W.isub {x z : Int32} (K : Ctx X l Z R y code maxL ret) (pc' : Nat) (hd : decode code pc = .ok (.isub, 1)) (k : WP X Z rc rs Q pc' L (.int (x - z) :: S) os ce sl) (hp : pc + 1 = pc' := by rfl) : WP X Z rc rs Q pc L (.int z :: .int x :: S) os ce sl := by
  obtain ⟨p, l', e, R', s, m, args, below, meth, c⟩ := X
  obtain ⟨h1, h2, hx, hZ, hby, hml, hown, hnm, hret, hlk⟩ := K
  have h2' : R' = R := h2
  subst h2'
  subst hp
  intro T locs hT0 hH hF
  have hT : Stand p l' e R' s m args below meth c T locs ce sl := hT0
  obtain ⟨s2, o, st, r⟩ := k T locs hT hH hF
  exact ⟨s2, o, XS.isub (Stand.here hT) hx rfl (hb hby hd) rfl st, r⟩
theorem W.imul {x z : Int32} (K : Ctx X l Z R y code maxL ret) (pc' : Nat) (hd : decode code pc = .ok (.imul, 1)) (k : WP X Z rc rs Q pc' L (.int (x * z) :: S) os ce sl) (hp : pc + 1 = pc' := by rfl) : WP X Z rc rs Q pc L (.int z :: .int x :: S) os ce sl := by
  obtain ⟨p, l', e, R', s, m, args, below, meth, c⟩ := X
  obtain ⟨h1, h2, hx, hZ, hby, hml, hown, hnm, hret, hlk⟩ := K
  have h2' : R' = R := h2
  subst h2'
  subst hp
  intro T locs hT0 hH hF
  have hT : Stand p l' e R' s m args below meth c T locs ce sl := hT0
  obtain ⟨s2, o, st, r⟩ := k T locs hT hH hF
  exact ⟨s2, o, XS.imul (Stand.here hT) hx rfl (hb hby hd) rfl st, r⟩
theorem W.iand {x z : Int32} (K : Ctx X l Z R y code maxL ret) (pc' : Nat) (hd : decode code pc = .ok (.iand, 1)) (k : WP X Z rc rs Q pc' L (.int (x &&& z) :: S) os ce sl) (hp : pc + 1 = pc' := by rfl) : WP X Z rc rs Q pc L (.int z :: .int x :: S) os ce sl := by
  obtain ⟨p, l', e, R', s, m, args, below, meth, c⟩ := X
  obtain ⟨h1, h2, hx, hZ, hby, hml, hown, hnm, hret, hlk⟩ := K
  have h2' : R' = R := h2
  subst h2'
  subst hp
  intro T locs hT0 hH hF
  have hT : Stand p l' e R' s m args below meth c T locs ce sl := hT0
  obtain ⟨s2, o, st, r⟩ := k T locs hT hH hF
  exact ⟨s2, o, XS.iand (Stand.here hT) hx rfl (hb hby hd) rfl st, r⟩
theorem W.ior {x z : Int32} (K : Ctx X l Z R y code maxL ret) (pc' : Nat) (hd : decode code pc = .ok (.ior, 1)) (k : WP X Z rc rs Q pc' L (.int (x ||| z) :: S) os ce sl) (hp : pc + 1 = pc' := by rfl) : WP X Z rc rs Q pc L (.int z :: .int x :: S) os ce sl := by
  obtain ⟨p, l', e, R', s, m, args, below, meth, c⟩ := X
  obtain ⟨h1, h2, hx, hZ, hby, hml, hown, hnm, hret, hlk⟩ := K
  have h2' : R' = R := h2
  subst h2'
  subst hp
  intro T locs hT0 hH hF
  have hT : Stand p l' e R' s m args below meth c T locs ce sl := hT0
  obtain ⟨s2, o, st, r⟩ := k T locs hT hH hF
  exact ⟨s2, o, XS.ior (Stand.here hT) hx rfl (hb hby hd) rfl st, r⟩
theorem W.ixor {x z : Int32} (K : Ctx X l Z R y code maxL ret) (pc' : Nat) (hd : decode code pc = .ok (.ixor, 1)) (k : WP X Z rc rs Q pc' L (.int (x ^^^ z) :: S) os ce sl) (hp : pc + 1 = pc' := by rfl) : WP X Z rc rs Q pc L (.int z :: .int x :: S) os ce sl := by
  obtain ⟨p, l', e, R', s, m, args, below, meth, c⟩ := X
  obtain ⟨h1, h2, hx, hZ, hby, hml, hown, hnm, hret, hlk⟩ := K
  have h2' : R' = R := h2
  subst h2'
  subst hp
  intro T locs hT0 hH hF
  have hT : Stand p l' e R' s m args below meth c T locs ce sl := hT0
  obtain ⟨s2, o, st, r⟩ := k T locs hT hH hF
  exact ⟨s2, o, XS.ixor (Stand.here hT) hx rfl (hb hby hd) rfl st, r⟩
theorem W.ishl {x z : Int32} (K : Ctx X l Z R y code maxL ret) (pc' : Nat) (hd : decode code pc = .ok (.ishl, 1)) (k : WP X Z rc rs Q pc' L (.int (x <<< (z &&& 31)) :: S) os ce sl) (hp : pc + 1 = pc' := by rfl) : WP X Z rc rs Q pc L (.int z :: .int x :: S) os ce sl := by
  obtain ⟨p, l', e, R', s, m, args, below, meth, c⟩ := X
  obtain ⟨h1, h2, hx, hZ, hby, hml, hown, hnm, hret, hlk⟩ := K
  have h2' : R' = R := h2
  subst h2'
  subst hp
  intro T locs hT0 hH hF
  have hT : Stand p l' e R' s m args below meth c T locs ce sl := hT0
  obtain ⟨s2, o, st, r⟩ := k T locs hT hH hF
  exact ⟨s2, o, XS.ishl (Stand.here hT) hx rfl (hb hby hd) rfl st, r⟩
theorem W.ishr {x z : Int32} (K : Ctx X l Z R y code maxL ret) (pc' : Nat) (hd : decode code pc = .ok (.ishr, 1)) (k : WP X Z rc rs Q pc' L (.int (x >>> (z &&& 31)) :: S) os ce sl) (hp : pc + 1 = pc' := by rfl) : WP X Z rc rs Q pc L (.int z :: .int x :: S) os ce sl := by
  obtain ⟨p, l', e, R', s, m, args, below, meth, c⟩ := X
  obtain ⟨h1, h2, hx, hZ, hby, hml, hown, hnm, hret, hlk⟩ := K
  have h2' : R' = R := h2
  subst h2'
  subst hp
  intro T locs hT0 hH hF
  have hT : Stand p l' e R' s m args below meth c T locs ce sl := hT0
  obtain ⟨s2, o, st, r⟩ := k T locs hT hH hF
  exact ⟨s2, o, XS.ishr (Stand.here hT) hx rfl (hb hby hd) rfl st, r⟩
theorem W.iushr {x z : Int32} (K : Ctx X l Z R y code maxL ret) (pc' : Nat) (hd : decode code pc = .ok (.iushr, 1)) (k : WP X Z rc rs Q pc' L (.int ((x.toUInt32 >>> (z &&& 31).toUInt32).toInt32) :: S) os ce sl) (hp : pc + 1 = pc' := by rfl) : WP X Z rc rs Q pc L (.int z :: .int x :: S) os ce sl := by
  obtain ⟨p, l', e, R', s, m, args, below, meth, c⟩ := X
  obtain ⟨h1, h2, hx, hZ, hby, hml, hown, hnm, hret, hlk⟩ := K
  have h2' : R' = R := h2
  subst h2'
  subst hp
  intro T locs hT0 hH hF
  have hT : Stand p l' e R' s m args below meth c T locs ce sl := hT0
  obtain ⟨s2, o, st, r⟩ := k T locs hT hH hF
  exact ⟨s2, o, XS.iushr (Stand.here hT) hx rfl (hb hby hd) rfl st, r⟩
theorem W.ladd {x z : Int64} (K : Ctx X l Z R y code maxL ret) (pc' : Nat) (hd : decode code pc = .ok (.ladd, 1)) (k : WP X Z rc rs Q pc' L (.long (x + z) :: S) os ce sl) (hp : pc + 1 = pc' := by rfl) : WP X Z rc rs Q pc L (.long z :: .long x :: S) os ce sl := by
  obtain ⟨p, l', e, R', s, m, args, below, meth, c⟩ := X
  obtain ⟨h1, h2, hx, hZ, hby, hml, hown, hnm, hret, hlk⟩ := K
  have h2' : R' = R := h2
  subst h2'
  subst hp
  intro T locs hT0 hH hF
  have hT : Stand p l' e R' s m args below meth c T locs ce sl := hT0
  obtain ⟨s2, o, st, r⟩ := k T locs hT hH hF
  exact ⟨s2, o, XS.ladd (Stand.here hT) hx rfl (hb hby hd) rfl st, r⟩
theorem W.lsub {x z : Int64} (K : Ctx X l Z R y code maxL ret) (pc' : Nat) (hd : decode code pc = .ok (.lsub, 1)) (k : WP X Z rc rs Q pc' L (.long (x - z) :: S) os ce sl) (hp : pc + 1 = pc' := by rfl) : WP X Z rc rs Q pc L (.long z :: .long x :: S) os ce sl := by
  obtain ⟨p, l', e, R', s, m, args, below, meth, c⟩ := X
  obtain ⟨h1, h2, hx, hZ, hby, hml, hown, hnm, hret, hlk⟩ := K
  have h2' : R' = R := h2
  subst h2'
  subst hp
  intro T locs hT0 hH hF
  have hT : Stand p l' e R' s m args below meth c T locs ce sl := hT0
  obtain ⟨s2, o, st, r⟩ := k T locs hT hH hF
  exact ⟨s2, o, XS.lsub (Stand.here hT) hx rfl (hb hby hd) rfl st, r⟩
theorem W.lmul {x z : Int64} (K : Ctx X l Z R y code maxL ret) (pc' : Nat) (hd : decode code pc = .ok (.lmul, 1)) (k : WP X Z rc rs Q pc' L (.long (x * z) :: S) os ce sl) (hp : pc + 1 = pc' := by rfl) : WP X Z rc rs Q pc L (.long z :: .long x :: S) os ce sl := by
  obtain ⟨p, l', e, R', s, m, args, below, meth, c⟩ := X
  obtain ⟨h1, h2, hx, hZ, hby, hml, hown, hnm, hret, hlk⟩ := K
  have h2' : R' = R := h2
  subst h2'
  subst hp
  intro T locs hT0 hH hF
  have hT : Stand p l' e R' s m args below meth c T locs ce sl := hT0
  obtain ⟨s2, o, st, r⟩ := k T locs hT hH hF
  exact ⟨s2, o, XS.lmul (Stand.here hT) hx rfl (hb hby hd) rfl st, r⟩
theorem W.land {x z : Int64} (K : Ctx X l Z R y code maxL ret) (pc' : Nat) (hd : decode code pc = .ok (.land, 1)) (k : WP X Z rc rs Q pc' L (.long (x &&& z) :: S) os ce sl) (hp : pc + 1 = pc' := by rfl) : WP X Z rc rs Q pc L (.long z :: .long x :: S) os ce sl := by
  obtain ⟨p, l', e, R', s, m, args, below, meth, c⟩ := X
  obtain ⟨h1, h2, hx, hZ, hby, hml, hown, hnm, hret, hlk⟩ := K
  have h2' : R' = R := h2
  subst h2'
  subst hp
  intro T locs hT0 hH hF
  have hT : Stand p l' e R' s m args below meth c T locs ce sl := hT0
  obtain ⟨s2, o, st, r⟩ := k T locs hT hH hF
  exact ⟨s2, o, XS.land (Stand.here hT) hx rfl (hb hby hd) rfl st, r⟩
theorem W.lor {x z : Int64} (K : Ctx X l Z R y code maxL ret) (pc' : Nat) (hd : decode code pc = .ok (.lor, 1)) (k : WP X Z rc rs Q pc' L (.long (x ||| z) :: S) os ce sl) (hp : pc + 1 = pc' := by rfl) : WP X Z rc rs Q pc L (.long z :: .long x :: S) os ce sl := by
  obtain ⟨p, l', e, R', s, m, args, below, meth, c⟩ := X
  obtain ⟨h1, h2, hx, hZ, hby, hml, hown, hnm, hret, hlk⟩ := K
  have h2' : R' = R := h2
  subst h2'
  subst hp
  intro T locs hT0 hH hF
  have hT : Stand p l' e R' s m args below meth c T locs ce sl := hT0
  obtain ⟨s2, o, st, r⟩ := k T locs hT hH hF
  exact ⟨s2, o, XS.lor (Stand.here hT) hx rfl (hb hby hd) rfl st, r⟩
theorem W.lxor {x z : Int64} (K : Ctx X l Z R y code maxL ret) (pc' : Nat) (hd : decode code pc = .ok (.lxor, 1)) (k : WP X Z rc rs Q pc' L (.long (x ^^^ z) :: S) os ce sl) (hp : pc + 1 = pc' := by rfl) : WP X Z rc rs Q pc L (.long z :: .long x :: S) os ce sl := by
  obtain ⟨p, l', e, R', s, m, args, below, meth, c⟩ := X
  obtain ⟨h1, h2, hx, hZ, hby, hml, hown, hnm, hret, hlk⟩ := K
  have h2' : R' = R := h2
  subst h2'
  subst hp
  intro T locs hT0 hH hF
  have hT : Stand p l' e R' s m args below meth c T locs ce sl := hT0
  obtain ⟨s2, o, st, r⟩ := k T locs hT hH hF
  exact ⟨s2, o, XS.lxor (Stand.here hT) hx rfl (hb hby hd) rfl st, r⟩
theorem W.lshl {x : Int64} {z : Int32} (K : Ctx X l Z R y code maxL ret) (pc' : Nat) (hd : decode code pc = .ok (.lshl, 1)) (k : WP X Z rc rs Q pc' L (.long (x <<< (z &&& 0x3f).toInt64) :: S) os ce sl) (hp : pc + 1 = pc' := by rfl) : WP X Z rc rs Q pc L (.int z :: .long x :: S) os ce sl := by
  obtain ⟨p, l', e, R', s, m, args, below, meth, c⟩ := X
  obtain ⟨h1, h2, hx, hZ, hby, hml, hown, hnm, hret, hlk⟩ := K
  have h2' : R' = R := h2
  subst h2'
  subst hp
  intro T locs hT0 hH hF
  have hT : Stand p l' e R' s m args below meth c T locs ce sl := hT0
  obtain ⟨s2, o, st, r⟩ := k T locs hT hH hF
  exact ⟨s2, o, XS.lshl (Stand.here hT) hx rfl (hb hby hd) rfl st, r⟩
theorem W.lshr {x : Int64} {z : Int32} (K : Ctx X l Z R y code maxL ret) (pc' : Nat) (hd : decode code pc = .ok (.lshr, 1)) (k : WP X Z rc rs Q pc' L (.long (x >>> (z &&& 0x3f).toInt64) :: S) os ce sl) (hp : pc + 1 = pc' := by rfl) : WP X Z rc rs Q pc L (.int z :: .long x :: S) os ce sl := by
  obtain ⟨p, l', e, R', s, m, args, below, meth, c⟩ := X
  obtain ⟨h1, h2, hx, hZ, hby, hml, hown, hnm, hret, hlk⟩ := K
  have h2' : R' = R := h2
  subst h2'
  subst hp
  intro T locs hT0 hH hF
  have hT : Stand p l' e R' s m args below meth c T locs ce sl := hT0
  obtain ⟨s2, o, st, r⟩ := k T locs hT hH hF
  exact ⟨s2, o, XS.lshr (Stand.here hT) hx rfl (hb hby hd) rfl st, r⟩
theorem W.lushr {x : Int64} {z : Int32} (K : Ctx X l Z R y code maxL ret) (pc' : Nat) (hd : decode code pc = .ok (.lushr, 1)) (k : WP X Z rc rs Q pc' L (.long ((x.toUInt64 >>> (z &&& 0x3f).toInt64.toUInt64).toInt64) :: S) os ce sl) (hp : pc + 1 = pc' := by rfl) : WP X Z rc rs Q pc L (.int z :: .long x :: S) os ce sl := by
  obtain ⟨p, l', e, R', s, m, args, below, meth, c⟩ := X
  obtain ⟨h1, h2, hx, hZ, hby, hml, hown, hnm, hret, hlk⟩ := K
  have h2' : R' = R := h2
  subst h2'
  subst hp
  intro T locs hT0 hH hF
  have hT : Stand p l' e R' s m args below meth c T locs ce sl := hT0
  obtain ⟨s2, o, st, r⟩ := k T locs hT hH hF
  exact ⟨s2, o, XS.lushr (Stand.here hT) hx rfl (hb hby hd) rfl st, r⟩
theorem W.ineg {x : Int32} (K : Ctx X l Z R y code maxL ret) (pc' : Nat) (hd : decode code pc = .ok (.ineg, 1)) (k : WP X Z rc rs Q pc' L (.int (-x) :: S) os ce sl) (hp : pc + 1 = pc' := by rfl) : WP X Z rc rs Q pc L (.int x :: S) os ce sl := by
  obtain ⟨p, l', e, R', s, m, args, below, meth, c⟩ := X
  obtain ⟨h1, h2, hx, hZ, hby, hml, hown, hnm, hret, hlk⟩ := K
  have h2' : R' = R := h2
  subst h2'
  subst hp
  intro T locs hT0 hH hF
  have hT : Stand p l' e R' s m args below meth c T locs ce sl := hT0
  obtain ⟨s2, o, st, r⟩ := k T locs hT hH hF
  exact ⟨s2, o, XS.ineg (Stand.here hT) hx rfl (hb hby hd) rfl st, r⟩
theorem W.lneg {x : Int64} (K : Ctx X l Z R y code maxL ret) (pc' : Nat) (hd : decode code pc = .ok (.lneg, 1)) (k : WP X Z rc rs Q pc' L (.long (-x) :: S) os ce sl) (hp : pc + 1 = pc' := by rfl) : WP X Z rc rs Q pc L (.long x :: S) os ce sl := by
  obtain ⟨p, l', e, R', s, m, args, below, meth, c⟩ := X
  obtain ⟨h1, h2, hx, hZ, hby, hml, hown, hnm, hret, hlk⟩ := K
  have h2' : R' = R := h2
  subst h2'
  subst hp
  intro T locs hT0 hH hF
  have hT : Stand p l' e R' s m args below meth c T locs ce sl := hT0
  obtain ⟨s2, o, st, r⟩ := k T locs hT hH hF
  exact ⟨s2, o, XS.lneg (Stand.here hT) hx rfl (hb hby hd) rfl st, r⟩
theorem W.i2l {x : Int32} (K : Ctx X l Z R y code maxL ret) (pc' : Nat) (hd : decode code pc = .ok (.i2l, 1)) (k : WP X Z rc rs Q pc' L (.long x.toInt64 :: S) os ce sl) (hp : pc + 1 = pc' := by rfl) : WP X Z rc rs Q pc L (.int x :: S) os ce sl := by
  obtain ⟨p, l', e, R', s, m, args, below, meth, c⟩ := X
  obtain ⟨h1, h2, hx, hZ, hby, hml, hown, hnm, hret, hlk⟩ := K
  have h2' : R' = R := h2
  subst h2'
  subst hp
  intro T locs hT0 hH hF
  have hT : Stand p l' e R' s m args below meth c T locs ce sl := hT0
  obtain ⟨s2, o, st, r⟩ := k T locs hT hH hF
  exact ⟨s2, o, XS.i2l (Stand.here hT) hx rfl (hb hby hd) rfl st, r⟩
theorem W.l2i {x : Int64} (K : Ctx X l Z R y code maxL ret) (pc' : Nat) (hd : decode code pc = .ok (.l2i, 1)) (k : WP X Z rc rs Q pc' L (.int x.toInt32 :: S) os ce sl) (hp : pc + 1 = pc' := by rfl) : WP X Z rc rs Q pc L (.long x :: S) os ce sl := by
  obtain ⟨p, l', e, R', s, m, args, below, meth, c⟩ := X
  obtain ⟨h1, h2, hx, hZ, hby, hml, hown, hnm, hret, hlk⟩ := K
  have h2' : R' = R := h2
  subst h2'
  subst hp
  intro T locs hT0 hH hF
  have hT : Stand p l' e R' s m args below meth c T locs ce sl := hT0
  obtain ⟨s2, o, st, r⟩ := k T locs hT hH hF
  exact ⟨s2, o, XS.l2i (Stand.here hT) hx rfl (hb hby hd) rfl st, r⟩
theorem W.i2b {x : Int32} (K : Ctx X l Z R y code maxL ret) (pc' : Nat) (hd : decode code pc = .ok (.i2b, 1)) (k : WP X Z rc rs Q pc' L (.int x.toInt8.toInt32 :: S) os ce sl) (hp : pc + 1 = pc' := by rfl) : WP X Z rc rs Q pc L (.int x :: S) os ce sl := by
  obtain ⟨p, l', e, R', s, m, args, below, meth, c⟩ := X
  obtain ⟨h1, h2, hx, hZ, hby, hml, hown, hnm, hret, hlk⟩ := K
  have h2' : R' = R := h2
  subst h2'
  subst hp
  intro T locs hT0 hH hF
  have hT : Stand p l' e R' s m args below meth c T locs ce sl := hT0
  obtain ⟨s2, o, st, r⟩ := k T locs hT hH hF
  exact ⟨s2, o, XS.i2b (Stand.here hT) hx rfl (hb hby hd) rfl st, r⟩
theorem W.i2c {x : Int32} (K : Ctx X l Z R y code maxL ret) (pc' : Nat) (hd : decode code pc = .ok (.i2c, 1)) (k : WP X Z rc rs Q pc' L (.int x.toUInt32.toUInt16.toUInt32.toInt32 :: S) os ce sl) (hp : pc + 1 = pc' := by rfl) : WP X Z rc rs Q pc L (.int x :: S) os ce sl := by
  obtain ⟨p, l', e, R', s, m, args, below, meth, c⟩ := X
  obtain ⟨h1, h2, hx, hZ, hby, hml, hown, hnm, hret, hlk⟩ := K
  have h2' : R' = R := h2
  subst h2'
  subst hp
  intro T locs hT0 hH hF
  have hT : Stand p l' e R' s m args below meth c T locs ce sl := hT0
  obtain ⟨s2, o, st, r⟩ := k T locs hT hH hF
  exact ⟨s2, o, XS.i2c (Stand.here hT) hx rfl (hb hby hd) rfl st, r⟩
theorem W.i2s {x : Int32} (K : Ctx X l Z R y code maxL ret) (pc' : Nat) (hd : decode code pc = .ok (.i2s, 1)) (k : WP X Z rc rs Q pc' L (.int x.toInt16.toInt32 :: S) os ce sl) (hp : pc + 1 = pc' := by rfl) : WP X Z rc rs Q pc L (.int x :: S) os ce sl := by
  obtain ⟨p, l', e, R', s, m, args, below, meth, c⟩ := X
  obtain ⟨h1, h2, hx, hZ, hby, hml, hown, hnm, hret, hlk⟩ := K
  have h2' : R' = R := h2
  subst h2'
  subst hp
  intro T locs hT0 hH hF
  have hT : Stand p l' e R' s m args below meth c T locs ce sl := hT0
  obtain ⟨s2, o, st, r⟩ := k T locs hT hH hF
  exact ⟨s2, o, XS.i2s (Stand.here hT) hx rfl (hb hby hd) rfl st, r⟩
theorem W.idiv {x z : Int32} (K : Ctx X l Z R y code maxL ret) (pc' : Nat) (hd : decode code pc = .ok (.idiv, 1)) (hz : z ≠ 0) (k : WP X Z rc rs Q pc' L (.int (x / z) :: S) os ce sl) (hp : pc + 1 = pc' := by rfl) : WP X Z rc rs Q pc L (.int z :: .int x :: S) os ce sl := by
  obtain ⟨p, l', e, R', s, m, args, below, meth, c⟩ := X
  obtain ⟨h1, h2, hx, hZ, hby, hml, hown, hnm, hret, hlk⟩ := K
  have h2' : R' = R := h2
  subst h2'
  subst hp
  intro T locs hT0 hH hF
  have hT : Stand p l' e R' s m args below meth c T locs ce sl := hT0
  obtain ⟨s2, o, st, r⟩ := k T locs hT hH hF
  exact ⟨s2, o, XS.idiv (Stand.here hT) hx rfl (hb hby hd) rfl hz st, r⟩
theorem W.ldiv {x z : Int64} (K : Ctx X l Z R y code maxL ret) (pc' : Nat) (hd : decode code pc = .ok (.ldiv, 1)) (hz : z ≠ 0) (k : WP X Z rc rs Q pc' L (.long (x / z) :: S) os ce sl) (hp : pc + 1 = pc' := by rfl) : WP X Z rc rs Q pc L (.long z :: .long x :: S) os ce sl := by
  obtain ⟨p, l', e, R', s, m, args, below, meth, c⟩ := X
  obtain ⟨h1, h2, hx, hZ, hby, hml, hown, hnm, hret, hlk⟩ := K
  have h2' : R' = R := h2
  subst h2'
  subst hp
  intro T locs hT0 hH hF
  have hT : Stand p l' e R' s m args below meth c T locs ce sl := hT0
  obtain ⟨s2, o, st, r⟩ := k T locs hT hH hF
  exact ⟨s2, o, XS.ldiv (Stand.here hT) hx rfl (hb hby hd) rfl hz st, r⟩
theorem W.irem {x z : Int32} (K : Ctx X l Z R y code maxL ret) (pc' : Nat) (hd : decode code pc = .ok (.irem, 1)) (hz : z ≠ 0) (k : WP X Z rc rs Q pc' L (.int (x % z) :: S) os ce sl) (hp : pc + 1 = pc' := by rfl) : WP X Z rc rs Q pc L (.int z :: .int x :: S) os ce sl := by
  obtain ⟨p, l', e, R', s, m, args, below, meth, c⟩ := X
  obtain ⟨h1, h2, hx, hZ, hby, hml, hown, hnm, hret, hlk⟩ := K
  have h2' : R' = R := h2
  subst h2'
  subst hp
  intro T locs hT0 hH hF
  have hT : Stand p l' e R' s m args below meth c T locs ce sl := hT0
  obtain ⟨s2, o, st, r⟩ := k T locs hT hH hF
  exact ⟨s2, o, iremM hT hx rfl (hb hby hd) rfl hz st, r⟩
theorem W.dup {x : Value} (K : Ctx X l Z R y code maxL ret) (pc' : Nat) (hd : decode code pc = .ok (.dup, 1)) (k : WP X Z rc rs Q pc' L (x :: x :: S) os ce sl) (hc : x.category = 1 := by rfl) (hp : pc + 1 = pc' := by rfl) : WP X Z rc rs Q pc L (x :: S) os ce sl := by
  obtain ⟨p, l', e, R', s, m, args, below, meth, c⟩ := X
  obtain ⟨h1, h2, hx, hZ, hby, hml, hown, hnm, hret, hlk⟩ := K
  have h2' : R' = R := h2
  subst h2'
  subst hp
  intro T locs hT0 hH hF
  have hT : Stand p l' e R' s m args below meth c T locs ce sl := hT0
  obtain ⟨s2, o, st, r⟩ := k T locs hT hH hF
  exact ⟨s2, o, XS.dup (Stand.here hT) hx rfl (hb hby hd) rfl hc st, r⟩
theorem W.popx {x : Value} (K : Ctx X l Z R y code maxL ret) (pc' : Nat) (hd : decode code pc = .ok (.pop, 1)) (k : WP X Z rc rs Q pc' L S os ce sl) (hc : x.category = 1 := by rfl) (hp : pc + 1 = pc' := by rfl) : WP X Z rc rs Q pc L (x :: S) os ce sl := by
  obtain ⟨p, l', e, R', s, m, args, below, meth, c⟩ := X
  obtain ⟨h1, h2, hx, hZ, hby, hml, hown, hnm, hret, hlk⟩ := K
  have h2' : R' = R := h2
  subst h2'
  subst hp
  intro T locs hT0 hH hF
  have hT : Stand p l' e R' s m args below meth c T locs ce sl := hT0
  obtain ⟨s2, o, st, r⟩ := k T locs hT hH hF
  exact ⟨s2, o, XS.pop (Stand.here hT) hx rfl (hb hby hd) rfl hc st, r⟩
theorem W.dupX1 {x z : Value} (K : Ctx X l Z R y code maxL ret) (pc' : Nat) (hd : decode code pc = .ok (.dup_x1, 1)) (k : WP X Z rc rs Q pc' L (x :: z :: x :: S) os ce sl) (hc : x.category = 1 := by rfl) (hc2 : z.category = 1 := by rfl) (hp : pc + 1 = pc' := by rfl) : WP X Z rc rs Q pc L (x :: z :: S) os ce sl := by
  obtain ⟨p, l', e, R', s, m, args, below, meth, c⟩ := X
  obtain ⟨h1, h2, hx, hZ, hby, hml, hown, hnm, hret, hlk⟩ := K
  have h2' : R' = R := h2
  subst h2'
  subst hp
  intro T locs hT0 hH hF
  have hT : Stand p l' e R' s m args below meth c T locs ce sl := hT0
  obtain ⟨s2, o, st, r⟩ := k T locs hT hH hF
  exact ⟨s2, o, XS.dupX1 (Stand.here hT) hx rfl (hb hby hd) rfl hc hc2 st, r⟩
theorem W.dup2 {x z : Value} (K : Ctx X l Z R y code maxL ret) (pc' : Nat) (hd : decode code pc = .ok (.dup2, 1)) (k : WP X Z rc rs Q pc' L (x :: z :: x :: z :: S) os ce sl) (hc : x.category = 1 := by rfl) (hc2 : z.category = 1 := by rfl) (hp : pc + 1 = pc' := by rfl) : WP X Z rc rs Q pc L (x :: z :: S) os ce sl := by
  obtain ⟨p, l', e, R', s, m, args, below, meth, c⟩ := X
  obtain ⟨h1, h2, hx, hZ, hby, hml, hown, hnm, hret, hlk⟩ := K
  have h2' : R' = R := h2
  subst h2'
  subst hp
  intro T locs hT0 hH hF
  have hT : Stand p l' e R' s m args below meth c T locs ce sl := hT0
  obtain ⟨s2, o, st, r⟩ := k T locs hT hH hF
  exact ⟨s2, o, XT.dup2 (Stand.here hT) hx rfl (hb hby hd) rfl hc hc2 st, r⟩
theorem W.dup2L {x : Int64} (K : Ctx X l Z R y code maxL ret) (pc' : Nat) (hd : decode code pc = .ok (.dup2, 1)) (k : WP X Z rc rs Q pc' L (.long x :: .long x :: S) os ce sl)  (hp : pc + 1 = pc' := by rfl) : WP X Z rc rs Q pc L (.long x :: S) os ce sl := by
  obtain ⟨p, l', e, R', s, m, args, below, meth, c⟩ := X
  obtain ⟨h1, h2, hx, hZ, hby, hml, hown, hnm, hret, hlk⟩ := K
  have h2' : R' = R := h2
  subst h2'
  subst hp
  intro T locs hT0 hH hF
  have hT : Stand p l' e R' s m args below meth c T locs ce sl := hT0
  obtain ⟨s2, o, st, r⟩ := k T locs hT hH hF
  exact ⟨s2, o, XT.dup2L (Stand.here hT) hx rfl (hb hby hd) rfl st, r⟩
theorem W.iconst {i : Int} (K : Ctx X l Z R y code maxL ret) (pc' : Nat) (hd : decode code pc = .ok (.iconst i, 1)) (v : Int32) (hv : Int32.ofInt i = v) (k : WP X Z rc rs Q pc' L (.int v :: S) os ce sl) (hp : pc + 1 = pc' := by rfl) : WP X Z rc rs Q pc L S os ce sl := by
  obtain ⟨p, l', e, R', s, m, args, below, meth, c⟩ := X
  obtain ⟨h1, h2, hx, hZ, hby, hml, hown, hnm, hret, hlk⟩ := K
  have h2' : R' = R := h2
  subst h2'
  subst hp
  intro T locs hT0 hH hF
  have hT : Stand p l' e R' s m args below meth c T locs ce sl := hT0
  obtain ⟨s2, o, st, r⟩ := k T locs hT hH hF
  exact ⟨s2, o, XS.iconst (Stand.here hT) hx rfl (hb hby hd) (hv ▸ st), r⟩
theorem W.bipush {i : Int} (K : Ctx X l Z R y code maxL ret) (pc' : Nat) (hd : decode code pc = .ok (.bipush i, 2)) (v : Int32) (hv : (Int8.ofInt i).toInt32 = v) (k : WP X Z rc rs Q pc' L (.int v :: S) os ce sl) (hp : pc + 2 = pc' := by rfl) : WP X Z rc rs Q pc L S os ce sl := by
  obtain ⟨p, l', e, R', s, m, args, below, meth, c⟩ := X
  obtain ⟨h1, h2, hx, hZ, hby, hml, hown, hnm, hret, hlk⟩ := K
  have h2' : R' = R := h2
  subst h2'
  subst hp
  intro T locs hT0 hH hF
  have hT : Stand p l' e R' s m args below meth c T locs ce sl := hT0
  obtain ⟨s2, o, st, r⟩ := k T locs hT hH hF
  exact ⟨s2, o, XS.bipush (Stand.here hT) hx rfl (hb hby hd) (hv ▸ st), r⟩
theorem W.sipush {i : Int} (K : Ctx X l Z R y code maxL ret) (pc' : Nat) (hd : decode code pc = .ok (.sipush i, 3)) (v : Int32) (hv : (Int16.ofInt i).toInt32 = v) (k : WP X Z rc rs Q pc' L (.int v :: S) os ce sl) (hp : pc + 3 = pc' := by rfl) : WP X Z rc rs Q pc L S os ce sl := by
  obtain ⟨p, l', e, R', s, m, args, below, meth, c⟩ := X
  obtain ⟨h1, h2, hx, hZ, hby, hml, hown, hnm, hret, hlk⟩ := K
  have h2' : R' = R := h2
  subst h2'
  subst hp
  intro T locs hT0 hH hF
  have hT : Stand p l' e R' s m args below meth c T locs ce sl := hT0
  obtain ⟨s2, o, st, r⟩ := k T locs hT hH hF
  exact ⟨s2, o, XS.sipush (Stand.here hT) hx rfl (hb hby hd) (hv ▸ st), r⟩
theorem W.lconst {i : Fin 2} (K : Ctx X l Z R y code maxL ret) (pc' : Nat) (hd : decode code pc = .ok (.lconst i, 1)) (v : Int64) (hv : Int64.ofNat i = v) (k : WP X Z rc rs Q pc' L (.long v :: S) os ce sl) (hp : pc + 1 = pc' := by rfl) : WP X Z rc rs Q pc L S os ce sl := by
  obtain ⟨p, l', e, R', s, m, args, below, meth, c⟩ := X
  obtain ⟨h1, h2, hx, hZ, hby, hml, hown, hnm, hret, hlk⟩ := K
  have h2' : R' = R := h2
  subst h2'
  subst hp
  intro T locs hT0 hH hF
  have hT : Stand p l' e R' s m args below meth c T locs ce sl := hT0
  obtain ⟨s2, o, st, r⟩ := k T locs hT hH hF
  exact ⟨s2, o, XS.lconst (Stand.here hT) hx rfl (hb hby hd) (hv ▸ st), r⟩
theorem W.aconst  (K : Ctx X l Z R y code maxL ret) (pc' : Nat) (hd : decode code pc = .ok (.aconst_null, 1)) (k : WP X Z rc rs Q pc' L (.null :: S) os ce sl) (hp : pc + 1 = pc' := by rfl) : WP X Z rc rs Q pc L S os ce sl := by
  obtain ⟨p, l', e, R', s, m, args, below, meth, c⟩ := X
  obtain ⟨h1, h2, hx, hZ, hby, hml, hown, hnm, hret, hlk⟩ := K
  have h2' : R' = R := h2
  subst h2'
  subst hp
  intro T locs hT0 hH hF
  have hT : Stand p l' e R' s m args below meth c T locs ce sl := hT0
  obtain ⟨s2, o, st, r⟩ := k T locs hT hH hF
  exact ⟨s2, o, XS.aconstNull (Stand.here hT) hx rfl (hb hby hd) st, r⟩
theorem W.iload {n : Nat} {v : Int32} (K : Ctx X l Z R y code maxL ret) (pc' : Nat) (hd : decode code pc = .ok (.iload n, 2)) (hl : L[n]? = some (.val (.int v))) (k : WP X Z rc rs Q pc' L (.int v :: S) os ce sl) (hp : pc + 2 = pc' := by rfl) : WP X Z rc rs Q pc L S os ce sl := by
  obtain ⟨p, l', e, R', s, m, args, below, meth, c⟩ := X
  obtain ⟨h1, h2, hx, hZ, hby, hml, hown, hnm, hret, hlk⟩ := K
  have h2' : R' = R := h2
  subst h2'
  subst hp
  intro T locs hT0 hH hF
  have hT : Stand p l' e R' s m args below meth c T locs ce sl := hT0
  obtain ⟨s2, o, st, r⟩ := k T locs hT hH hF
  exact ⟨s2, o, XS.iload (Stand.here hT) hx rfl (hb hby hd) (by simpa using hl) st, r⟩
theorem W.iloadN {n : Fin 4} {v : Int32} (K : Ctx X l Z R y code maxL ret) (pc' : Nat) (hd : decode code pc = .ok (.iload_n n, 1)) (i : Nat) (hi : n.val = i) (hl : L[i]? = some (.val (.int v))) (k : WP X Z rc rs Q pc' L (.int v :: S) os ce sl) (hp : pc + 1 = pc' := by rfl) : WP X Z rc rs Q pc L S os ce sl := by
  obtain ⟨p, l', e, R', s, m, args, below, meth, c⟩ := X
  obtain ⟨h1, h2, hx, hZ, hby, hml, hown, hnm, hret, hlk⟩ := K
  have h2' : R' = R := h2
  subst h2'
  subst hp
  intro T locs hT0 hH hF
  have hT : Stand p l' e R' s m args below meth c T locs ce sl := hT0
  obtain ⟨s2, o, st, r⟩ := k T locs hT hH hF
  exact ⟨s2, o, XS.iloadN (Stand.here hT) hx rfl (hb hby hd) (by rw [hi]; simpa using hl) st, r⟩
theorem W.lload {n : Nat} {v : Int64} (K : Ctx X l Z R y code maxL ret) (pc' : Nat) (hd : decode code pc = .ok (.lload n, 2)) (hl : L[n]? = some (.val (.long v))) (k : WP X Z rc rs Q pc' L (.long v :: S) os ce sl) (hp : pc + 2 = pc' := by rfl) : WP X Z rc rs Q pc L S os ce sl := by
  obtain ⟨p, l', e, R', s, m, args, below, meth, c⟩ := X
  obtain ⟨h1, h2, hx, hZ, hby, hml, hown, hnm, hret, hlk⟩ := K
  have h2' : R' = R := h2
  subst h2'
  subst hp
  intro T locs hT0 hH hF
  have hT : Stand p l' e R' s m args below meth c T locs ce sl := hT0
  obtain ⟨s2, o, st, r⟩ := k T locs hT hH hF
  exact ⟨s2, o, XS.lload (Stand.here hT) hx rfl (hb hby hd) (by simpa using hl) st, r⟩
theorem W.lloadN {n : Fin 4} {v : Int64} (K : Ctx X l Z R y code maxL ret) (pc' : Nat) (hd : decode code pc = .ok (.lload_n n, 1)) (i : Nat) (hi : n.val = i) (hl : L[i]? = some (.val (.long v))) (k : WP X Z rc rs Q pc' L (.long v :: S) os ce sl) (hp : pc + 1 = pc' := by rfl) : WP X Z rc rs Q pc L S os ce sl := by
  obtain ⟨p, l', e, R', s, m, args, below, meth, c⟩ := X
  obtain ⟨h1, h2, hx, hZ, hby, hml, hown, hnm, hret, hlk⟩ := K
  have h2' : R' = R := h2
  subst h2'
  subst hp
  intro T locs hT0 hH hF
  have hT : Stand p l' e R' s m args below meth c T locs ce sl := hT0
  obtain ⟨s2, o, st, r⟩ := k T locs hT hH hF
  exact ⟨s2, o, XS.lloadN (Stand.here hT) hx rfl (hb hby hd) (by rw [hi]; simpa using hl) st, r⟩
theorem W.aload {n : Nat} {v : Value} (K : Ctx X l Z R y code maxL ret) (pc' : Nat) (hd : decode code pc = .ok (.aload n, 2)) (hl : L[n]? = some (.val v)) (hv : v.isRef = true) (k : WP X Z rc rs Q pc' L (v :: S) os ce sl) (hp : pc + 2 = pc' := by rfl) : WP X Z rc rs Q pc L S os ce sl := by
  obtain ⟨p, l', e, R', s, m, args, below, meth, c⟩ := X
  obtain ⟨h1, h2, hx, hZ, hby, hml, hown, hnm, hret, hlk⟩ := K
  have h2' : R' = R := h2
  subst h2'
  subst hp
  intro T locs hT0 hH hF
  have hT : Stand p l' e R' s m args below meth c T locs ce sl := hT0
  obtain ⟨s2, o, st, r⟩ := k T locs hT hH hF
  exact ⟨s2, o, XS.aload (Stand.here hT) hx rfl (hb hby hd) (by simpa using hl) hv st, r⟩
theorem W.aloadN {n : Fin 4} {v : Value} (K : Ctx X l Z R y code maxL ret) (pc' : Nat) (hd : decode code pc = .ok (.aload_n n, 1)) (i : Nat) (hi : n.val = i) (hl : L[i]? = some (.val v)) (hv : v.isRef = true) (k : WP X Z rc rs Q pc' L (v :: S) os ce sl) (hp : pc + 1 = pc' := by rfl) : WP X Z rc rs Q pc L S os ce sl := by
  obtain ⟨p, l', e, R', s, m, args, below, meth, c⟩ := X
  obtain ⟨h1, h2, hx, hZ, hby, hml, hown, hnm, hret, hlk⟩ := K
  have h2' : R' = R := h2
  subst h2'
  subst hp
  intro T locs hT0 hH hF
  have hT : Stand p l' e R' s m args below meth c T locs ce sl := hT0
  obtain ⟨s2, o, st, r⟩ := k T locs hT hH hF
  exact ⟨s2, o, XS.aloadN (Stand.here hT) hx rfl (hb hby hd) (by rw [hi]; simpa using hl) hv st, r⟩
theorem setL0 {α : Type} {x z : α} {r : List α} : (z :: r).set 0 x = x :: r := rfl
theorem setLS {α : Type} {x z : α} {r r' : List α} {n : Nat} (h : r.set n x = r') : (z :: r).set (n + 1) x = z :: r' := by rw [List.set_cons_succ, h]
def okS : Slot → Bool
  | .unset => true
  | .val v => v.category == 1
  | .second => false
theorem okS_one {L : List Slot} {n : Nat} {v : Value} (ho : (L[n]?.map okS) = some true) (hv : v.category = 1) : storeLocals L.toArray n v = some (L.set n (.val v)).toArray := by
  cases hq : L[n]? with
  | none => simp [hq] at ho
  | some o =>
    rw [hq] at ho
    have h := XS.store1 (l := L.toArray) (i := n) (v := v) (o := o) (by simpa using hq) (by
      cases o with
      | unset => exact Or.inl rfl
      | second => simp [okS] at ho
      | val w => exact Or.inr ⟨w, rfl, by simpa [okS] using ho⟩) hv
    rw [h]; simp

theorem W.istore {n : Nat} {x : Int32} {L' : List Slot} (K : Ctx X l Z R y code maxL ret) (pc' : Nat) (hd : decode code pc = .ok (.istore n, 2)) (ho : (L[n]?.map okS) = some true) (hL : L.set n (.val (.int x)) = L') (k : WP X Z rc rs Q pc' L' S os ce sl) (hp : pc + 2 = pc' := by rfl) : WP X Z rc rs Q pc L (.int x :: S) os ce sl := by
  obtain ⟨p, l', e, R', s, m, args, below, meth, c⟩ := X
  obtain ⟨h1, h2, hx, hZ, hby, hml, hown, hnm, hret, hlk⟩ := K
  have h2' : R' = R := h2
  subst h2'
  subst hp
  intro T locs hT0 hH hF
  have hT : Stand p l' e R' s m args below meth c T locs ce sl := hT0
  obtain ⟨s2, o, st, r⟩ := k T locs hT hH hF
  exact ⟨s2, o, XS.istore (Stand.here hT) hx rfl (hb hby hd) rfl (okS_one ho rfl) (hL ▸ st), r⟩
theorem W.istoreN {n : Fin 4} {x : Int32} {L' : List Slot} (K : Ctx X l Z R y code maxL ret) (pc' : Nat) (hd : decode code pc = .ok (.istore_n n, 1)) (i : Nat) (hi : n.val = i) (ho : (L[i]?.map okS) = some true) (hL : L.set i (.val (.int x)) = L') (k : WP X Z rc rs Q pc' L' S os ce sl) (hp : pc + 1 = pc' := by rfl) : WP X Z rc rs Q pc L (.int x :: S) os ce sl := by
  obtain ⟨p, l', e, R', s, m, args, below, meth, c⟩ := X
  obtain ⟨h1, h2, hx, hZ, hby, hml, hown, hnm, hret, hlk⟩ := K
  have h2' : R' = R := h2
  subst h2'
  subst hp
  intro T locs hT0 hH hF
  have hT : Stand p l' e R' s m args below meth c T locs ce sl := hT0
  obtain ⟨s2, o, st, r⟩ := k T locs hT hH hF
  exact ⟨s2, o, XS.istoreN (Stand.here hT) hx rfl (hb hby hd) rfl (by rw [hi]; exact okS_one ho rfl) (hL ▸ st), r⟩
theorem W.astore {n : Nat} {x : Value} {L' : List Slot} (K : Ctx X l Z R y code maxL ret) (pc' : Nat) (hd : decode code pc = .ok (.astore n, 2)) (hv : x.isRef = true) (ho : (L[n]?.map okS) = some true) (hL : L.set n (.val x) = L') (k : WP X Z rc rs Q pc' L' S os ce sl) (hp : pc + 2 = pc' := by rfl) : WP X Z rc rs Q pc L (x :: S) os ce sl := by
  obtain ⟨p, l', e, R', s, m, args, below, meth, c⟩ := X
  obtain ⟨h1, h2, hx, hZ, hby, hml, hown, hnm, hret, hlk⟩ := K
  have h2' : R' = R := h2
  subst h2'
  subst hp
  intro T locs hT0 hH hF
  have hT : Stand p l' e R' s m args below meth c T locs ce sl := hT0
  obtain ⟨s2, o, st, r⟩ := k T locs hT hH hF
  exact ⟨s2, o, XS.astore (Stand.here hT) hx rfl (hb hby hd) rfl hv (okS_one ho (XT.cat1 hv)) (hL ▸ st), r⟩
theorem W.astoreN {n : Fin 4} {x : Value} {L' : List Slot} (K : Ctx X l Z R y code maxL ret) (pc' : Nat) (hd : decode code pc = .ok (.astore_n n, 1)) (i : Nat) (hi : n.val = i) (hv : x.isRef = true) (ho : (L[i]?.map okS) = some true) (hL : L.set i (.val x) = L') (k : WP X Z rc rs Q pc' L' S os ce sl) (hp : pc + 1 = pc' := by rfl) : WP X Z rc rs Q pc L (x :: S) os ce sl := by
  obtain ⟨p, l', e, R', s, m, args, below, meth, c⟩ := X
  obtain ⟨h1, h2, hx, hZ, hby, hml, hown, hnm, hret, hlk⟩ := K
  have h2' : R' = R := h2
  subst h2'
  subst hp
  intro T locs hT0 hH hF
  have hT : Stand p l' e R' s m args below meth c T locs ce sl := hT0
  obtain ⟨s2, o, st, r⟩ := k T locs hT hH hF
  exact ⟨s2, o, XS.astoreN (Stand.here hT) hx rfl (hb hby hd) rfl hv (by rw [hi]; exact okS_one ho (XT.cat1 hv)) (hL ▸ st), r⟩
theorem W.lstore {n : Nat} {x : Int64} {L1 L' : List Slot} (K : Ctx X l Z R y code maxL ret) (pc' : Nat) (hd : decode code pc = .ok (.lstore n, 2)) (hL1 : L.set n (.val (.long x)) = L1) (hL2 : L1.set (n + 1) .second = L') (k : WP X Z rc rs Q pc' L' S os ce sl) (ho : storeLocals L.toArray n (.long x) = some L'.toArray := by rfl) (hp : pc + 2 = pc' := by rfl) : WP X Z rc rs Q pc L (.long x :: S) os ce sl := by
  obtain ⟨p, l', e, R', s, m, args, below, meth, c⟩ := X
  obtain ⟨h1, h2, hx, hZ, hby, hml, hown, hnm, hret, hlk⟩ := K
  have h2' : R' = R := h2
  subst h2'
  subst hp
  intro T locs hT0 hH hF
  have hT : Stand p l' e R' s m args below meth c T locs ce sl := hT0
  obtain ⟨s2, o, st, r⟩ := k T locs hT hH hF
  exact ⟨s2, o, XS.lstore (Stand.here hT) hx rfl (hb hby hd) rfl ho st, r⟩
theorem W.lstoreN {n : Fin 4} {x : Int64} {L1 L' : List Slot} (K : Ctx X l Z R y code maxL ret) (pc' : Nat) (hd : decode code pc = .ok (.lstore_n n, 1)) (i : Nat) (hi : n.val = i) (hL1 : L.set i (.val (.long x)) = L1) (hL2 : L1.set (i + 1) .second = L') (k : WP X Z rc rs Q pc' L' S os ce sl) (ho : storeLocals L.toArray i (.long x) = some L'.toArray := by rfl) (hp : pc + 1 = pc' := by rfl) : WP X Z rc rs Q pc L (.long x :: S) os ce sl := by
  obtain ⟨p, l', e, R', s, m, args, below, meth, c⟩ := X
  obtain ⟨h1, h2, hx, hZ, hby, hml, hown, hnm, hret, hlk⟩ := K
  have h2' : R' = R := h2
  subst h2'
  subst hp
  intro T locs hT0 hH hF
  have hT : Stand p l' e R' s m args below meth c T locs ce sl := hT0
  obtain ⟨s2, o, st, r⟩ := k T locs hT hH hF
  exact ⟨s2, o, XS.lstoreN (Stand.here hT) hx rfl (hb hby hd) rfl (by rw [hi]; exact ho) st, r⟩
theorem W.iinc {n : Nat} {i : Int} {x : Int32} {L' : List Slot} (K : Ctx X l Z R y code maxL ret) (pc' : Nat) (hd : decode code pc = .ok (.iinc n i, 3)) (v : Int32) (hv : Int32.ofInt i = v) (hl : L[n]? = some (.val (.int x))) (hL : L.set n (.val (.int (x + v))) = L') (k : WP X Z rc rs Q pc' L' S os ce sl) (hp : pc + 3 = pc' := by rfl) : WP X Z rc rs Q pc L S os ce sl := by
  obtain ⟨p, l', e, R', s, m, args, below, meth, c⟩ := X
  obtain ⟨h1, h2, hx, hZ, hby, hml, hown, hnm, hret, hlk⟩ := K
  have h2' : R' = R := h2
  subst h2'
  subst hp
  intro T locs hT0 hH hF
  have hT : Stand p l' e R' s m args below meth c T locs ce sl := hT0
  obtain ⟨s2, o, st, r⟩ := k T locs hT hH hF
  exact ⟨s2, o, XS.iinc (Stand.here hT) hx rfl (hb hby hd) (by simpa using hl) (okS_one (by rw [hl]; rfl) rfl) (by subst hv; exact hL ▸ st), r⟩
theorem W.goto {o : Int} (K : Ctx X l Z R y code maxL ret) (pc' : Nat) (hd : decode code pc = .ok (.goto o, 3)) (k : WP X Z rc rs Q pc' L S os ce sl) (hp : (pc : Int) + o = (pc' : Int) := by decide) : WP X Z rc rs Q pc L S os ce sl := by
  obtain ⟨p, l', e, R', s, m, args, below, meth, c⟩ := X
  obtain ⟨h1, h2, hx, hZ, hby, hml, hown, hnm, hret, hlk⟩ := K
  have h2' : R' = R := h2
  subst h2'
  intro T locs hT0 hH hF
  have hT : Stand p l' e R' s m args below meth c T locs ce sl := hT0
  obtain ⟨s2, o', st, r⟩ := k T locs hT hH hF
  exact ⟨s2, o', XS.goto (Stand.here hT) hx rfl (pc0 := pc) rfl (hb hby hd) (by rw [hp]; exact Int.natCast_nonneg _) (by rw [hp]; rfl) st, r⟩
theorem W.icmp {cd : ClassFile.Cond} {o : Int} {x z : Int32} {F : Prop} (ht : F → if_icmp.holds cd x z = true) (hf : ¬ F → if_icmp.holds cd x z = false) (K : Ctx X l Z R y code maxL ret) (pt pf : Nat) (hd : decode code pc = .ok (.if_icmp cd o, 3)) (kt : F → WP X Z rc rs Q pt L S os ce sl) (kf : ¬ F → WP X Z rc rs Q pf L S os ce sl)
    (hp : (pc : Int) + o = (pt : Int)) (hq : pc + 3 = pf) : WP X Z rc rs Q pc L (.int z :: .int x :: S) os ce sl := by
  obtain ⟨p, l', e, R', s, m, args, below, meth, c⟩ := X
  obtain ⟨h1, h2, hx, hZ, hby, hml, hown, hnm, hret, hlk⟩ := K
  have h2' : R' = R := h2
  subst h2'
  subst hq
  intro T locs hT0 hH hF
  have hT : Stand p l' e R' s m args below meth c T locs ce sl := hT0
  by_cases h : F
  · obtain ⟨s2, o', st, r⟩ := kt h T locs hT hH hF
    exact ⟨s2, o', XS.icmpYes (Stand.here hT) hx rfl (pc0 := pc) rfl (hb hby hd) rfl (ht h) (by rw [hp]; exact Int.natCast_nonneg _) (by rw [hp]; rfl) st, r⟩
  · obtain ⟨s2, o', st, r⟩ := kf h T locs hT hH hF
    exact ⟨s2, o', XS.icmpNo (Stand.here hT) hx rfl (hb hby hd) rfl (hf h) st, r⟩
theorem W.ifc {cd : ClassFile.Cond} {o : Int} {x : Int32} {F : Prop} (ht : F → ifCond.holds cd x = true) (hf : ¬ F → ifCond.holds cd x = false) (K : Ctx X l Z R y code maxL ret) (pt pf : Nat) (hd : decode code pc = .ok (.ifCond cd o, 3)) (kt : F → WP X Z rc rs Q pt L S os ce sl) (kf : ¬ F → WP X Z rc rs Q pf L S os ce sl)
    (hp : (pc : Int) + o = (pt : Int)) (hq : pc + 3 = pf) : WP X Z rc rs Q pc L (.int x :: S) os ce sl := by
  obtain ⟨p, l', e, R', s, m, args, below, meth, c⟩ := X
  obtain ⟨h1, h2, hx, hZ, hby, hml, hown, hnm, hret, hlk⟩ := K
  have h2' : R' = R := h2
  subst h2'
  subst hq
  intro T locs hT0 hH hF
  have hT : Stand p l' e R' s m args below meth c T locs ce sl := hT0
  by_cases h : F
  · obtain ⟨s2, o', st, r⟩ := kt h T locs hT hH hF
    exact ⟨s2, o', XS.ifYes (Stand.here hT) hx rfl (pc0 := pc) rfl (hb hby hd) rfl (ht h) (by rw [hp]; exact Int.natCast_nonneg _) (by rw [hp]; rfl) st, r⟩
  · obtain ⟨s2, o', st, r⟩ := kf h T locs hT hH hF
    exact ⟨s2, o', XS.ifNo (Stand.here hT) hx rfl (hb hby hd) rfl (hf h) st, r⟩
theorem W.lcmpc {cd : ClassFile.Cond} {o : Int} {x z : Int64} {F : Prop} (ht : F → ifCond.holds cd (lcmpW x z) = true) (hf : ¬ F → ifCond.holds cd (lcmpW x z) = false) (K : Ctx X l Z R y code maxL ret) (pc1 pt pf : Nat) (hd0 : decode code pc = .ok (.lcmp, 1)) (hd : decode code pc1 = .ok (.ifCond cd o, 3)) (kt : F → WP X Z rc rs Q pt L S os ce sl) (kf : ¬ F → WP X Z rc rs Q pf L S os ce sl)
    (h1' : pc + 1 = pc1) (hp : (pc1 : Int) + o = (pt : Int)) (hq : pc1 + 3 = pf) : WP X Z rc rs Q pc L (.long z :: .long x :: S) os ce sl := by
  have k1 : WP X Z rc rs Q pc1 L (.int (lcmpW x z) :: S) os ce sl := W.ifc ht hf K pt pf hd kt kf hp hq
  obtain ⟨p, l', e, R', s, m, args, below, meth, c⟩ := X
  obtain ⟨h1, h2, hx, hZ, hby, hml, hown, hnm, hret, hlk⟩ := K
  have h2' : R' = R := h2
  subst h2'
  subst h1'
  intro T locs hT0 hH hF
  have hT : Stand p l' e R' s m args below meth c T locs ce sl := hT0
  obtain ⟨s2, o', st, r⟩ := k1 T locs hT hH hF
  exact ⟨s2, o', XS.lcmp (Stand.here hT) hx rfl (hb hby hd0) rfl st, r⟩
theorem W.icmp_eq {o : Int} {x z : Int32} (K : Ctx X l Z R y code maxL ret) (pt pf : Nat) (hd : decode code pc = .ok (.if_icmp .eq o, 3)) (kt : x = z → WP X Z rc rs Q pt L S os ce sl) (kf : ¬ (x = z) → WP X Z rc rs Q pf L S os ce sl) (hp : (pc : Int) + o = (pt : Int) := by decide) (hq : pc + 3 = pf := by rfl) : WP X Z rc rs Q pc L (.int z :: .int x :: S) os ce sl :=
  W.icmp (F := x = z) (fun h => XT.ii_eq_t h) (fun h => XT.ii_eq_f h) K pt pf hd kt (fun h => kf h) hp hq
theorem W.if_eq {o : Int} {x : Int32} (K : Ctx X l Z R y code maxL ret) (pt pf : Nat) (hd : decode code pc = .ok (.ifCond .eq o, 3)) (kt : x = 0 → WP X Z rc rs Q pt L S os ce sl) (kf : ¬ (x = 0) → WP X Z rc rs Q pf L S os ce sl) (hp : (pc : Int) + o = (pt : Int) := by decide) (hq : pc + 3 = pf := by rfl) : WP X Z rc rs Q pc L (.int x :: S) os ce sl :=
  W.ifc (F := x = 0) (fun h => XT.i0_eq_t h) (fun h => XT.i0_eq_f h) K pt pf hd kt (fun h => kf h) hp hq
theorem W.lcmp_eq {o : Int} {x z : Int64} (K : Ctx X l Z R y code maxL ret) (pc1 pt pf : Nat) (hd0 : decode code pc = .ok (.lcmp, 1)) (hd : decode code pc1 = .ok (.ifCond .eq o, 3)) (kt : x = z → WP X Z rc rs Q pt L S os ce sl) (kf : ¬ (x = z) → WP X Z rc rs Q pf L S os ce sl) (h1' : pc + 1 = pc1 := by rfl) (hp : (pc1 : Int) + o = (pt : Int) := by decide) (hq : pc1 + 3 = pf := by rfl) : WP X Z rc rs Q pc L (.long z :: .long x :: S) os ce sl :=
  W.lcmpc (F := x = z) (fun h => XT.ll_eq_t h) (fun h => XT.ll_eq_f h) K pc1 pt pf hd0 hd kt (fun h => kf h) h1' hp hq
theorem W.icmp_ne {o : Int} {x z : Int32} (K : Ctx X l Z R y code maxL ret) (pt pf : Nat) (hd : decode code pc = .ok (.if_icmp .ne o, 3)) (kt : ¬ (x = z) → WP X Z rc rs Q pt L S os ce sl) (kf : x = z → WP X Z rc rs Q pf L S os ce sl) (hp : (pc : Int) + o = (pt : Int) := by decide) (hq : pc + 3 = pf := by rfl) : WP X Z rc rs Q pc L (.int z :: .int x :: S) os ce sl :=
  W.icmp (F := ¬ (x = z)) (fun h => XT.ii_ne_t h) (fun h => XT.ii_ne_f (Classical.not_not.mp h)) K pt pf hd kt (fun h => kf (Classical.not_not.mp h)) hp hq
theorem W.if_ne {o : Int} {x : Int32} (K : Ctx X l Z R y code maxL ret) (pt pf : Nat) (hd : decode code pc = .ok (.ifCond .ne o, 3)) (kt : ¬ (x = 0) → WP X Z rc rs Q pt L S os ce sl) (kf : x = 0 → WP X Z rc rs Q pf L S os ce sl) (hp : (pc : Int) + o = (pt : Int) := by decide) (hq : pc + 3 = pf := by rfl) : WP X Z rc rs Q pc L (.int x :: S) os ce sl :=
  W.ifc (F := ¬ (x = 0)) (fun h => XT.i0_ne_t h) (fun h => XT.i0_ne_f (Classical.not_not.mp h)) K pt pf hd kt (fun h => kf (Classical.not_not.mp h)) hp hq
theorem W.lcmp_ne {o : Int} {x z : Int64} (K : Ctx X l Z R y code maxL ret) (pc1 pt pf : Nat) (hd0 : decode code pc = .ok (.lcmp, 1)) (hd : decode code pc1 = .ok (.ifCond .ne o, 3)) (kt : ¬ (x = z) → WP X Z rc rs Q pt L S os ce sl) (kf : x = z → WP X Z rc rs Q pf L S os ce sl) (h1' : pc + 1 = pc1 := by rfl) (hp : (pc1 : Int) + o = (pt : Int) := by decide) (hq : pc1 + 3 = pf := by rfl) : WP X Z rc rs Q pc L (.long z :: .long x :: S) os ce sl :=
  W.lcmpc (F := ¬ (x = z)) (fun h => XT.ll_ne_t h) (fun h => XT.ll_ne_f (Classical.not_not.mp h)) K pc1 pt pf hd0 hd kt (fun h => kf (Classical.not_not.mp h)) h1' hp hq
theorem W.icmp_lt {o : Int} {x z : Int32} (K : Ctx X l Z R y code maxL ret) (pt pf : Nat) (hd : decode code pc = .ok (.if_icmp .lt o, 3)) (kt : x.toInt < z.toInt → WP X Z rc rs Q pt L S os ce sl) (kf : ¬ (x.toInt < z.toInt) → WP X Z rc rs Q pf L S os ce sl) (hp : (pc : Int) + o = (pt : Int) := by decide) (hq : pc + 3 = pf := by rfl) : WP X Z rc rs Q pc L (.int z :: .int x :: S) os ce sl :=
  W.icmp (F := x.toInt < z.toInt) (fun h => XT.ii_lt_t (Int32.lt_iff_toInt_lt.mpr h)) (fun h => XT.ii_lt_f (fun q => h (Int32.lt_iff_toInt_lt.mp q))) K pt pf hd kt (fun h => kf h) hp hq
theorem W.if_lt {o : Int} {x : Int32} (K : Ctx X l Z R y code maxL ret) (pt pf : Nat) (hd : decode code pc = .ok (.ifCond .lt o, 3)) (kt : x.toInt < 0 → WP X Z rc rs Q pt L S os ce sl) (kf : ¬ (x.toInt < 0) → WP X Z rc rs Q pf L S os ce sl) (hp : (pc : Int) + o = (pt : Int) := by decide) (hq : pc + 3 = pf := by rfl) : WP X Z rc rs Q pc L (.int x :: S) os ce sl :=
  W.ifc (F := x.toInt < 0) (fun h => XT.i0_lt_t (Int32.lt_iff_toInt_lt.mpr (by simpa using h))) (fun h => XT.i0_lt_f (fun q => h (by have q2 := Int32.lt_iff_toInt_lt.mp q; simpa using q2))) K pt pf hd kt (fun h => kf h) hp hq
theorem W.lcmp_lt {o : Int} {x z : Int64} (K : Ctx X l Z R y code maxL ret) (pc1 pt pf : Nat) (hd0 : decode code pc = .ok (.lcmp, 1)) (hd : decode code pc1 = .ok (.ifCond .lt o, 3)) (kt : x.toInt < z.toInt → WP X Z rc rs Q pt L S os ce sl) (kf : ¬ (x.toInt < z.toInt) → WP X Z rc rs Q pf L S os ce sl) (h1' : pc + 1 = pc1 := by rfl) (hp : (pc1 : Int) + o = (pt : Int) := by decide) (hq : pc1 + 3 = pf := by rfl) : WP X Z rc rs Q pc L (.long z :: .long x :: S) os ce sl :=
  W.lcmpc (F := x.toInt < z.toInt) (fun h => XT.ll_lt_t (Int64.lt_iff_toInt_lt.mpr h)) (fun h => XT.ll_lt_f (fun q => h (Int64.lt_iff_toInt_lt.mp q))) K pc1 pt pf hd0 hd kt (fun h => kf h) h1' hp hq
theorem W.icmp_ge {o : Int} {x z : Int32} (K : Ctx X l Z R y code maxL ret) (pt pf : Nat) (hd : decode code pc = .ok (.if_icmp .ge o, 3)) (kt : ¬ (x.toInt < z.toInt) → WP X Z rc rs Q pt L S os ce sl) (kf : x.toInt < z.toInt → WP X Z rc rs Q pf L S os ce sl) (hp : (pc : Int) + o = (pt : Int) := by decide) (hq : pc + 3 = pf := by rfl) : WP X Z rc rs Q pc L (.int z :: .int x :: S) os ce sl :=
  W.icmp (F := ¬ (x.toInt < z.toInt)) (fun h => XT.ii_ge_t (fun q => h (Int32.lt_iff_toInt_lt.mp q))) (fun h => XT.ii_ge_f (Int32.lt_iff_toInt_lt.mpr (Classical.not_not.mp h))) K pt pf hd kt (fun h => kf (Classical.not_not.mp h)) hp hq
theorem W.if_ge {o : Int} {x : Int32} (K : Ctx X l Z R y code maxL ret) (pt pf : Nat) (hd : decode code pc = .ok (.ifCond .ge o, 3)) (kt : ¬ (x.toInt < 0) → WP X Z rc rs Q pt L S os ce sl) (kf : x.toInt < 0 → WP X Z rc rs Q pf L S os ce sl) (hp : (pc : Int) + o = (pt : Int) := by decide) (hq : pc + 3 = pf := by rfl) : WP X Z rc rs Q pc L (.int x :: S) os ce sl :=
  W.ifc (F := ¬ (x.toInt < 0)) (fun h => XT.i0_ge_t (fun q => h (by have q2 := Int32.lt_iff_toInt_lt.mp q; simpa using q2))) (fun h => XT.i0_ge_f (Int32.lt_iff_toInt_lt.mpr (by simpa using (Classical.not_not.mp h)))) K pt pf hd kt (fun h => kf (Classical.not_not.mp h)) hp hq
theorem W.lcmp_ge {o : Int} {x z : Int64} (K : Ctx X l Z R y code maxL ret) (pc1 pt pf : Nat) (hd0 : decode code pc = .ok (.lcmp, 1)) (hd : decode code pc1 = .ok (.ifCond .ge o, 3)) (kt : ¬ (x.toInt < z.toInt) → WP X Z rc rs Q pt L S os ce sl) (kf : x.toInt < z.toInt → WP X Z rc rs Q pf L S os ce sl) (h1' : pc + 1 = pc1 := by rfl) (hp : (pc1 : Int) + o = (pt : Int) := by decide) (hq : pc1 + 3 = pf := by rfl) : WP X Z rc rs Q pc L (.long z :: .long x :: S) os ce sl :=
  W.lcmpc (F := ¬ (x.toInt < z.toInt)) (fun h => XT.ll_ge_t (fun q => h (Int64.lt_iff_toInt_lt.mp q))) (fun h => XT.ll_ge_f (Int64.lt_iff_toInt_lt.mpr (Classical.not_not.mp h))) K pc1 pt pf hd0 hd kt (fun h => kf (Classical.not_not.mp h)) h1' hp hq
theorem W.icmp_gt {o : Int} {x z : Int32} (K : Ctx X l Z R y code maxL ret) (pt pf : Nat) (hd : decode code pc = .ok (.if_icmp .gt o, 3)) (kt : z.toInt < x.toInt → WP X Z rc rs Q pt L S os ce sl) (kf : ¬ (z.toInt < x.toInt) → WP X Z rc rs Q pf L S os ce sl) (hp : (pc : Int) + o = (pt : Int) := by decide) (hq : pc + 3 = pf := by rfl) : WP X Z rc rs Q pc L (.int z :: .int x :: S) os ce sl :=
  W.icmp (F := z.toInt < x.toInt) (fun h => XT.ii_gt_t (Int32.lt_iff_toInt_lt.mpr h)) (fun h => XT.ii_gt_f (fun q => h (Int32.lt_iff_toInt_lt.mp q))) K pt pf hd kt (fun h => kf h) hp hq
theorem W.if_gt {o : Int} {x : Int32} (K : Ctx X l Z R y code maxL ret) (pt pf : Nat) (hd : decode code pc = .ok (.ifCond .gt o, 3)) (kt : 0 < x.toInt → WP X Z rc rs Q pt L S os ce sl) (kf : ¬ (0 < x.toInt) → WP X Z rc rs Q pf L S os ce sl) (hp : (pc : Int) + o = (pt : Int) := by decide) (hq : pc + 3 = pf := by rfl) : WP X Z rc rs Q pc L (.int x :: S) os ce sl :=
  W.ifc (F := 0 < x.toInt) (fun h => XT.i0_gt_t (Int32.lt_iff_toInt_lt.mpr (by simpa using h))) (fun h => XT.i0_gt_f (fun q => h (by have q2 := Int32.lt_iff_toInt_lt.mp q; simpa using q2))) K pt pf hd kt (fun h => kf h) hp hq
theorem W.lcmp_gt {o : Int} {x z : Int64} (K : Ctx X l Z R y code maxL ret) (pc1 pt pf : Nat) (hd0 : decode code pc = .ok (.lcmp, 1)) (hd : decode code pc1 = .ok (.ifCond .gt o, 3)) (kt : z.toInt < x.toInt → WP X Z rc rs Q pt L S os ce sl) (kf : ¬ (z.toInt < x.toInt) → WP X Z rc rs Q pf L S os ce sl) (h1' : pc + 1 = pc1 := by rfl) (hp : (pc1 : Int) + o = (pt : Int) := by decide) (hq : pc1 + 3 = pf := by rfl) : WP X Z rc rs Q pc L (.long z :: .long x :: S) os ce sl :=
  W.lcmpc (F := z.toInt < x.toInt) (fun h => XT.ll_gt_t (Int64.lt_iff_toInt_lt.mpr h)) (fun h => XT.ll_gt_f (fun q => h (Int64.lt_iff_toInt_lt.mp q))) K pc1 pt pf hd0 hd kt (fun h => kf h) h1' hp hq
theorem W.icmp_le {o : Int} {x z : Int32} (K : Ctx X l Z R y code maxL ret) (pt pf : Nat) (hd : decode code pc = .ok (.if_icmp .le o, 3)) (kt : ¬ (z.toInt < x.toInt) → WP X Z rc rs Q pt L S os ce sl) (kf : z.toInt < x.toInt → WP X Z rc rs Q pf L S os ce sl) (hp : (pc : Int) + o = (pt : Int) := by decide) (hq : pc + 3 = pf := by rfl) : WP X Z rc rs Q pc L (.int z :: .int x :: S) os ce sl :=
  W.icmp (F := ¬ (z.toInt < x.toInt)) (fun h => XT.ii_le_t (fun q => h (Int32.lt_iff_toInt_lt.mp q))) (fun h => XT.ii_le_f (Int32.lt_iff_toInt_lt.mpr (Classical.not_not.mp h))) K pt pf hd kt (fun h => kf (Classical.not_not.mp h)) hp hq
theorem W.if_le {o : Int} {x : Int32} (K : Ctx X l Z R y code maxL ret) (pt pf : Nat) (hd : decode code pc = .ok (.ifCond .le o, 3)) (kt : ¬ (0 < x.toInt) → WP X Z rc rs Q pt L S os ce sl) (kf : 0 < x.toInt → WP X Z rc rs Q pf L S os ce sl) (hp : (pc : Int) + o = (pt : Int) := by decide) (hq : pc + 3 = pf := by rfl) : WP X Z rc rs Q pc L (.int x :: S) os ce sl :=
  W.ifc (F := ¬ (0 < x.toInt)) (fun h => XT.i0_le_t (fun q => h (by have q2 := Int32.lt_iff_toInt_lt.mp q; simpa using q2))) (fun h => XT.i0_le_f (Int32.lt_iff_toInt_lt.mpr (by simpa using (Classical.not_not.mp h)))) K pt pf hd kt (fun h => kf (Classical.not_not.mp h)) hp hq
theorem W.lcmp_le {o : Int} {x z : Int64} (K : Ctx X l Z R y code maxL ret) (pc1 pt pf : Nat) (hd0 : decode code pc = .ok (.lcmp, 1)) (hd : decode code pc1 = .ok (.ifCond .le o, 3)) (kt : ¬ (z.toInt < x.toInt) → WP X Z rc rs Q pt L S os ce sl) (kf : z.toInt < x.toInt → WP X Z rc rs Q pf L S os ce sl) (h1' : pc + 1 = pc1 := by rfl) (hp : (pc1 : Int) + o = (pt : Int) := by decide) (hq : pc1 + 3 = pf := by rfl) : WP X Z rc rs Q pc L (.long z :: .long x :: S) os ce sl :=
  W.lcmpc (F := ¬ (z.toInt < x.toInt)) (fun h => XT.ll_le_t (fun q => h (Int64.lt_iff_toInt_lt.mp q))) (fun h => XT.ll_le_f (Int64.lt_iff_toInt_lt.mpr (Classical.not_not.mp h))) K pc1 pt pf hd0 hd kt (fun h => kf (Classical.not_not.mp h)) h1' hp hq
theorem W.ifnullY {o : Int} (K : Ctx X l Z R y code maxL ret) (pt : Nat) (hd : decode code pc = .ok (.ifnull o, 3)) (k : WP X Z rc rs Q pt L S os ce sl) (hp : (pc : Int) + o = (pt : Int) := by decide) : WP X Z rc rs Q pc L (.null :: S) os ce sl := by
  obtain ⟨p, l', e, R', s, m, args, below, meth, c⟩ := X
  obtain ⟨h1, h2, hx, hZ, hby, hml, hown, hnm, hret, hlk⟩ := K
  have h2' : R' = R := h2
  subst h2'
  intro T locs hT0 hH hF
  have hT : Stand p l' e R' s m args below meth c T locs ce sl := hT0
  obtain ⟨s2, o', st, r⟩ := k T locs hT hH hF
  exact ⟨s2, o', XS.ifnullYes (Stand.here hT) hx rfl (pc0 := pc) rfl (hb hby hd) rfl (by rw [hp]; exact Int.natCast_nonneg _) (by rw [hp]; rfl) st, r⟩
theorem W.ifnonnullY {o : Int} {a : Addr} (K : Ctx X l Z R y code maxL ret) (pt : Nat) (hd : decode code pc = .ok (.ifnonnull o, 3)) (k : WP X Z rc rs Q pt L S os ce sl) (hp : (pc : Int) + o = (pt : Int) := by decide) : WP X Z rc rs Q pc L (.ref a :: S) os ce sl := by
  obtain ⟨p, l', e, R', s, m, args, below, meth, c⟩ := X
  obtain ⟨h1, h2, hx, hZ, hby, hml, hown, hnm, hret, hlk⟩ := K
  have h2' : R' = R := h2
  subst h2'
  intro T locs hT0 hH hF
  have hT : Stand p l' e R' s m args below meth c T locs ce sl := hT0
  obtain ⟨s2, o', st, r⟩ := k T locs hT hH hF
  exact ⟨s2, o', XT.nonnullYes (Stand.here hT) hx rfl (pc0 := pc) rfl (hb hby hd) rfl rfl (by simp) (by rw [hp]; exact Int.natCast_nonneg _) (by rw [hp]; rfl) st, r⟩
theorem W.ifnullN {o : Int} {a : Addr} (K : Ctx X l Z R y code maxL ret) (pc' : Nat) (hd : decode code pc = .ok (.ifnull o, 3)) (k : WP X Z rc rs Q pc' L S os ce sl) (hp : pc + 3 = pc' := by rfl) : WP X Z rc rs Q pc L (.ref a :: S) os ce sl := by
  obtain ⟨p, l', e, R', s, m, args, below, meth, c⟩ := X
  obtain ⟨h1, h2, hx, hZ, hby, hml, hown, hnm, hret, hlk⟩ := K
  have h2' : R' = R := h2
  subst h2'
  subst hp
  intro T locs hT0 hH hF
  have hT : Stand p l' e R' s m args below meth c T locs ce sl := hT0
  obtain ⟨s2, o, st, r⟩ := k T locs hT hH hF
  exact ⟨s2, o, XS.ifnullNo (Stand.here hT) hx rfl (hb hby hd) rfl st, r⟩
theorem W.ifnonnullN {o : Int} (K : Ctx X l Z R y code maxL ret) (pc' : Nat) (hd : decode code pc = .ok (.ifnonnull o, 3)) (k : WP X Z rc rs Q pc' L S os ce sl) (hp : pc + 3 = pc' := by rfl) : WP X Z rc rs Q pc L (.null :: S) os ce sl := by
  obtain ⟨p, l', e, R', s, m, args, below, meth, c⟩ := X
  obtain ⟨h1, h2, hx, hZ, hby, hml, hown, hnm, hret, hlk⟩ := K
  have h2' : R' = R := h2
  subst h2'
  subst hp
  intro T locs hT0 hH hF
  have hT : Stand p l' e R' s m args below meth c T locs ce sl := hT0
  obtain ⟨s2, o, st, r⟩ := k T locs hT hH hF
  exact ⟨s2, o, XT.nonnullNo (Stand.here hT) hx rfl (hb hby hd) rfl rfl st, r⟩
theorem W.acmp_eq {o : Int} {x z : Value} (K : Ctx X l Z R y code maxL ret) (pt pf : Nat) (hd : decode code pc = .ok (.if_acmp .eq o, 3)) (kt : x = z → WP X Z rc rs Q pt L S os ce sl) (kf : ¬ x = z → WP X Z rc rs Q pf L S os ce sl) (hr1 : x.isRef = true := by rfl) (hr2 : z.isRef = true := by rfl) (hp : (pc : Int) + o = (pt : Int) := by decide) (hq : pc + 3 = pf := by rfl) : WP X Z rc rs Q pc L (z :: x :: S) os ce sl := by
  obtain ⟨p, l', e, R', s, m, args, below, meth, c⟩ := X
  obtain ⟨h1, h2, hx, hZ, hby, hml, hown, hnm, hret, hlk⟩ := K
  have h2' : R' = R := h2
  subst h2'
  subst hq
  intro T locs hT0 hH hF
  have hT : Stand p l' e R' s m args below meth c T locs ce sl := hT0
  by_cases h : x = z
  · obtain ⟨s2, o', st, r⟩ := kt h T locs hT hH hF
    exact ⟨s2, o', XT.acmpYes (Stand.here hT) hx rfl (pc0 := pc) rfl (hb hby hd) rfl hr1 hr2 (XT.aa_eq_t h) (by rw [hp]; exact Int.natCast_nonneg _) (by rw [hp]; rfl) st, r⟩
  · obtain ⟨s2, o', st, r⟩ := kf h T locs hT hH hF
    exact ⟨s2, o', XT.acmpNo (Stand.here hT) hx rfl (hb hby hd) rfl hr1 hr2 (XT.aa_eq_f h) st, r⟩
theorem W.acmp_ne {o : Int} {x z : Value} (K : Ctx X l Z R y code maxL ret) (pt pf : Nat) (hd : decode code pc = .ok (.if_acmp .ne o, 3)) (kt : ¬ x = z → WP X Z rc rs Q pt L S os ce sl) (kf : x = z → WP X Z rc rs Q pf L S os ce sl) (hr1 : x.isRef = true := by rfl) (hr2 : z.isRef = true := by rfl) (hp : (pc : Int) + o = (pt : Int) := by decide) (hq : pc + 3 = pf := by rfl) : WP X Z rc rs Q pc L (z :: x :: S) os ce sl := by
  obtain ⟨p, l', e, R', s, m, args, below, meth, c⟩ := X
  obtain ⟨h1, h2, hx, hZ, hby, hml, hown, hnm, hret, hlk⟩ := K
  have h2' : R' = R := h2
  subst h2'
  subst hq
  intro T locs hT0 hH hF
  have hT : Stand p l' e R' s m args below meth c T locs ce sl := hT0
  by_cases h : x = z
  · obtain ⟨s2, o', st, r⟩ := kf h T locs hT hH hF
    exact ⟨s2, o', XT.acmpNo (Stand.here hT) hx rfl (hb hby hd) rfl hr1 hr2 (XT.aa_ne_f h) st, r⟩
  · obtain ⟨s2, o', st, r⟩ := kt h T locs hT hH hF
    exact ⟨s2, o', XT.acmpYes (Stand.here hT) hx rfl (pc0 := pc) rfl (hb hby hd) rfl hr1 hr2 (XT.aa_ne_t h) (by rw [hp]; exact Int.natCast_nonneg _) (by rw [hp]; rfl) st, r⟩
theorem W.bool {A B : Prop} [Decidable A] {o : Int} {i1 i0 : Int} {pt pf pg : Nat} {S0 : List Value} (pj : Nat) (v1 v0 : Int32) (K : Ctx X l Z R y code maxL ret) (br : (A → WP X Z rc rs Q pt L S os ce sl) → (B → WP X Z rc rs Q pf L S os ce sl) → WP X Z rc rs Q pc L S0 os ce sl)
    (d1 : decode code pf = .ok (.iconst i1, 1)) (d2 : decode code pg = .ok (.goto o, 3)) (d3 : decode code pt = .ok (.iconst i0, 1)) (k : WP X Z rc rs Q pj L (.int (if A then v0 else v1) :: S) os ce sl)
    (hAB : B → ¬ A := by first | exact id | exact fun h h' => h' h) (e1 : Int32.ofInt i1 = v1 := by rfl) (e0 : Int32.ofInt i0 = v0 := by rfl) (q1 : pf + 1 = pg := by rfl) (q2 : (pg : Int) + o = (pj : Int) := by decide) (q3 : pt + 1 = pj := by rfl) : WP X Z rc rs Q pc L S0 os ce sl := by
  refine br (fun h => ?_) (fun h => ?_)
  · refine W.iconst K pj d3 v0 e0 ?_ q3
    rw [if_pos h] at k; exact k
  · refine W.iconst K pg d1 v1 e1 ?_ q1
    refine W.goto K pj d2 ?_ q2
    rw [if_neg (hAB h)] at k; exact k
theorem W.sel {A B : Prop} [Decidable A] {pt pf : Nat} {S0 : List Value} {vt vf : Value} (pj : Nat) (br : (A → WP X Z rc rs Q pt L S os ce sl) → (B → WP X Z rc rs Q pf L S os ce sl) → WP X Z rc rs Q pc L S0 os ce sl)
    (kt : WP X Z rc rs Q pj L (vt :: S) os ce sl → WP X Z rc rs Q pt L S os ce sl) (kf : WP X Z rc rs Q pj L (vf :: S) os ce sl → WP X Z rc rs Q pf L S os ce sl) (k : WP X Z rc rs Q pj L ((if A then vt else vf) :: S) os ce sl) (hAB : B → ¬ A := by first | exact id | exact fun h h' => h' h) : WP X Z rc rs Q pc L S0 os ce sl :=
  br (fun h => kt (by rw [if_pos h] at k; exact k)) (fun h => kf (by rw [if_neg (hAB h)] at k; exact k))
theorem W.selI {A B : Prop} [Decidable A] {pt pf : Nat} {S0 : List Value} {vt vf : Int32} (pj : Nat) (br : (A → WP X Z rc rs Q pt L S os ce sl) → (B → WP X Z rc rs Q pf L S os ce sl) → WP X Z rc rs Q pc L S0 os ce sl)
    (kt : WP X Z rc rs Q pj L (.int vt :: S) os ce sl → WP X Z rc rs Q pt L S os ce sl) (kf : WP X Z rc rs Q pj L (.int vf :: S) os ce sl → WP X Z rc rs Q pf L S os ce sl) (k : WP X Z rc rs Q pj L (.int (if A then vt else vf) :: S) os ce sl) (hAB : B → ¬ A := by first | exact id | exact fun h h' => h' h) : WP X Z rc rs Q pc L S0 os ce sl :=
  br (fun h => kt (by rw [if_pos h] at k; exact k)) (fun h => kf (by rw [if_neg (hAB h)] at k; exact k))
theorem W.selL {A B : Prop} [Decidable A] {pt pf : Nat} {S0 : List Value} {vt vf : Int64} (pj : Nat) (br : (A → WP X Z rc rs Q pt L S os ce sl) → (B → WP X Z rc rs Q pf L S os ce sl) → WP X Z rc rs Q pc L S0 os ce sl)
    (kt : WP X Z rc rs Q pj L (.long vt :: S) os ce sl → WP X Z rc rs Q pt L S os ce sl) (kf : WP X Z rc rs Q pj L (.long vf :: S) os ce sl → WP X Z rc rs Q pf L S os ce sl) (k : WP X Z rc rs Q pj L (.long (if A then vt else vf) :: S) os ce sl) (hAB : B → ¬ A := by first | exact id | exact fun h h' => h' h) : WP X Z rc rs Q pc L S0 os ce sl :=
  br (fun h => kt (by rw [if_pos h] at k; exact k)) (fun h => kf (by rw [if_neg (hAB h)] at k; exact k))
theorem W.joinI {F : Prop} [Decidable F] {S0 : List Value} (pj : Nat) (tree : (F → WP X Z rc rs Q pj L (.int 1 :: S) os ce sl) → (¬ F → WP X Z rc rs Q pj L (.int 0 :: S) os ce sl) → WP X Z rc rs Q pc L S0 os ce sl) (k : WP X Z rc rs Q pj L (.int (if F then 1 else 0) :: S) os ce sl) : WP X Z rc rs Q pc L S0 os ce sl :=
  tree (fun h => by rw [if_pos h] at k; exact k) (fun h => by rw [if_neg h] at k; exact k)
theorem W.cutI {G : Int32 → Prop} {S0 : List Value} (pj n : Nat) (tree : (∀ v, G v → WP X Z rc rs Q pj (L.set n (.val (.int v))) S os ce sl) → WP X Z rc rs Q pc L S0 os ce sl) (k : ∀ v, G v → WP X Z rc rs Q pj (L.set n (.val (.int v))) S os ce sl) : WP X Z rc rs Q pc L S0 os ce sl := tree k
theorem W.cutV {G : Value → Prop} {S0 : List Value} (pj n : Nat) (tree : (∀ v, G v → WP X Z rc rs Q pj (L.set n (.val v)) S os ce sl) → WP X Z rc rs Q pc L S0 os ce sl) (k : ∀ v, G v → WP X Z rc rs Q pj (L.set n (.val v)) S os ce sl) : WP X Z rc rs Q pc L S0 os ce sl := tree k
theorem W.cutO {G : OS → Prop} {S0 : List Value} (pj : Nat) (tree : (∀ os', G os' → WP X Z rc rs Q pj L S os' ce sl) → WP X Z rc rs Q pc L S0 os ce sl) (k : ∀ os', G os' → WP X Z rc rs Q pj L S os' ce sl) : WP X Z rc rs Q pc L S0 os ce sl := tree k
theorem W.cutIO {G : Int32 → OS → Prop} {S0 : List Value} (pj n : Nat) (tree : (∀ v os', G v os' → WP X Z rc rs Q pj (L.set n (.val (.int v))) S os' ce sl) → WP X Z rc rs Q pc L S0 os ce sl) (k : ∀ v os', G v os' → WP X Z rc rs Q pj (L.set n (.val (.int v))) S os' ce sl) : WP X Z rc rs Q pc L S0 os ce sl := tree k
theorem W.cutL {G : List Slot → Prop} {S0 : List Value} (pj : Nat) (tree : (∀ L', G L' → WP X Z rc rs Q pj L' S os ce sl) → WP X Z rc rs Q pc L S0 os ce sl) (k : ∀ L', G L' → WP X Z rc rs Q pj L' S os ce sl) : WP X Z rc rs Q pc L S0 os ce sl := tree k
theorem W.cutLO {G : List Slot → OS → Prop} {S0 : List Value} (pj : Nat) (tree : (∀ L' os', G L' os' → WP X Z rc rs Q pj L' S os' ce sl) → WP X Z rc rs Q pc L S0 os ce sl) (k : ∀ L' os', G L' os' → WP X Z rc rs Q pj L' S os' ce sl) : WP X Z rc rs Q pc L S0 os ce sl := tree k
theorem W.cut0 {S0 : List Value} (pj : Nat) (tree : WP X Z rc rs Q pj L S os ce sl → WP X Z rc rs Q pc L S0 os ce sl) (k : WP X Z rc rs Q pj L S os ce sl) : WP X Z rc rs Q pc L S0 os ce sl := tree k
theorem W.cutS {G : Value → Prop} {S0 : List Value} (pj : Nat) (tree : (∀ v, G v → WP X Z rc rs Q pj L (v :: S) os ce sl) → WP X Z rc rs Q pc L S0 os ce sl) (k : ∀ v, G v → WP X Z rc rs Q pj L (v :: S) os ce sl) : WP X Z rc rs Q pc L S0 os ce sl := tree k
theorem W.ldcI {idx : Nat} {v : Int32} (K : Ctx X l Z R y code maxL ret) (pc' : Nat) (hd : decode code pc = .ok (.ldc idx, 2)) (w : (Jvm.Cond.constant y.cls idx v).before a0 Z = true) (k : WP X Z rc rs Q pc' L (.int v :: S) os ce sl) (hp : pc + 2 = pc' := by rfl) : WP X Z rc rs Q pc L S os ce sl := by
  obtain ⟨p, l', e, R', s, m, args, below, meth, c⟩ := X
  obtain ⟨h1, h2, hx, hZ, hby, hml, hown, hnm, hret, hlk⟩ := K
  have h2' : R' = R := h2
  subst h2'
  subst hp
  intro T locs hT0 hH hF
  have hT : Stand p l' e R' s m args below meth c T locs ce sl := hT0
  obtain ⟨s2, o, st, r⟩ := k T locs hT hH hF
  exact ⟨s2, o, Stand.ldcInt hT hx hown (mvT hZ w) (g := mkF m pc L.toArray S) rfl (hb hby hd) _ st, r⟩
theorem W.ldc2 {idx : Nat} {v : Int64} (K : Ctx X l Z R y code maxL ret) (pc' : Nat) (hd : decode code pc = .ok (.ldc2_w idx, 3)) (w : (Jvm.Cond.constantLong y.cls idx v).before a0 Z = true) (k : WP X Z rc rs Q pc' L (.long v :: S) os ce sl) (hp : pc + 3 = pc' := by rfl) : WP X Z rc rs Q pc L S os ce sl := by
  obtain ⟨p, l', e, R', s, m, args, below, meth, c⟩ := X
  obtain ⟨h1, h2, hx, hZ, hby, hml, hown, hnm, hret, hlk⟩ := K
  have h2' : R' = R := h2
  subst h2'
  subst hp
  intro T locs hT0 hH hF
  have hT : Stand p l' e R' s m args below meth c T locs ce sl := hT0
  obtain ⟨s2, o, st, r⟩ := k T locs hT hH hF
  exact ⟨s2, o, Stand.ldc2Long hT hx hown (mvT hZ w) (g := mkF m pc L.toArray S) rfl (hb hby hd) _ st, r⟩
theorem idx_ok {vs : List Value} {c : Cell} {j : Int32} {k : Nat} {v : Value} (hs : c.slots = vs.toArray) (hj : j.toInt = (k : Int)) (hv : vs[k]? = some v) : ¬ (j < 0 ∨ c.slots.size ≤ j.toNatClampNeg) ∧ j.toNatClampNeg = k ∧ c.slots[j.toNatClampNeg]? = some v := by
  have e : j.toNatClampNeg = k := by show j.toInt.toNat = k; rw [hj]; rfl
  have hk := (List.getElem?_eq_some_iff.mp hv).1
  refine ⟨?_, e, by rw [e, hs]; simpa using hv⟩
  rw [Int32.lt_iff_toInt_lt, e, hs]
  simp only [List.size_toArray]
  intro q
  rcases q with q | q
  · rw [hj] at q
    exact absurd q (Int.not_lt.mpr (Int.natCast_nonneg k))
  · omega
theorem W.iaload {a : Addr} {vs : List Value} {j : Int32} {v : Value} (i : Nat) (K : Ctx X l Z R y code maxL ret) (pc' : Nat) (hd : decode code pc = .ok (.iaload, 1)) (hm : (a, ARR Z .int vs) ∈ os) (hj : j.toInt = (i : Int)) (hv : vs[i]? = some v) (k : WP X Z rc rs Q pc' L (v :: S) os ce sl) (hp : pc + 1 = pc' := by rfl) : WP X Z rc rs Q pc L (.int j :: .ref a :: S) os ce sl := by
  obtain ⟨p, l', e, R', s, m, args, below, meth, c⟩ := X
  obtain ⟨h1, h2, hx, hZ, hby, hml, hown, hnm, hret, hlk⟩ := K
  have h2' : R' = R := h2
  subst h2'
  subst hp
  intro T locs hT0 hH hF
  have hT : Stand p l' e R' s m args below meth c T locs ce sl := hT0
  obtain ⟨s2, o, st, r⟩ := k T locs hT hH hF
  obtain ⟨-, cl, hcl, q1, q2, q3, q4, q5⟩ := hH.get hm
  obtain ⟨e1, e2, e3⟩ := idx_ok q3 hj hv
  exact ⟨s2, o, Stand.iaload hT hx hcl (State.isArrayOf_alike hZ.alike q1) q2 e1 e3 (g := mkF m pc L.toArray (.int j :: .ref a :: S)) rfl rfl (hb hby hd) _ st, r⟩
theorem W.laload {a : Addr} {vs : List Value} {j : Int32} {v : Value} (i : Nat) (K : Ctx X l Z R y code maxL ret) (pc' : Nat) (hd : decode code pc = .ok (.laload, 1)) (hm : (a, ARR Z .long vs) ∈ os) (hj : j.toInt = (i : Int)) (hv : vs[i]? = some v) (k : WP X Z rc rs Q pc' L (v :: S) os ce sl) (hp : pc + 1 = pc' := by rfl) : WP X Z rc rs Q pc L (.int j :: .ref a :: S) os ce sl := by
  obtain ⟨p, l', e, R', s, m, args, below, meth, c⟩ := X
  obtain ⟨h1, h2, hx, hZ, hby, hml, hown, hnm, hret, hlk⟩ := K
  have h2' : R' = R := h2
  subst h2'
  subst hp
  intro T locs hT0 hH hF
  have hT : Stand p l' e R' s m args below meth c T locs ce sl := hT0
  obtain ⟨s2, o, st, r⟩ := k T locs hT hH hF
  obtain ⟨-, cl, hcl, q1, q2, q3, q4, q5⟩ := hH.get hm
  obtain ⟨e1, e2, e3⟩ := idx_ok q3 hj hv
  exact ⟨s2, o, Stand.laload hT hx hcl (State.isArrayOf_alike hZ.alike q1) q2 e1 e3 (g := mkF m pc L.toArray (.int j :: .ref a :: S)) rfl rfl (hb hby hd) _ st, r⟩
theorem W.caload {a : Addr} {vs : List Value} {j : Int32} {v : Value} (i : Nat) (K : Ctx X l Z R y code maxL ret) (pc' : Nat) (hd : decode code pc = .ok (.caload, 1)) (hm : (a, ARR Z .char vs) ∈ os) (hj : j.toInt = (i : Int)) (hv : vs[i]? = some v) (k : WP X Z rc rs Q pc' L (v :: S) os ce sl) (hp : pc + 1 = pc' := by rfl) : WP X Z rc rs Q pc L (.int j :: .ref a :: S) os ce sl := by
  obtain ⟨p, l', e, R', s, m, args, below, meth, c⟩ := X
  obtain ⟨h1, h2, hx, hZ, hby, hml, hown, hnm, hret, hlk⟩ := K
  have h2' : R' = R := h2
  subst h2'
  subst hp
  intro T locs hT0 hH hF
  have hT : Stand p l' e R' s m args below meth c T locs ce sl := hT0
  obtain ⟨s2, o, st, r⟩ := k T locs hT hH hF
  obtain ⟨-, cl, hcl, q1, q2, q3, q4, q5⟩ := hH.get hm
  obtain ⟨e1, e2, e3⟩ := idx_ok q3 hj hv
  exact ⟨s2, o, Stand.caload hT hx hcl (State.isArrayOf_alike hZ.alike q1) q2 e1 e3 (g := mkF m pc L.toArray (.int j :: .ref a :: S)) rfl rfl (hb hby hd) _ st, r⟩
theorem W.baload {a : Addr} {vs : List Value} {j : Int32} {v : Value} (i : Nat) (K : Ctx X l Z R y code maxL ret) (pc' : Nat) (hd : decode code pc = .ok (.baload, 1)) (hm : (a, ARR Z .byte vs) ∈ os) (hj : j.toInt = (i : Int)) (hv : vs[i]? = some v) (k : WP X Z rc rs Q pc' L (v :: S) os ce sl) (hp : pc + 1 = pc' := by rfl) : WP X Z rc rs Q pc L (.int j :: .ref a :: S) os ce sl := by
  obtain ⟨p, l', e, R', s, m, args, below, meth, c⟩ := X
  obtain ⟨h1, h2, hx, hZ, hby, hml, hown, hnm, hret, hlk⟩ := K
  have h2' : R' = R := h2
  subst h2'
  subst hp
  intro T locs hT0 hH hF
  have hT : Stand p l' e R' s m args below meth c T locs ce sl := hT0
  obtain ⟨s2, o, st, r⟩ := k T locs hT hH hF
  obtain ⟨-, cl, hcl, q1, q2, q3, q4, q5⟩ := hH.get hm
  obtain ⟨e1, e2, e3⟩ := idx_ok q3 hj hv
  exact ⟨s2, o, Stand.baloadBytes hT hx hcl (State.isArrayOf_alike hZ.alike q1) q2 e1 e3 (g := mkF m pc L.toArray (.int j :: .ref a :: S)) rfl rfl (hb hby hd) _ st, r⟩
theorem W.aaload {a : Addr} {vs : List Value} {j : Int32} {v : Value} {ty : FieldType} (i : Nat) (K : Ctx X l Z R y code maxL ret) (pc' : Nat) (hd : decode code pc = .ok (.aaload, 1)) (hm : (a, ARR Z ty vs) ∈ os) (hj : j.toInt = (i : Int)) (hv : vs[i]? = some v) (hty : ty.isReference = true) (k : WP X Z rc rs Q pc' L (v :: S) os ce sl) (hp : pc + 1 = pc' := by rfl) : WP X Z rc rs Q pc L (.int j :: .ref a :: S) os ce sl := by
  obtain ⟨p, l', e, R', s, m, args, below, meth, c⟩ := X
  obtain ⟨h1, h2, hx, hZ, hby, hml, hown, hnm, hret, hlk⟩ := K
  have h2' : R' = R := h2
  subst h2'
  subst hp
  intro T locs hT0 hH hF
  have hT : Stand p l' e R' s m args below meth c T locs ce sl := hT0
  obtain ⟨s2, o, st, r⟩ := k T locs hT hH hF
  obtain ⟨-, cl, hcl, q1, q2, q3, q4, q5⟩ := hH.get hm
  obtain ⟨e1, e2, e3⟩ := idx_ok q3 hj hv
  exact ⟨s2, o, Stand.aaload hT hx hcl (State.isArrayOf_alike hZ.alike q1) hty q2 e1 e3 (g := mkF m pc L.toArray (.int j :: .ref a :: S)) rfl rfl (hb hby hd) _ st, r⟩
theorem W.arraylength {a : Addr} {vs : List Value} {ty : FieldType} (z : Int32) (K : Ctx X l Z R y code maxL ret) (pc' : Nat) (hd : decode code pc = .ok (.arraylength, 1)) (hm : (a, ARR Z ty vs) ∈ os) (hz : vs.length.toInt32 = z) (k : WP X Z rc rs Q pc' L (.int z :: S) os ce sl) (hp : pc + 1 = pc' := by rfl) : WP X Z rc rs Q pc L (.ref a :: S) os ce sl := by
  obtain ⟨p, l', e, R', s, m, args, below, meth, c⟩ := X
  obtain ⟨h1, h2, hx, hZ, hby, hml, hown, hnm, hret, hlk⟩ := K
  have h2' : R' = R := h2
  subst h2'
  subst hp
  intro T locs hT0 hH hF
  have hT : Stand p l' e R' s m args below meth c T locs ce sl := hT0
  obtain ⟨s2, o, st, r⟩ := k T locs hT hH hF
  obtain ⟨-, cl, hcl, q1, q2, q3, q4, q5⟩ := hH.get hm
  have e : cl.slots.size.toInt32 = z := by rw [q3]; simpa using hz
  rw [← e] at st
  exact ⟨s2, o, Stand.arraylength hT hx hcl (State.isArrayOf_alike hZ.alike q1) (g := mkF m pc L.toArray (.ref a :: S)) rfl rfl (hb hby hd) _ st, r⟩
theorem W.iastore {a : Addr} {vs : List Value} {j : Int32} {x : Int32} {w : Value} (i : Nat) (K : Ctx X l Z R y code maxL ret) (pc' : Nat) (hd : decode code pc = .ok (.iastore, 1)) (hm : Upd os a (ARR Z .int vs) (ARR Z .int (vs.set i (.int x))) os') (hj : j.toInt = (i : Int)) (hv : vs[i]? = some w) (k : WP X Z rc rs Q pc' L S os' ce sl) (hp : pc + 1 = pc' := by rfl) : WP X Z rc rs Q pc L (.int x :: .int j :: .ref a :: S) os ce sl := by
  obtain ⟨p, l', e, R', s, m, args, below, meth, c⟩ := X
  obtain ⟨h1, h2, hx, hZ, hby, hml, hown, hnm, hret, hlk⟩ := K
  have h2' : R' = R := h2
  subst h2'
  subst hp
  intro T locs hT0 hH hF
  have hT : Stand p l' e R' s m args below meth c T locs ce sl := hT0
  obtain ⟨ii, hm, rfl⟩ := hm
  obtain ⟨ha, cl, hcl, q1, q2, q3, q4, q5⟩ := hH.2.2 ii _ hm
  obtain ⟨e1, e2, e3⟩ := idx_ok q3 hj hv
  obtain ⟨T', h', X', e', W', st'⟩ := RoadKit.stI hT hx hZ rfl ⟨hcl, q1, q2⟩ (x := x) e1 (g := mkF m pc L.toArray (.int x :: .int j :: .ref a :: S)) rfl rfl (hb hby hd)
  rw [e2] at W'
  obtain ⟨s2, o, st, r⟩ := k T' _ X' (by rw [e']; exact hH.upd hm W' (fun c c' g1 g2 g3 g4 => by rw [g4]; exact ARR.put g2 (rfl))) (Fr.snoc X' hF ha)
  exact ⟨s2, o, st' _ st, r⟩
theorem W.lastore {a : Addr} {vs : List Value} {j : Int32} {x : Int64} {w : Value} (i : Nat) (K : Ctx X l Z R y code maxL ret) (pc' : Nat) (hd : decode code pc = .ok (.lastore, 1)) (hm : Upd os a (ARR Z .long vs) (ARR Z .long (vs.set i (.long x))) os') (hj : j.toInt = (i : Int)) (hv : vs[i]? = some w) (k : WP X Z rc rs Q pc' L S os' ce sl) (hp : pc + 1 = pc' := by rfl) : WP X Z rc rs Q pc L (.long x :: .int j :: .ref a :: S) os ce sl := by
  obtain ⟨p, l', e, R', s, m, args, below, meth, c⟩ := X
  obtain ⟨h1, h2, hx, hZ, hby, hml, hown, hnm, hret, hlk⟩ := K
  have h2' : R' = R := h2
  subst h2'
  subst hp
  intro T locs hT0 hH hF
  have hT : Stand p l' e R' s m args below meth c T locs ce sl := hT0
  obtain ⟨ii, hm, rfl⟩ := hm
  obtain ⟨ha, cl, hcl, q1, q2, q3, q4, q5⟩ := hH.2.2 ii _ hm
  obtain ⟨e1, e2, e3⟩ := idx_ok q3 hj hv
  obtain ⟨T', h', X', e', W', st'⟩ := RoadKit.stJ hT hx hZ rfl ⟨hcl, q1, q2⟩ (x := x) e1 (g := mkF m pc L.toArray (.long x :: .int j :: .ref a :: S)) rfl rfl (hb hby hd)
  rw [e2] at W'
  obtain ⟨s2, o, st, r⟩ := k T' _ X' (by rw [e']; exact hH.upd hm W' (fun c c' g1 g2 g3 g4 => by rw [g4]; exact ARR.put g2 (rfl))) (Fr.snoc X' hF ha)
  exact ⟨s2, o, st' _ st, r⟩
theorem W.bastore {a : Addr} {vs : List Value} {j : Int32} {x : Int32} {w : Value} (i : Nat) (K : Ctx X l Z R y code maxL ret) (pc' : Nat) (hd : decode code pc = .ok (.bastore, 1)) (hm : Upd os a (ARR Z .byte vs) (ARR Z .byte (vs.set i (.int x.toInt8.toInt32))) os') (hj : j.toInt = (i : Int)) (hv : vs[i]? = some w) (k : WP X Z rc rs Q pc' L S os' ce sl) (hp : pc + 1 = pc' := by rfl) : WP X Z rc rs Q pc L (.int x :: .int j :: .ref a :: S) os ce sl := by
  obtain ⟨p, l', e, R', s, m, args, below, meth, c⟩ := X
  obtain ⟨h1, h2, hx, hZ, hby, hml, hown, hnm, hret, hlk⟩ := K
  have h2' : R' = R := h2
  subst h2'
  subst hp
  intro T locs hT0 hH hF
  have hT : Stand p l' e R' s m args below meth c T locs ce sl := hT0
  obtain ⟨ii, hm, rfl⟩ := hm
  obtain ⟨ha, cl, hcl, q1, q2, q3, q4, q5⟩ := hH.2.2 ii _ hm
  obtain ⟨e1, e2, e3⟩ := idx_ok q3 hj hv
  obtain ⟨T', h', X', e', W', st'⟩ := RoadKit.stB hT hx hZ rfl ⟨hcl, q1, q2⟩ (x := x) e1 (g := mkF m pc L.toArray (.int x :: .int j :: .ref a :: S)) rfl rfl (hb hby hd)
  rw [e2] at W'
  obtain ⟨s2, o, st, r⟩ := k T' _ X' (by rw [e']; exact hH.upd hm W' (fun c c' g1 g2 g3 g4 => by rw [g4]; exact ARR.put g2 (fits_nar_byte x))) (Fr.snoc X' hF ha)
  exact ⟨s2, o, st' _ st, r⟩
theorem W.castore {a : Addr} {vs : List Value} {j : Int32} {x : Int32} {w : Value} (i : Nat) (K : Ctx X l Z R y code maxL ret) (pc' : Nat) (hd : decode code pc = .ok (.castore, 1)) (hm : Upd os a (ARR Z .char vs) (ARR Z .char (vs.set i (.int x.toUInt32.toUInt16.toUInt32.toInt32))) os') (hj : j.toInt = (i : Int)) (hv : vs[i]? = some w) (k : WP X Z rc rs Q pc' L S os' ce sl) (hp : pc + 1 = pc' := by rfl) : WP X Z rc rs Q pc L (.int x :: .int j :: .ref a :: S) os ce sl := by
  obtain ⟨p, l', e, R', s, m, args, below, meth, c⟩ := X
  obtain ⟨h1, h2, hx, hZ, hby, hml, hown, hnm, hret, hlk⟩ := K
  have h2' : R' = R := h2
  subst h2'
  subst hp
  intro T locs hT0 hH hF
  have hT : Stand p l' e R' s m args below meth c T locs ce sl := hT0
  obtain ⟨ii, hm, rfl⟩ := hm
  obtain ⟨ha, cl, hcl, q1, q2, q3, q4, q5⟩ := hH.2.2 ii _ hm
  obtain ⟨e1, e2, e3⟩ := idx_ok q3 hj hv
  obtain ⟨T', h', X', e', W', st'⟩ := RoadKit.stC hT hx hZ rfl ⟨hcl, q1, q2⟩ (x := x) e1 (g := mkF m pc L.toArray (.int x :: .int j :: .ref a :: S)) rfl rfl (hb hby hd)
  rw [e2] at W'
  obtain ⟨s2, o, st, r⟩ := k T' _ X' (by rw [e']; exact hH.upd hm W' (fun c c' g1 g2 g3 g4 => by rw [g4]; exact ARR.put g2 (fits_nar_char x))) (Fr.snoc X' hF ha)
  exact ⟨s2, o, st' _ st, r⟩
theorem W.getF {a : Addr} {O n d C : String} {v : Value} {fs : List FV} {idx : Nat} (K : Ctx X l Z R y code maxL ret) (pc' : Nat) (hd : decode code pc = .ok (.getfield idx, 3)) (w : (Jvm.Cond.fieldLink y.cls idx O n d).before a0 Z = true) (hm : (a, OBJ Z C fs) ∈ os) (hf : (O, n, d, v) ∈ fs) (k : WP X Z rc rs Q pc' L (v :: S) os ce sl) (hp : pc + 3 = pc' := by rfl) : WP X Z rc rs Q pc L (.ref a :: S) os ce sl := by
  obtain ⟨p, l', e, R', s, m, args, below, meth, c⟩ := X
  obtain ⟨h1, h2, hx, hZ, hby, hml, hown, hnm, hret, hlk⟩ := K
  have h2' : R' = R := h2
  subst h2'
  subst hp
  intro T locs hT0 hH hF
  have hT : Stand p l' e R' s m args below meth c T locs ce sl := hT0
  obtain ⟨-, cl, hcl, hO⟩ := hH.get hm
  obtain ⟨T', X', e', st'⟩ := RoadKit.getF hT hx hZ hown (host := "") (Or.inl w) Via.refl rfl (hO.fld hcl hf) (g := mkF m pc L.toArray (.ref a :: S)) rfl rfl (hb hby hd)
  obtain ⟨s2, o, st, r⟩ := k T' locs X' (by rw [e']; exact hH) hF
  exact ⟨s2, o, st' _ st, r⟩
theorem W.getFN {a : Addr} {O n d C host : String} {v : Value} {fs : List FV} {idx : Nat} (K : Ctx X l Z R y code maxL ret) (pc' : Nat) (hd : decode code pc = .ok (.getfield idx, 3)) (w : (Jvm.Cond.fieldLinkNest y.cls idx O n d host).before a0 Z = true) (hm : (a, OBJ Z C fs) ∈ os) (hf : (O, n, d, v) ∈ fs) (k : WP X Z rc rs Q pc' L (v :: S) os ce sl) (hp : pc + 3 = pc' := by rfl) : WP X Z rc rs Q pc L (.ref a :: S) os ce sl := by
  obtain ⟨p, l', e, R', s, m, args, below, meth, c⟩ := X
  obtain ⟨h1, h2, hx, hZ, hby, hml, hown, hnm, hret, hlk⟩ := K
  have h2' : R' = R := h2
  subst h2'
  subst hp
  intro T locs hT0 hH hF
  have hT : Stand p l' e R' s m args below meth c T locs ce sl := hT0
  obtain ⟨-, cl, hcl, hO⟩ := hH.get hm
  obtain ⟨T', X', e', st'⟩ := RoadKit.getF hT hx hZ hown (host := host) (Or.inr w) Via.refl rfl (hO.fld hcl hf) (g := mkF m pc L.toArray (.ref a :: S)) rfl rfl (hb hby hd)
  obtain ⟨s2, o, st, r⟩ := k T' locs X' (by rw [e']; exact hH) hF
  exact ⟨s2, o, st' _ st, r⟩
theorem W.getFo {a : Addr} {O n d : String} {v : Value} {idx : Nat} (K : Ctx X l Z R y code maxL ret) (pc' : Nat) (hd : decode code pc = .ok (.getfield idx, 3)) (w : (Jvm.Cond.fieldLink y.cls idx O n d).before a0 Z = true) (F : Fld Z Z.heap a O n d v) (k : WP X Z rc rs Q pc' L (v :: S) os ce sl) (hp : pc + 3 = pc' := by rfl) : WP X Z rc rs Q pc L (.ref a :: S) os ce sl := by
  obtain ⟨p, l', e, R', s, m, args, below, meth, c⟩ := X
  obtain ⟨h1, h2, hx, hZ, hby, hml, hown, hnm, hret, hlk⟩ := K
  have h2' : R' = R := h2
  subst h2'
  subst hp
  intro T locs hT0 hH hF
  have hT : Stand p l' e R' s m args below meth c T locs ce sl := hT0
  obtain ⟨T', X', e', st'⟩ := RoadKit.getF hT hx hZ hown (host := "") (Or.inl w) Via.refl rfl (F.ext hH.1) (g := mkF m pc L.toArray (.ref a :: S)) rfl rfl (hb hby hd)
  obtain ⟨s2, o, st, r⟩ := k T' locs X' (by rw [e']; exact hH) hF
  exact ⟨s2, o, st' _ st, r⟩
theorem W.getFR {a : Addr} {O n d C : String} {v : Value} {fs : List FV} {idx : Nat} (K : Ctx X l Z R y code maxL ret) (pc' : Nat) (hd : decode code pc = .ok (.getfield idx, 3)) (w : (Jvm.Cond.fieldRef y.cls idx O n d).before a0 Z = true) (hm : (a, OBJ Z C fs) ∈ os) (hf : (O, n, d, v) ∈ fs) (k : WP X Z rc rs Q pc' L (v :: S) os ce sl) (hp : pc + 3 = pc' := by rfl) : WP X Z rc rs Q pc L (.ref a :: S) os ce sl := by
  obtain ⟨p, l', e, R', s, m, args, below, meth, c⟩ := X
  obtain ⟨h1, h2, hx, hZ, hby, hml, hown, hnm, hret, hlk⟩ := K
  have h2' : R' = R := h2
  subst h2'
  subst hp
  intro T locs hT0 hH hF
  have hT : Stand p l' e R' s m args below meth c T locs ce sl := hT0
  obtain ⟨-, cl, hcl, hO⟩ := hH.get hm
  obtain ⟨s2, o, st, r⟩ := k T locs hT hH hF
  obtain ⟨cell, cf, kf, i, f, f1, f2, f3, f4, f5, f6, f7⟩ := hO.fld hcl hf
  cases hcl.symm.trans f1
  have hZT : Z.Warmed39 T.vm := wtrans hZ (Stand.warmed hT)
  have w1 := Cond.fieldRef_warmed39 hZT w
  have hcur : (Z.setVm T.vm).vm.findClass y.cls = some m.cls := by
    have q := (Stand.warmed hT).alike.findClass y.cls
    show T.vm.findClass y.cls = some m.cls
    rw [q]; exact hown
  obtain ⟨c1, k1, i1, fd1, g1, g2⟩ := Cond.fieldRef_spec hcur w1
  obtain ⟨k2, g3, -⟩ := State.fieldFound?_setVm (s := Z) hZT.alike f2
  cases g1.symm.trans g3
  refine ⟨s2, o, ?_, r⟩
  have hX := Stand.here hT
  have hdg := hb hby hd
  jvm_step hX [hX.top, hx, hdg, getfield.wp_ready (e := e) (s := T) (f := mkF m pc L.toArray (.ref a :: S)) hX.top g2 f3 rfl f1 f4 f7]
  exact st
theorem W.putFg {a : Addr} {O n d C host : String} {v old : Value} {fs fs' : List FV} {idx kk : Nat} {ty : FieldType} (K : Ctx X l Z R y code maxL ret) (pc' : Nat) (hd : decode code pc = .ok (.putfield idx, 3)) (w : (Jvm.Cond.fieldLink y.cls idx O n d).before a0 Z = true ∨ (Jvm.Cond.fieldLinkNest y.cls idx O n d host).before a0 Z = true)
    (hL : (Jvm.Cond.lays C O n d).before a0 Z = true ∨ ((Jvm.Cond.laysFinal C O n d).before a0 Z = true ∧ y.cls = O ∧ y.name = "<init>")) (wi : (Jvm.Cond.instantiable C kk).before a0 Z = true) (hty : parseFieldDescriptor d = some ty) (hn : narrow ty v = v) (hfit : fits ty v = true)
    (hm : Upd os a (OBJ Z C fs) (OBJ Z C fs') os') (hf : UpdF fs O n d old v fs') (k : WP X Z rc rs Q pc' L S os' ce sl) (hp : pc + 3 = pc' := by rfl) : WP X Z rc rs Q pc L (v :: .ref a :: S) os ce sl := by
  obtain ⟨p, l', e, R', s, m, args, below, meth, c⟩ := X
  obtain ⟨h1, h2, hx, hZ, hby, hml, hown, hnm, hret, hlk⟩ := K
  have h2' : R' = R := h2
  subst h2'
  subst hp
  intro T locs hT0 hH hF
  have hT : Stand p l' e R' s m args below meth c T locs ce sl := hT0
  obtain ⟨ii, hm, rfl⟩ := hm
  obtain ⟨ha, cl, hcl, hO⟩ := hH.2.2 ii _ hm
  have hmem : (O, n, d, old) ∈ fs := by obtain ⟨jj, hj, -⟩ := hf; exact List.mem_of_getElem? hj
  obtain ⟨T', h', X', e', W', st'⟩ := RoadKit.putF hT hx hZ hown w Via.refl rfl (hO.fld hcl hmem) (hO.exa hcl) (hL.imp id (fun q => ⟨q.1, q.2.1, by rw [hnm]; exact q.2.2⟩)) wi hty hn hfit (g := mkF m pc L.toArray (v :: .ref a :: S)) rfl rfl (hb hby hd)
  obtain ⟨s2, o, st, r⟩ := k T' _ X' (by rw [e']; exact hH.upd hm W' (fun c c' g1 g2 g3 g4 => by rw [g4]; exact OBJ.put g2 hf)) (Fr.snoc X' hF ha)
  exact ⟨s2, o, st' _ st, r⟩
theorem W.putF {a : Addr} {O n d C : String} {v old : Value} {fs fs' : List FV} {idx kk : Nat} {ty : FieldType} (K : Ctx X l Z R y code maxL ret) (pc' : Nat) (hd : decode code pc = .ok (.putfield idx, 3)) (w : (Jvm.Cond.fieldLink y.cls idx O n d).before a0 Z = true)
    (hL : (Jvm.Cond.lays C O n d).before a0 Z = true) (wi : (Jvm.Cond.instantiable C kk).before a0 Z = true) (hty : parseFieldDescriptor d = some ty) (hm : Upd os a (OBJ Z C fs) (OBJ Z C fs') os') (hf : UpdF fs O n d old v fs') (k : WP X Z rc rs Q pc' L S os' ce sl) (hn : narrow ty v = v := by rfl) (hfit : fits ty v = true := by rfl)
    (hp : pc + 3 = pc' := by rfl) : WP X Z rc rs Q pc L (v :: .ref a :: S) os ce sl := W.putFg (host := "") K pc' hd (Or.inl w) (Or.inl hL) wi hty hn hfit hm hf k hp
theorem W.putFf {a : Addr} {O n d C : String} {v old : Value} {fs fs' : List FV} {idx kk : Nat} {ty : FieldType} (K : Ctx X l Z R y code maxL ret) (pc' : Nat) (hd : decode code pc = .ok (.putfield idx, 3)) (w : (Jvm.Cond.fieldLink y.cls idx O n d).before a0 Z = true)
    (hL : (Jvm.Cond.laysFinal C O n d).before a0 Z = true) (wi : (Jvm.Cond.instantiable C kk).before a0 Z = true) (hty : parseFieldDescriptor d = some ty) (hm : Upd os a (OBJ Z C fs) (OBJ Z C fs') os') (hf : UpdF fs O n d old v fs') (k : WP X Z rc rs Q pc' L S os' ce sl) (hn : narrow ty v = v := by rfl) (hfit : fits ty v = true := by rfl)
    (hy1 : y.cls = O := by rfl) (hy2 : y.name = "<init>" := by rfl) (hp : pc + 3 = pc' := by rfl) : WP X Z rc rs Q pc L (v :: .ref a :: S) os ce sl := W.putFg (host := "") K pc' hd (Or.inl w) (Or.inr ⟨hL, hy1, hy2⟩) wi hty hn hfit hm hf k hp
theorem W.getS {O n d : String} {v : Value} {idx : Nat} (K : Ctx X l Z R y code maxL ret) (pc' : Nat) (hd : decode code pc = .ok (.getstatic idx, 3)) (w : (Jvm.Cond.fieldLink y.cls idx O n d).before a0 Z = true) (F : Sta Z Z.heap O n d v) (k : WP X Z rc rs Q pc' L (v :: S) os ce sl) (hp : pc + 3 = pc' := by rfl) : WP X Z rc rs Q pc L S os ce sl := by
  obtain ⟨p, l', e, R', s, m, args, below, meth, c⟩ := X
  obtain ⟨h1, h2, hx, hZ, hby, hml, hown, hnm, hret, hlk⟩ := K
  have h2' : R' = R := h2
  subst h2'
  subst hp
  intro T locs hT0 hH hF
  have hT : Stand p l' e R' s m args below meth c T locs ce sl := hT0
  obtain ⟨T', X', e', st'⟩ := RoadKit.getS hT hx hZ (host := "") hown w Via.refl rfl (F.ext hH.1) (g := mkF m pc L.toArray S) rfl (hb hby hd)
  obtain ⟨s2, o, st, r⟩ := k T' locs X' (by rw [e']; exact hH) hF
  exact ⟨s2, o, st' _ st, r⟩
theorem W.new {C : String} {idx n : Nat} (fs : List FV) (K : Ctx X l Z R y code maxL ret) (pc' : Nat) (hd : decode code pc = .ok (.new idx, 3)) (w : (Jvm.Cond.classLink y.cls idx C).before a0 Z = true) (wi : (Jvm.Cond.instantiable C n).before a0 Z = true) (wz : (Jvm.Cond.initialized C).before a0 Z = true)
    (q : Laids Z a0 C fs) (k : ∀ a, WP X Z rc rs Q pc' L (.ref a :: S) ((a, OBJ Z C fs) :: os) (ce + 1) (sl + n)) (hc : ce + 1 ≤ R.cells := by decide) (hl : sl + n ≤ R.slots := by decide) (nd : (fs.map (fun f => f.2.1)).Nodup := by decide) (hp : pc + 3 = pc' := by rfl) : WP X Z rc rs Q pc L S os ce sl := by
  obtain ⟨p, l', e, R', s, m, args, below, meth, c⟩ := X
  obtain ⟨h1, h2, hx, hZ, hby, hml, hown, hnm, hret, hlk⟩ := K
  have h2' : R' = R := h2
  subst h2'
  subst hp
  intro T locs hT0 hH hF
  have hT : Stand p l' e R' s m args below meth c T locs ce sl := hT0
  obtain ⟨T', h', X', e', E', A', D', -, st'⟩ := RoadKit.newO hT hx hZ hown w wi wz rfl (g := mkF m pc L.toArray S) rfl (hb hby hd) (hc) (hl)
  obtain ⟨c0, hc0, hO⟩ := OBJ.new A' D' q nd
  obtain ⟨s2, o, st, r⟩ := k T.heap.size T' locs X' (by rw [e']; exact hH.new E' hc0 hO) hF
  exact ⟨s2, o, st' _ st, r⟩
theorem fits_dflt {ty : FieldType} (h : ty = .int ∨ ty = .long ∨ ty = .byte ∨ ty = .char ∨ ty = .boolean ∨ ty = .short) : fits ty (defaultValue ty) = true := by
  rcases h with rfl | rfl | rfl | rfl | rfl | rfl <;> rfl
theorem W.newarray {aty : ArrayType} {ty : FieldType} {z : Int32} (i cap : Nat) (K : Ctx X l Z R y code maxL ret) (pc' : Nat) (hd : decode code pc = .ok (.newarray aty, 2)) (w : (Jvm.Cond.arrayClass ty).before a0 Z = true) (hz : z.toInt = (i : Int)) (hi : i ≤ cap)
    (k : ∀ a, WP X Z rc rs Q pc' L (.ref a :: S) ((a, ARR Z ty (List.replicate i (defaultValue ty))) :: os) (ce + 1) (sl + cap)) (ht : newarray.typeOf aty = ty := by rfl) (htt : ty = .int ∨ ty = .long ∨ ty = .byte ∨ ty = .char ∨ ty = .boolean ∨ ty = .short := by simp) (hb8 : cap * 8 ≤ 536870912 := by decide) (hc : ce + 1 ≤ R.cells := by decide) (hl : sl + cap ≤ R.slots := by decide) (hp : pc + 2 = pc' := by rfl) :
    WP X Z rc rs Q pc L (.int z :: S) os ce sl := by
  obtain ⟨p, l', e, R', s, m, args, below, meth, c⟩ := X
  obtain ⟨h1, h2, hx, hZ, hby, hml, hown, hnm, hret, hlk⟩ := K
  have h2' : R' = R := h2
  subst h2'
  subst hp
  intro T locs hT0 hH hF
  have hT : Stand p l' e R' s m args below meth c T locs ce sl := hT0
  subst ht
  have ez : z.toNatClampNeg = i := by show z.toInt.toNat = i; rw [hz]; rfl
  obtain ⟨T', h', cA, X', e', E', A', st'⟩ := RoadKit.newP hT hx hZ w rfl (g := mkF m pc L.toArray (.int z :: S)) rfl (hb hby hd) rfl (by rw [Int32.lt_iff_toInt_lt, hz]; exact Int.not_lt.mpr (Int.natCast_nonneg i)) (cap := cap) (by rw [ez]; exact hi) hb8 (hc) (hl)
  have hA : ARR Z (newarray.typeOf aty) (List.replicate i (defaultValue (newarray.typeOf aty))) (newA cA (newarray.typeOf aty) z) := by
    refine ⟨A'.2.1, A'.2.2, by simp [newA, ez], fun v hv => ?_, by simp; omega⟩
    rw [(List.mem_replicate.mp hv).2]; exact fits_dflt htt
  obtain ⟨s2, o, st, r⟩ := k T.heap.size T' locs X' (by rw [e']; exact hH.new E' A'.1 hA) hF
  exact ⟨s2, o, st' _ st, r⟩
theorem W.initO {a : Addr} {idx : Nat} (K : Ctx X l Z R y code maxL ret) (pc' : Nat) (hd : decode code pc = .ok (.invokespecial idx, 3)) (w1 : (Jvm.Cond.methodLink y.cls idx Lib.objectInit).before a0 Z = true) (w2 : (Jvm.Cond.instanceMethod Lib.objectInit).before a0 Z = true) (w3 : (Jvm.Cond.code Lib.objectInit ⟨#[0xb1]⟩ 1 none).before a0 Z = true)
    (k : WP X Z rc rs Q pc' L S os ce sl) (hsz : L.length = maxL := by rfl) (hf : 1 ≤ R.frames := by decide) (hl : (S.map fun v => v.category).sum + 12 ≤ R.locals := by exact Nat.le_of_ble_eq_true rfl) (hp : pc + 3 = pc' := by rfl) : WP X Z rc rs Q pc L (.ref a :: S) os ce sl := by
  obtain ⟨p, l', e, R', s, m, args, below, meth, c⟩ := X
  obtain ⟨h1, h2, hx, hZ, hby, hml, hown, hnm, hret, hlk⟩ := K
  have h2' : R' = R := h2
  subst h2'
  subst hp
  intro T locs hT0 hH hF
  have hT : Stand p l' e R' s m args below meth c T locs ce sl := hT0
  obtain ⟨T', X', e', st'⟩ := RoadKit.initO hT hx hZ hown w1 w2 w3 rfl (g := mkF m pc L.toArray (.ref a :: S)) rfl (by rw [hml]; simpa using hsz) rfl (hb hby hd) (hf) (W := (S.map fun v => v.category).sum) (by show 2 * 0 + _ ≤ _; omega) (hl)
  obtain ⟨s2, o, st, r⟩ := k T' locs X' (by rw [e']; exact hH) hF
  exact ⟨s2, o, st' _ st, r⟩

theorem W.retG {w : Value} {t : FieldType} {i : Instr} (K : Ctx X l Z R y code maxL (some t)) (hn : narrow t w = w)
    (hi : (i = .ireturn ∧ (t = .int ∨ t = .boolean ∨ t = .byte ∨ t = .char ∨ t = .short) ∧ ∃ z, w = .int z) ∨ (i = .lreturn ∧ t = .long ∧ ∃ z, w = .long z) ∨ (i = .dreturn ∧ t = .double ∧ ∃ z, w = .double z) ∨ (i = .freturn ∧ t = .float ∧ ∃ z, w = .float z) ∨ (i = .areturn ∧ t.isReference = true ∧ w.isRef = true))
    (hd : decode code pc = .ok (i, 1)) (q : Q (some w) os) (hc : ce ≤ rc) (hs : sl ≤ rs) : WP X Z rc rs Q pc L (w :: S) os ce sl := by
  obtain ⟨p, l', e, R', s, m, args, below, meth, c⟩ := X
  obtain ⟨h1, h2, hx, hZ, hby, hml, hown, hnm, hret, hlk⟩ := K
  have h2' : R' = R := h2
  subst h2'
  intro T locs hT0 hH hF
  have hT : Stand p l' e R' s m args below meth c T locs ce sl := hT0
  have hret' : meth.sig.returnType = some t := hret
  obtain ⟨fs, hr, hrun, hended, hW, hsame⟩ := Stand.leave hT (v := some w) (fun h => by rw [hret'] at h; cases h) hlk
  exact ⟨_, _, retOut hT hx hret hn hi (hb hby hd) hr, hrun, hended, _, _, rfl, ⟨os, q, hH, hF⟩, ⟨_, rfl⟩, hW, hsame.mono hc hs⟩
theorem W.ireturn {z : Int32} (K : Ctx X l Z R y code maxL (some .int)) (hd : decode code pc = .ok (.ireturn, 1)) (q : Q (some (.int z)) os) (hc : ce ≤ rc := by decide) (hs : sl ≤ rs := by decide) : WP X Z rc rs Q pc L (.int z :: S) os ce sl := W.retG K rfl (Or.inl ⟨rfl, Or.inl rfl, z, rfl⟩) hd q hc hs
theorem W.lreturn {z : Int64} (K : Ctx X l Z R y code maxL (some .long)) (hd : decode code pc = .ok (.lreturn, 1)) (q : Q (some (.long z)) os) (hc : ce ≤ rc := by decide) (hs : sl ≤ rs := by decide) : WP X Z rc rs Q pc L (.long z :: S) os ce sl := W.retG K rfl (Or.inr (Or.inl ⟨rfl, rfl, z, rfl⟩)) hd q hc hs
theorem W.areturn {w : Value} {t : FieldType} (K : Ctx X l Z R y code maxL (some t)) (hd : decode code pc = .ok (.areturn, 1)) (q : Q (some w) os) (hw : w.isRef = true := by rfl) (ht : t.isReference = true := by rfl) (hc : ce ≤ rc := by decide) (hs : sl ≤ rs := by decide) : WP X Z rc rs Q pc L (w :: S) os ce sl :=
  W.retG K (by cases t <;> first | rfl | (cases w <;> first | rfl | cases ht | cases hw)) (Or.inr (Or.inr (Or.inr (Or.inr ⟨rfl, ht, hw⟩)))) hd q hc hs
theorem W.zreturn {z : Int32} (K : Ctx X l Z R y code maxL (some .boolean)) (hd : decode code pc = .ok (.ireturn, 1)) (hz : z = 0 ∨ z = 1) (q : Q (some (.int z)) os) (hc : ce ≤ rc := by decide) (hs : sl ≤ rs := by decide) : WP X Z rc rs Q pc L (.int z :: S) os ce sl :=
  W.retG K (by rcases hz with rfl | rfl <;> rfl) (Or.inl ⟨rfl, Or.inr (Or.inl rfl), z, rfl⟩) hd q hc hs
theorem W.creturn {z : Int32} (K : Ctx X l Z R y code maxL (some .char)) (hd : decode code pc = .ok (.ireturn, 1)) (hz : narrow .char (.int z) = .int z) (q : Q (some (.int z)) os) (hc : ce ≤ rc := by decide) (hs : sl ≤ rs := by decide) : WP X Z rc rs Q pc L (.int z :: S) os ce sl :=
  W.retG K hz (Or.inl ⟨rfl, Or.inr (Or.inr (Or.inr (Or.inl rfl))), z, rfl⟩) hd q hc hs
theorem W.breturn {z : Int32} (K : Ctx X l Z R y code maxL (some .byte)) (hd : decode code pc = .ok (.ireturn, 1)) (hz : narrow .byte (.int z) = .int z) (q : Q (some (.int z)) os) (hc : ce ≤ rc := by decide) (hs : sl ≤ rs := by decide) : WP X Z rc rs Q pc L (.int z :: S) os ce sl :=
  W.retG K hz (Or.inl ⟨rfl, Or.inr (Or.inr (Or.inl rfl)), z, rfl⟩) hd q hc hs
theorem W.return (K : Ctx X l Z R y code maxL none) (hd : decode code pc = .ok (.return_, 1)) (q : Q none os) (hc : ce ≤ rc := by decide) (hs : sl ≤ rs := by decide) : WP X Z rc rs Q pc L [] os ce sl := by
  obtain ⟨p, l', e, R', s, m, args, below, meth, c⟩ := X
  obtain ⟨h1, h2, hx, hZ, hby, hml, hown, hnm, hret, hlk⟩ := K
  have h2' : R' = R := h2
  subst h2'
  intro T locs hT0 hH hF
  have hT : Stand p l' e R' s m args below meth c T locs ce sl := hT0
  obtain ⟨fs, hr, hrun, hended, hW, hsame⟩ := Stand.leave hT (v := none) (fun _ => rfl) hlk
  exact ⟨_, _, Stand.returnOut hT hx hret (hb hby hd) hr, hrun, hended, _, _, rfl, ⟨os, q, hH, hF⟩, ⟨_, rfl⟩, hW, hsame.mono hc hs⟩

theorem W.callS {idx mx : Nat} {z : MethodName} {bytes : ByteArray} {rt : Option FieldType} {rm : Room} {argsL : List Value} {S0 : List Value} {ps : List FieldType} {rr : Option FieldType} {Q' : Option Value → OS → Prop} (K : Ctx X l Z R y code maxL ret) (pc' : Nat) (hd : decode code pc = .ok (.invokestatic idx, 3)) (w1 : (Jvm.Cond.methodLink y.cls idx z).before a0 Z = true) (w2 : (Jvm.Cond.static z).before a0 Z = true) (w3 : (Jvm.Cond.initialized z.cls).before a0 Z = true) (w4 : (Jvm.Cond.code z bytes mx rt).before a0 Z = true)
    (hsig : parseMethodDescriptor z.desc = some ⟨ps, rr⟩) (hM : OMeets l Z z bytes mx rt rm argsL os Q') (k : ∀ v os', Q' v os' → WP X Z rc rs Q pc' L (v.toList ++ S) os' (ce + rm.cells) (sl + rm.slots)) (hst : S0 = argsL.reverse ++ S := by rfl) (hlen : argsL.length = ps.length := by rfl) (hsz : L.length = maxL := by rfl) (hf : rm.frames + 1 ≤ R.frames := by decide) (hl : (S.map fun v => v.category).sum + (mx + 11) + rm.locals ≤ R.locals := by exact Nat.le_of_ble_eq_true rfl)
    (hc : ce + rm.cells ≤ R.cells := by decide) (hs : sl + rm.slots ≤ R.slots := by decide) (hy : z.cls ≠ "java/lang/invoke/MethodHandle" ∧ z.cls ≠ "java/lang/invoke/VarHandle" := by decide) (hp : pc + 3 = pc' := by rfl) : WP X Z rc rs Q pc L S0 os ce sl := by
  obtain ⟨p, l', e, R', s, m, args, below, meth, c⟩ := X
  obtain ⟨rfl, h2, hx, hZ, hby, hml, hown, hnm, hret, hlk⟩ := K
  have h2' : R' = R := h2
  subst h2'
  subst hp
  intro T locs hT0 hH hF
  have hT : Stand p l' e R' s m args below meth c T locs ce sl := hT0
  obtain ⟨v, vm1, ⟨T', L', k', n'⟩, -, X', ⟨Lc, ⟨os1, hQ1, hH1, hF1⟩, e1, e2, e3⟩, st'⟩ := Jvm.LawKit.callS hT hx (y := z) hown (mvT hZ w1) (mvT hZ w2) (mvT hZ w3) (mvT hZ w4) hy (backOf (W := (S.map fun v => v.category).sum) (Q := fun v h L => ∃ os', Q' v os' ∧ Hp Z h os' ∧ Fr Z.heap.size L) (hM _ hH []) hZ w4 w3 (hf) (hl)) (g := mkF m pc L.toArray S0) rfl (by rw [hml]; simpa using hsz) (argsL := argsL) (rest := S) (lenOf hsig hlen) hst (by show 2 * 0 + _ ≤ _; omega) (hb hby hd) (fun _ _ => ⟨rfl, rfl, hc, hs⟩)
  dsimp only [Pt.U, Pt.locs, Pt.cells, Pt.slots] at X' e1 e2 e3 st' hH1
  subst e1 e2 e3
  obtain ⟨s2, o, st, r⟩ := k v os1 hQ1 T' _ X' hH1 (Fr.app hF hF1)
  exact ⟨s2, o, st' _ st, r⟩
theorem W.callSv {idx mx : Nat} {z : MethodName} {bytes : ByteArray} {rt : Option FieldType} {rm : Room} {argsL : List Value} {S0 : List Value} {ps : List FieldType} {rr : Option FieldType} {q : Value → OS → Prop} (K : Ctx X l Z R y code maxL ret) (pc' : Nat) (hd : decode code pc = .ok (.invokestatic idx, 3)) (w1 : (Jvm.Cond.methodLink y.cls idx z).before a0 Z = true) (w2 : (Jvm.Cond.static z).before a0 Z = true) (w3 : (Jvm.Cond.initialized z.cls).before a0 Z = true) (w4 : (Jvm.Cond.code z bytes mx rt).before a0 Z = true)
    (hsig : parseMethodDescriptor z.desc = some ⟨ps, rr⟩) (hM : OMeets l Z z bytes mx rt rm argsL os (RetV q)) (k : ∀ v os', q v os' → WP X Z rc rs Q pc' L (v :: S) os' (ce + rm.cells) (sl + rm.slots)) (hst : S0 = argsL.reverse ++ S := by rfl) (hlen : argsL.length = ps.length := by rfl) (hsz : L.length = maxL := by rfl) (hf : rm.frames + 1 ≤ R.frames := by decide) (hl : (S.map fun v => v.category).sum + (mx + 11) + rm.locals ≤ R.locals := by exact Nat.le_of_ble_eq_true rfl)
    (hc : ce + rm.cells ≤ R.cells := by decide) (hs : sl + rm.slots ≤ R.slots := by decide) (hy : z.cls ≠ "java/lang/invoke/MethodHandle" ∧ z.cls ≠ "java/lang/invoke/VarHandle" := by decide) (hp : pc + 3 = pc' := by rfl) : WP X Z rc rs Q pc L S0 os ce sl :=
  W.callS K pc' hd w1 w2 w3 w4 hsig hM (fun v os' hq => by obtain ⟨x, rfl, hq⟩ := hq; exact k x os' hq) hst hlen hsz hf hl hc hs hy hp
theorem W.callSn {idx mx : Nat} {z : MethodName} {bytes : ByteArray} {rt : Option FieldType} {rm : Room} {argsL : List Value} {S0 : List Value} {ps : List FieldType} {rr : Option FieldType} {q : OS → Prop} (K : Ctx X l Z R y code maxL ret) (pc' : Nat) (hd : decode code pc = .ok (.invokestatic idx, 3)) (w1 : (Jvm.Cond.methodLink y.cls idx z).before a0 Z = true) (w2 : (Jvm.Cond.static z).before a0 Z = true) (w3 : (Jvm.Cond.initialized z.cls).before a0 Z = true) (w4 : (Jvm.Cond.code z bytes mx rt).before a0 Z = true)
    (hsig : parseMethodDescriptor z.desc = some ⟨ps, rr⟩) (hM : OMeets l Z z bytes mx rt rm argsL os (RetN q)) (k : ∀ os', q os' → WP X Z rc rs Q pc' L S os' (ce + rm.cells) (sl + rm.slots)) (hst : S0 = argsL.reverse ++ S := by rfl) (hlen : argsL.length = ps.length := by rfl) (hsz : L.length = maxL := by rfl) (hf : rm.frames + 1 ≤ R.frames := by decide) (hl : (S.map fun v => v.category).sum + (mx + 11) + rm.locals ≤ R.locals := by exact Nat.le_of_ble_eq_true rfl)
    (hc : ce + rm.cells ≤ R.cells := by decide) (hs : sl + rm.slots ≤ R.slots := by decide) (hy : z.cls ≠ "java/lang/invoke/MethodHandle" ∧ z.cls ≠ "java/lang/invoke/VarHandle" := by decide) (hp : pc + 3 = pc' := by rfl) : WP X Z rc rs Q pc L S0 os ce sl :=
  W.callS K pc' hd w1 w2 w3 w4 hsig hM (fun v os' hq => by obtain ⟨rfl, hq⟩ := hq; exact k os' hq) hst hlen hsz hf hl hc hs hy hp
theorem W.callI {idx mx : Nat} {z : MethodName} {bytes : ByteArray}  {rm : Room} {argsL : List Value} {S0 : List Value} {ps : List FieldType} {rr : Option FieldType} {b : Addr} {Q' : Option Value → OS → Prop} (K : Ctx X l Z R y code maxL ret) (pc' : Nat) (hd : decode code pc = .ok (.invokespecial idx, 3)) (w1 : (Jvm.Cond.methodLink y.cls idx z).before a0 Z = true) (w2 : (Jvm.Cond.instanceMethod z).before a0 Z = true) (w3 : (Jvm.Cond.initialized z.cls).before a0 Z = true) (w4 : (Jvm.Cond.code z bytes mx none).before a0 Z = true)
    (hsig : parseMethodDescriptor z.desc = some ⟨ps, rr⟩) (hM : OMeets l Z z bytes mx none rm (.ref b :: argsL) os Q') (k : ∀ v os', Q' v os' → WP X Z rc rs Q pc' L (v.toList ++ S) os' (ce + rm.cells) (sl + rm.slots)) (hz1 : z.name = "<init>" := by rfl) (hst : S0 = argsL.reverse ++ .ref b :: S := by rfl) (hlen : argsL.length = ps.length := by rfl) (hsz : L.length = maxL := by rfl) (hf : rm.frames + 1 ≤ R.frames := by decide) (hl : (S.map fun v => v.category).sum + (mx + 11) + rm.locals ≤ R.locals := by exact Nat.le_of_ble_eq_true rfl)
    (hc : ce + rm.cells ≤ R.cells := by decide) (hs : sl + rm.slots ≤ R.slots := by decide) (hy : z.cls ≠ "java/lang/invoke/MethodHandle" ∧ z.cls ≠ "java/lang/invoke/VarHandle" := by decide) (hp : pc + 3 = pc' := by rfl) : WP X Z rc rs Q pc L S0 os ce sl := by
  obtain ⟨p, l', e, R', s, m, args, below, meth, c⟩ := X
  obtain ⟨rfl, h2, hx, hZ, hby, hml, hown, hnm, hret, hlk⟩ := K
  have h2' : R' = R := h2
  subst h2'
  subst hp
  intro T locs hT0 hH hF
  have hT : Stand p l' e R' s m args below meth c T locs ce sl := hT0
  obtain ⟨v, vm1, ⟨T', L', k', n'⟩, -, X', ⟨Lc, ⟨os1, hQ1, hH1, hF1⟩, e1, e2, e3⟩, st'⟩ := Stand.specialBack hT hx (y := z) hz1 hown (mvT hZ w1) (mvT hZ w2) (mvT hZ w4) hy (backOf (W := (S.map fun v => v.category).sum) (Q := fun v h L => ∃ os', Q' v os' ∧ Hp Z h os' ∧ Fr Z.heap.size L) (hM _ hH []) hZ w4 w3 (hf) (hl)) (g := mkF m pc L.toArray S0) rfl (by rw [hml]; simpa using hsz) (Steps.refl _) (a := b) (argsL := argsL) (rest := S) (lenOf hsig hlen) hst (by show 2 * 0 + _ ≤ _; omega) (hb hby hd) (fun _ _ => ⟨rfl, rfl, hc, hs⟩)
  dsimp only [Pt.U, Pt.locs, Pt.cells, Pt.slots] at X' e1 e2 e3 st' hH1
  subst e1 e2 e3
  obtain ⟨s2, o, st, r⟩ := k v os1 hQ1 T' _ X' hH1 (Fr.app hF hF1)
  exact ⟨s2, o, st'.trans st, r⟩
theorem W.callIn {idx mx : Nat} {z : MethodName} {bytes : ByteArray}  {rm : Room} {argsL : List Value} {S0 : List Value} {ps : List FieldType} {rr : Option FieldType} {b : Addr} {q : OS → Prop} (K : Ctx X l Z R y code maxL ret) (pc' : Nat) (hd : decode code pc = .ok (.invokespecial idx, 3)) (w1 : (Jvm.Cond.methodLink y.cls idx z).before a0 Z = true) (w2 : (Jvm.Cond.instanceMethod z).before a0 Z = true) (w3 : (Jvm.Cond.initialized z.cls).before a0 Z = true) (w4 : (Jvm.Cond.code z bytes mx none).before a0 Z = true)
    (hsig : parseMethodDescriptor z.desc = some ⟨ps, rr⟩) (hM : OMeets l Z z bytes mx none rm (.ref b :: argsL) os (RetN q)) (k : ∀ os', q os' → WP X Z rc rs Q pc' L S os' (ce + rm.cells) (sl + rm.slots)) (hz1 : z.name = "<init>" := by rfl) (hst : S0 = argsL.reverse ++ .ref b :: S := by rfl) (hlen : argsL.length = ps.length := by rfl) (hsz : L.length = maxL := by rfl) (hf : rm.frames + 1 ≤ R.frames := by decide) (hl : (S.map fun v => v.category).sum + (mx + 11) + rm.locals ≤ R.locals := by exact Nat.le_of_ble_eq_true rfl)
    (hc : ce + rm.cells ≤ R.cells := by decide) (hs : sl + rm.slots ≤ R.slots := by decide) (hy : z.cls ≠ "java/lang/invoke/MethodHandle" ∧ z.cls ≠ "java/lang/invoke/VarHandle" := by decide) (hp : pc + 3 = pc' := by rfl) : WP X Z rc rs Q pc L S0 os ce sl :=
  W.callI K pc' hd w1 w2 w3 w4 hsig hM (fun v os' hq => by obtain ⟨rfl, hq⟩ := hq; exact k os' hq) hz1 hst hlen hsz hf hl hc hs hy hp
theorem W.callV {idx mx : Nat} {z : MethodName} {bytes : ByteArray} {rt : Option FieldType} {C : String} {rm : Room} {argsL : List Value} {S0 : List Value} {ps : List FieldType} {rr : Option FieldType} {b : Addr} {Q' : Option Value → OS → Prop} (K : Ctx X l Z R y code maxL ret) (pc' : Nat) (hd : decode code pc = .ok (.invokevirtual idx, 3)) (w1 : (Jvm.Cond.methodLink y.cls idx z).before a0 Z = true) (w2 : (Jvm.Cond.declares z).before a0 Z = true) (w5 : (Jvm.Cond.selects C z z).before a0 Z = true) (w6 : (Jvm.Cond.instanceMethod z).before a0 Z = true) (w3 : (Jvm.Cond.initialized z.cls).before a0 Z = true) (w4 : (Jvm.Cond.code z bytes mx rt).before a0 Z = true)
    (hsig : parseMethodDescriptor z.desc = some ⟨ps, rr⟩) (hrc : ∀ h, Hp Z h os → Exa Z h b C) (hM : OMeets l Z z bytes mx rt rm (.ref b :: argsL) os Q') (k : ∀ v os', Q' v os' → WP X Z rc rs Q pc' L (v.toList ++ S) os' (ce + rm.cells) (sl + rm.slots)) (hst : S0 = argsL.reverse ++ .ref b :: S := by rfl) (hlen : argsL.length = ps.length := by rfl) (hsz : L.length = maxL := by rfl) (hf : rm.frames + 1 ≤ R.frames := by decide) (hl : (S.map fun v => v.category).sum + (mx + 11) + rm.locals ≤ R.locals := by exact Nat.le_of_ble_eq_true rfl)
    (hc : ce + rm.cells ≤ R.cells := by decide) (hs : sl + rm.slots ≤ R.slots := by decide) (hy : z.cls ≠ "java/lang/invoke/MethodHandle" ∧ z.cls ≠ "java/lang/invoke/VarHandle" := by decide) (hp : pc + 3 = pc' := by rfl) : WP X Z rc rs Q pc L S0 os ce sl := by
  obtain ⟨p, l', e, R', s, m, args, below, meth, c⟩ := X
  obtain ⟨rfl, h2, hx, hZ, hby, hml, hown, hnm, hret, hlk⟩ := K
  have h2' : R' = R := h2
  subst h2'
  subst hp
  intro T locs hT0 hH hF
  have hT : Stand p l' e R' s m args below meth c T locs ce sl := hT0
  obtain ⟨cq7, kq7, q7a, q7b, q7c⟩ := isOf (T := T) hZ rfl (hrc T.heap hH)
  obtain ⟨v, vm1, ⟨T', L', k', n'⟩, -, X', ⟨Lc, ⟨os1, hQ1, hH1, hF1⟩, e1, e2, e3⟩, st'⟩ := Stand.virtualBack hT hx (y := z) (z := z) hown (mvT hZ w1) (mvT hZ w2) (notFace_of_selects (args := #[]) (mvT hZ w5)) (mvT hZ w5) (mvT hZ w6) hy (backOf (W := (S.map fun v => v.category).sum) (Q := fun v h L => ∃ os', Q' v os' ∧ Hp Z h os' ∧ Fr Z.heap.size L) (hM _ hH []) hZ w4 w3 (hf) (hl)) q7a q7c (g := mkF m pc L.toArray S0) rfl (by rw [hml]; simpa using hsz) (Steps.refl _) (argsL := argsL) (rest := S) (lenOf hsig hlen) hst (by show 2 * 0 + _ ≤ _; omega) (hb hby hd) (fun _ _ => ⟨rfl, rfl, hc, hs⟩)
  dsimp only [Pt.U, Pt.locs, Pt.cells, Pt.slots] at X' e1 e2 e3 st' hH1
  subst e1 e2 e3
  obtain ⟨s2, o, st, r⟩ := k v os1 hQ1 T' _ X' hH1 (Fr.app hF hF1)
  exact ⟨s2, o, st'.trans st, r⟩
theorem W.callVv {idx mx : Nat} {z : MethodName} {bytes : ByteArray} {rt : Option FieldType} {C : String} {rm : Room} {argsL : List Value} {S0 : List Value} {ps : List FieldType} {rr : Option FieldType} {b : Addr} {q : Value → OS → Prop} (K : Ctx X l Z R y code maxL ret) (pc' : Nat) (hd : decode code pc = .ok (.invokevirtual idx, 3)) (w1 : (Jvm.Cond.methodLink y.cls idx z).before a0 Z = true) (w2 : (Jvm.Cond.declares z).before a0 Z = true) (w5 : (Jvm.Cond.selects C z z).before a0 Z = true) (w6 : (Jvm.Cond.instanceMethod z).before a0 Z = true) (w3 : (Jvm.Cond.initialized z.cls).before a0 Z = true) (w4 : (Jvm.Cond.code z bytes mx rt).before a0 Z = true)
    (hsig : parseMethodDescriptor z.desc = some ⟨ps, rr⟩) (hrc : ∀ h, Hp Z h os → Exa Z h b C) (hM : OMeets l Z z bytes mx rt rm (.ref b :: argsL) os (RetV q)) (k : ∀ v os', q v os' → WP X Z rc rs Q pc' L (v :: S) os' (ce + rm.cells) (sl + rm.slots)) (hst : S0 = argsL.reverse ++ .ref b :: S := by rfl) (hlen : argsL.length = ps.length := by rfl) (hsz : L.length = maxL := by rfl) (hf : rm.frames + 1 ≤ R.frames := by decide) (hl : (S.map fun v => v.category).sum + (mx + 11) + rm.locals ≤ R.locals := by exact Nat.le_of_ble_eq_true rfl)
    (hc : ce + rm.cells ≤ R.cells := by decide) (hs : sl + rm.slots ≤ R.slots := by decide) (hy : z.cls ≠ "java/lang/invoke/MethodHandle" ∧ z.cls ≠ "java/lang/invoke/VarHandle" := by decide) (hp : pc + 3 = pc' := by rfl) : WP X Z rc rs Q pc L S0 os ce sl :=
  W.callV K pc' hd w1 w2 w5 w6 w3 w4 hsig hrc hM (fun v os' hq => by obtain ⟨x, rfl, hq⟩ := hq; exact k x os' hq) hst hlen hsz hf hl hc hs hy hp
theorem W.callVn {idx mx : Nat} {z : MethodName} {bytes : ByteArray} {rt : Option FieldType} {C : String} {rm : Room} {argsL : List Value} {S0 : List Value} {ps : List FieldType} {rr : Option FieldType} {b : Addr} {q : OS → Prop} (K : Ctx X l Z R y code maxL ret) (pc' : Nat) (hd : decode code pc = .ok (.invokevirtual idx, 3)) (w1 : (Jvm.Cond.methodLink y.cls idx z).before a0 Z = true) (w2 : (Jvm.Cond.declares z).before a0 Z = true) (w5 : (Jvm.Cond.selects C z z).before a0 Z = true) (w6 : (Jvm.Cond.instanceMethod z).before a0 Z = true) (w3 : (Jvm.Cond.initialized z.cls).before a0 Z = true) (w4 : (Jvm.Cond.code z bytes mx rt).before a0 Z = true)
    (hsig : parseMethodDescriptor z.desc = some ⟨ps, rr⟩) (hrc : ∀ h, Hp Z h os → Exa Z h b C) (hM : OMeets l Z z bytes mx rt rm (.ref b :: argsL) os (RetN q)) (k : ∀ os', q os' → WP X Z rc rs Q pc' L S os' (ce + rm.cells) (sl + rm.slots)) (hst : S0 = argsL.reverse ++ .ref b :: S := by rfl) (hlen : argsL.length = ps.length := by rfl) (hsz : L.length = maxL := by rfl) (hf : rm.frames + 1 ≤ R.frames := by decide) (hl : (S.map fun v => v.category).sum + (mx + 11) + rm.locals ≤ R.locals := by exact Nat.le_of_ble_eq_true rfl)
    (hc : ce + rm.cells ≤ R.cells := by decide) (hs : sl + rm.slots ≤ R.slots := by decide) (hy : z.cls ≠ "java/lang/invoke/MethodHandle" ∧ z.cls ≠ "java/lang/invoke/VarHandle" := by decide) (hp : pc + 3 = pc' := by rfl) : WP X Z rc rs Q pc L S0 os ce sl :=
  W.callV K pc' hd w1 w2 w5 w6 w3 w4 hsig hrc hM (fun v os' hq => by obtain ⟨rfl, hq⟩ := hq; exact k os' hq) hst hlen hsz hf hl hc hs hy hp
theorem W.callSv0 {idx mx : Nat} {z : MethodName} {bytes : ByteArray} {rt : Option FieldType} {rm : Room} {ps : List FieldType} {rr : Option FieldType} {q : Value → OS → Prop} (K : Ctx X l Z R y code maxL ret) (pc' : Nat) (hd : decode code pc = .ok (.invokestatic idx, 3)) (w1 : (Jvm.Cond.methodLink y.cls idx z).before a0 Z = true) (w2 : (Jvm.Cond.static z).before a0 Z = true) (w3 : (Jvm.Cond.initialized z.cls).before a0 Z = true) (w4 : (Jvm.Cond.code z bytes mx rt).before a0 Z = true)
    (hsig : parseMethodDescriptor z.desc = some ⟨ps, rr⟩) (hM : OMeets l Z z bytes mx rt rm [] os (RetV q)) (k : ∀ v os', q v os' → WP X Z rc rs Q pc' L (v :: S) os' (ce + rm.cells) (sl + rm.slots)) (hlen : ([] : List Value).length = ps.length := by rfl) (hsz : L.length = maxL := by rfl) (hf : rm.frames + 1 ≤ R.frames := by decide) (hl : (S.map fun v => v.category).sum + (mx + 11) + rm.locals ≤ R.locals := by exact Nat.le_of_ble_eq_true rfl)
    (hc : ce + rm.cells ≤ R.cells := by decide) (hs : sl + rm.slots ≤ R.slots := by decide) (hy : z.cls ≠ "java/lang/invoke/MethodHandle" ∧ z.cls ≠ "java/lang/invoke/VarHandle" := by decide) (hp : pc + 3 = pc' := by rfl) : WP X Z rc rs Q pc L (S) os ce sl :=
  W.callSv (argsL := []) (S := S) K pc' hd w1 w2 w3 w4 hsig hM k rfl hlen hsz hf hl hc hs hy hp
theorem W.callSv1 {idx mx : Nat} {z : MethodName} {bytes : ByteArray} {rt : Option FieldType} {rm : Room} {ps : List FieldType} {rr : Option FieldType} {x1 : Value} {q : Value → OS → Prop} (K : Ctx X l Z R y code maxL ret) (pc' : Nat) (hd : decode code pc = .ok (.invokestatic idx, 3)) (w1 : (Jvm.Cond.methodLink y.cls idx z).before a0 Z = true) (w2 : (Jvm.Cond.static z).before a0 Z = true) (w3 : (Jvm.Cond.initialized z.cls).before a0 Z = true) (w4 : (Jvm.Cond.code z bytes mx rt).before a0 Z = true)
    (hsig : parseMethodDescriptor z.desc = some ⟨ps, rr⟩) (hM : OMeets l Z z bytes mx rt rm [x1] os (RetV q)) (k : ∀ v os', q v os' → WP X Z rc rs Q pc' L (v :: S) os' (ce + rm.cells) (sl + rm.slots)) (hlen : ([x1] : List Value).length = ps.length := by rfl) (hsz : L.length = maxL := by rfl) (hf : rm.frames + 1 ≤ R.frames := by decide) (hl : (S.map fun v => v.category).sum + (mx + 11) + rm.locals ≤ R.locals := by exact Nat.le_of_ble_eq_true rfl)
    (hc : ce + rm.cells ≤ R.cells := by decide) (hs : sl + rm.slots ≤ R.slots := by decide) (hy : z.cls ≠ "java/lang/invoke/MethodHandle" ∧ z.cls ≠ "java/lang/invoke/VarHandle" := by decide) (hp : pc + 3 = pc' := by rfl) : WP X Z rc rs Q pc L (x1 :: S) os ce sl :=
  W.callSv (argsL := [x1]) (S := S) K pc' hd w1 w2 w3 w4 hsig hM k rfl hlen hsz hf hl hc hs hy hp
theorem W.callSv2 {idx mx : Nat} {z : MethodName} {bytes : ByteArray} {rt : Option FieldType} {rm : Room} {ps : List FieldType} {rr : Option FieldType} {x1 x2 : Value} {q : Value → OS → Prop} (K : Ctx X l Z R y code maxL ret) (pc' : Nat) (hd : decode code pc = .ok (.invokestatic idx, 3)) (w1 : (Jvm.Cond.methodLink y.cls idx z).before a0 Z = true) (w2 : (Jvm.Cond.static z).before a0 Z = true) (w3 : (Jvm.Cond.initialized z.cls).before a0 Z = true) (w4 : (Jvm.Cond.code z bytes mx rt).before a0 Z = true)
    (hsig : parseMethodDescriptor z.desc = some ⟨ps, rr⟩) (hM : OMeets l Z z bytes mx rt rm [x1, x2] os (RetV q)) (k : ∀ v os', q v os' → WP X Z rc rs Q pc' L (v :: S) os' (ce + rm.cells) (sl + rm.slots)) (hlen : ([x1, x2] : List Value).length = ps.length := by rfl) (hsz : L.length = maxL := by rfl) (hf : rm.frames + 1 ≤ R.frames := by decide) (hl : (S.map fun v => v.category).sum + (mx + 11) + rm.locals ≤ R.locals := by exact Nat.le_of_ble_eq_true rfl)
    (hc : ce + rm.cells ≤ R.cells := by decide) (hs : sl + rm.slots ≤ R.slots := by decide) (hy : z.cls ≠ "java/lang/invoke/MethodHandle" ∧ z.cls ≠ "java/lang/invoke/VarHandle" := by decide) (hp : pc + 3 = pc' := by rfl) : WP X Z rc rs Q pc L (x2 :: x1 :: S) os ce sl :=
  W.callSv (argsL := [x1, x2]) (S := S) K pc' hd w1 w2 w3 w4 hsig hM k rfl hlen hsz hf hl hc hs hy hp
theorem W.callSv3 {idx mx : Nat} {z : MethodName} {bytes : ByteArray} {rt : Option FieldType} {rm : Room} {ps : List FieldType} {rr : Option FieldType} {x1 x2 x3 : Value} {q : Value → OS → Prop} (K : Ctx X l Z R y code maxL ret) (pc' : Nat) (hd : decode code pc = .ok (.invokestatic idx, 3)) (w1 : (Jvm.Cond.methodLink y.cls idx z).before a0 Z = true) (w2 : (Jvm.Cond.static z).before a0 Z = true) (w3 : (Jvm.Cond.initialized z.cls).before a0 Z = true) (w4 : (Jvm.Cond.code z bytes mx rt).before a0 Z = true)
    (hsig : parseMethodDescriptor z.desc = some ⟨ps, rr⟩) (hM : OMeets l Z z bytes mx rt rm [x1, x2, x3] os (RetV q)) (k : ∀ v os', q v os' → WP X Z rc rs Q pc' L (v :: S) os' (ce + rm.cells) (sl + rm.slots)) (hlen : ([x1, x2, x3] : List Value).length = ps.length := by rfl) (hsz : L.length = maxL := by rfl) (hf : rm.frames + 1 ≤ R.frames := by decide) (hl : (S.map fun v => v.category).sum + (mx + 11) + rm.locals ≤ R.locals := by exact Nat.le_of_ble_eq_true rfl)
    (hc : ce + rm.cells ≤ R.cells := by decide) (hs : sl + rm.slots ≤ R.slots := by decide) (hy : z.cls ≠ "java/lang/invoke/MethodHandle" ∧ z.cls ≠ "java/lang/invoke/VarHandle" := by decide) (hp : pc + 3 = pc' := by rfl) : WP X Z rc rs Q pc L (x3 :: x2 :: x1 :: S) os ce sl :=
  W.callSv (argsL := [x1, x2, x3]) (S := S) K pc' hd w1 w2 w3 w4 hsig hM k rfl hlen hsz hf hl hc hs hy hp
theorem W.callSv4 {idx mx : Nat} {z : MethodName} {bytes : ByteArray} {rt : Option FieldType} {rm : Room} {ps : List FieldType} {rr : Option FieldType} {x1 x2 x3 x4 : Value} {q : Value → OS → Prop} (K : Ctx X l Z R y code maxL ret) (pc' : Nat) (hd : decode code pc = .ok (.invokestatic idx, 3)) (w1 : (Jvm.Cond.methodLink y.cls idx z).before a0 Z = true) (w2 : (Jvm.Cond.static z).before a0 Z = true) (w3 : (Jvm.Cond.initialized z.cls).before a0 Z = true) (w4 : (Jvm.Cond.code z bytes mx rt).before a0 Z = true)
    (hsig : parseMethodDescriptor z.desc = some ⟨ps, rr⟩) (hM : OMeets l Z z bytes mx rt rm [x1, x2, x3, x4] os (RetV q)) (k : ∀ v os', q v os' → WP X Z rc rs Q pc' L (v :: S) os' (ce + rm.cells) (sl + rm.slots)) (hlen : ([x1, x2, x3, x4] : List Value).length = ps.length := by rfl) (hsz : L.length = maxL := by rfl) (hf : rm.frames + 1 ≤ R.frames := by decide) (hl : (S.map fun v => v.category).sum + (mx + 11) + rm.locals ≤ R.locals := by exact Nat.le_of_ble_eq_true rfl)
    (hc : ce + rm.cells ≤ R.cells := by decide) (hs : sl + rm.slots ≤ R.slots := by decide) (hy : z.cls ≠ "java/lang/invoke/MethodHandle" ∧ z.cls ≠ "java/lang/invoke/VarHandle" := by decide) (hp : pc + 3 = pc' := by rfl) : WP X Z rc rs Q pc L (x4 :: x3 :: x2 :: x1 :: S) os ce sl :=
  W.callSv (argsL := [x1, x2, x3, x4]) (S := S) K pc' hd w1 w2 w3 w4 hsig hM k rfl hlen hsz hf hl hc hs hy hp
theorem W.callSv5 {idx mx : Nat} {z : MethodName} {bytes : ByteArray} {rt : Option FieldType} {rm : Room} {ps : List FieldType} {rr : Option FieldType} {x1 x2 x3 x4 x5 : Value} {q : Value → OS → Prop} (K : Ctx X l Z R y code maxL ret) (pc' : Nat) (hd : decode code pc = .ok (.invokestatic idx, 3)) (w1 : (Jvm.Cond.methodLink y.cls idx z).before a0 Z = true) (w2 : (Jvm.Cond.static z).before a0 Z = true) (w3 : (Jvm.Cond.initialized z.cls).before a0 Z = true) (w4 : (Jvm.Cond.code z bytes mx rt).before a0 Z = true)
    (hsig : parseMethodDescriptor z.desc = some ⟨ps, rr⟩) (hM : OMeets l Z z bytes mx rt rm [x1, x2, x3, x4, x5] os (RetV q)) (k : ∀ v os', q v os' → WP X Z rc rs Q pc' L (v :: S) os' (ce + rm.cells) (sl + rm.slots)) (hlen : ([x1, x2, x3, x4, x5] : List Value).length = ps.length := by rfl) (hsz : L.length = maxL := by rfl) (hf : rm.frames + 1 ≤ R.frames := by decide) (hl : (S.map fun v => v.category).sum + (mx + 11) + rm.locals ≤ R.locals := by exact Nat.le_of_ble_eq_true rfl)
    (hc : ce + rm.cells ≤ R.cells := by decide) (hs : sl + rm.slots ≤ R.slots := by decide) (hy : z.cls ≠ "java/lang/invoke/MethodHandle" ∧ z.cls ≠ "java/lang/invoke/VarHandle" := by decide) (hp : pc + 3 = pc' := by rfl) : WP X Z rc rs Q pc L (x5 :: x4 :: x3 :: x2 :: x1 :: S) os ce sl :=
  W.callSv (argsL := [x1, x2, x3, x4, x5]) (S := S) K pc' hd w1 w2 w3 w4 hsig hM k rfl hlen hsz hf hl hc hs hy hp
theorem W.callSv6 {idx mx : Nat} {z : MethodName} {bytes : ByteArray} {rt : Option FieldType} {rm : Room} {ps : List FieldType} {rr : Option FieldType} {x1 x2 x3 x4 x5 x6 : Value} {q : Value → OS → Prop} (K : Ctx X l Z R y code maxL ret) (pc' : Nat) (hd : decode code pc = .ok (.invokestatic idx, 3)) (w1 : (Jvm.Cond.methodLink y.cls idx z).before a0 Z = true) (w2 : (Jvm.Cond.static z).before a0 Z = true) (w3 : (Jvm.Cond.initialized z.cls).before a0 Z = true) (w4 : (Jvm.Cond.code z bytes mx rt).before a0 Z = true)
    (hsig : parseMethodDescriptor z.desc = some ⟨ps, rr⟩) (hM : OMeets l Z z bytes mx rt rm [x1, x2, x3, x4, x5, x6] os (RetV q)) (k : ∀ v os', q v os' → WP X Z rc rs Q pc' L (v :: S) os' (ce + rm.cells) (sl + rm.slots)) (hlen : ([x1, x2, x3, x4, x5, x6] : List Value).length = ps.length := by rfl) (hsz : L.length = maxL := by rfl) (hf : rm.frames + 1 ≤ R.frames := by decide) (hl : (S.map fun v => v.category).sum + (mx + 11) + rm.locals ≤ R.locals := by exact Nat.le_of_ble_eq_true rfl)
    (hc : ce + rm.cells ≤ R.cells := by decide) (hs : sl + rm.slots ≤ R.slots := by decide) (hy : z.cls ≠ "java/lang/invoke/MethodHandle" ∧ z.cls ≠ "java/lang/invoke/VarHandle" := by decide) (hp : pc + 3 = pc' := by rfl) : WP X Z rc rs Q pc L (x6 :: x5 :: x4 :: x3 :: x2 :: x1 :: S) os ce sl :=
  W.callSv (argsL := [x1, x2, x3, x4, x5, x6]) (S := S) K pc' hd w1 w2 w3 w4 hsig hM k rfl hlen hsz hf hl hc hs hy hp
theorem W.callSv7 {idx mx : Nat} {z : MethodName} {bytes : ByteArray} {rt : Option FieldType} {rm : Room} {ps : List FieldType} {rr : Option FieldType} {x1 x2 x3 x4 x5 x6 x7 : Value} {q : Value → OS → Prop} (K : Ctx X l Z R y code maxL ret) (pc' : Nat) (hd : decode code pc = .ok (.invokestatic idx, 3)) (w1 : (Jvm.Cond.methodLink y.cls idx z).before a0 Z = true) (w2 : (Jvm.Cond.static z).before a0 Z = true) (w3 : (Jvm.Cond.initialized z.cls).before a0 Z = true) (w4 : (Jvm.Cond.code z bytes mx rt).before a0 Z = true)
    (hsig : parseMethodDescriptor z.desc = some ⟨ps, rr⟩) (hM : OMeets l Z z bytes mx rt rm [x1, x2, x3, x4, x5, x6, x7] os (RetV q)) (k : ∀ v os', q v os' → WP X Z rc rs Q pc' L (v :: S) os' (ce + rm.cells) (sl + rm.slots)) (hlen : ([x1, x2, x3, x4, x5, x6, x7] : List Value).length = ps.length := by rfl) (hsz : L.length = maxL := by rfl) (hf : rm.frames + 1 ≤ R.frames := by decide) (hl : (S.map fun v => v.category).sum + (mx + 11) + rm.locals ≤ R.locals := by exact Nat.le_of_ble_eq_true rfl)
    (hc : ce + rm.cells ≤ R.cells := by decide) (hs : sl + rm.slots ≤ R.slots := by decide) (hy : z.cls ≠ "java/lang/invoke/MethodHandle" ∧ z.cls ≠ "java/lang/invoke/VarHandle" := by decide) (hp : pc + 3 = pc' := by rfl) : WP X Z rc rs Q pc L (x7 :: x6 :: x5 :: x4 :: x3 :: x2 :: x1 :: S) os ce sl :=
  W.callSv (argsL := [x1, x2, x3, x4, x5, x6, x7]) (S := S) K pc' hd w1 w2 w3 w4 hsig hM k rfl hlen hsz hf hl hc hs hy hp
theorem W.callSn0 {idx mx : Nat} {z : MethodName} {bytes : ByteArray} {rt : Option FieldType} {rm : Room} {ps : List FieldType} {rr : Option FieldType} {q : OS → Prop} (K : Ctx X l Z R y code maxL ret) (pc' : Nat) (hd : decode code pc = .ok (.invokestatic idx, 3)) (w1 : (Jvm.Cond.methodLink y.cls idx z).before a0 Z = true) (w2 : (Jvm.Cond.static z).before a0 Z = true) (w3 : (Jvm.Cond.initialized z.cls).before a0 Z = true) (w4 : (Jvm.Cond.code z bytes mx rt).before a0 Z = true)
    (hsig : parseMethodDescriptor z.desc = some ⟨ps, rr⟩) (hM : OMeets l Z z bytes mx rt rm [] os (RetN q)) (k : ∀ os', q os' → WP X Z rc rs Q pc' L S os' (ce + rm.cells) (sl + rm.slots)) (hlen : ([] : List Value).length = ps.length := by rfl) (hsz : L.length = maxL := by rfl) (hf : rm.frames + 1 ≤ R.frames := by decide) (hl : (S.map fun v => v.category).sum + (mx + 11) + rm.locals ≤ R.locals := by exact Nat.le_of_ble_eq_true rfl)
    (hc : ce + rm.cells ≤ R.cells := by decide) (hs : sl + rm.slots ≤ R.slots := by decide) (hy : z.cls ≠ "java/lang/invoke/MethodHandle" ∧ z.cls ≠ "java/lang/invoke/VarHandle" := by decide) (hp : pc + 3 = pc' := by rfl) : WP X Z rc rs Q pc L (S) os ce sl :=
  W.callSn (argsL := []) (S := S) K pc' hd w1 w2 w3 w4 hsig hM k rfl hlen hsz hf hl hc hs hy hp
theorem W.callSn1 {idx mx : Nat} {z : MethodName} {bytes : ByteArray} {rt : Option FieldType} {rm : Room} {ps : List FieldType} {rr : Option FieldType} {x1 : Value} {q : OS → Prop} (K : Ctx X l Z R y code maxL ret) (pc' : Nat) (hd : decode code pc = .ok (.invokestatic idx, 3)) (w1 : (Jvm.Cond.methodLink y.cls idx z).before a0 Z = true) (w2 : (Jvm.Cond.static z).before a0 Z = true) (w3 : (Jvm.Cond.initialized z.cls).before a0 Z = true) (w4 : (Jvm.Cond.code z bytes mx rt).before a0 Z = true)
    (hsig : parseMethodDescriptor z.desc = some ⟨ps, rr⟩) (hM : OMeets l Z z bytes mx rt rm [x1] os (RetN q)) (k : ∀ os', q os' → WP X Z rc rs Q pc' L S os' (ce + rm.cells) (sl + rm.slots)) (hlen : ([x1] : List Value).length = ps.length := by rfl) (hsz : L.length = maxL := by rfl) (hf : rm.frames + 1 ≤ R.frames := by decide) (hl : (S.map fun v => v.category).sum + (mx + 11) + rm.locals ≤ R.locals := by exact Nat.le_of_ble_eq_true rfl)
    (hc : ce + rm.cells ≤ R.cells := by decide) (hs : sl + rm.slots ≤ R.slots := by decide) (hy : z.cls ≠ "java/lang/invoke/MethodHandle" ∧ z.cls ≠ "java/lang/invoke/VarHandle" := by decide) (hp : pc + 3 = pc' := by rfl) : WP X Z rc rs Q pc L (x1 :: S) os ce sl :=
  W.callSn (argsL := [x1]) (S := S) K pc' hd w1 w2 w3 w4 hsig hM k rfl hlen hsz hf hl hc hs hy hp
theorem W.callSn2 {idx mx : Nat} {z : MethodName} {bytes : ByteArray} {rt : Option FieldType} {rm : Room} {ps : List FieldType} {rr : Option FieldType} {x1 x2 : Value} {q : OS → Prop} (K : Ctx X l Z R y code maxL ret) (pc' : Nat) (hd : decode code pc = .ok (.invokestatic idx, 3)) (w1 : (Jvm.Cond.methodLink y.cls idx z).before a0 Z = true) (w2 : (Jvm.Cond.static z).before a0 Z = true) (w3 : (Jvm.Cond.initialized z.cls).before a0 Z = true) (w4 : (Jvm.Cond.code z bytes mx rt).before a0 Z = true)
    (hsig : parseMethodDescriptor z.desc = some ⟨ps, rr⟩) (hM : OMeets l Z z bytes mx rt rm [x1, x2] os (RetN q)) (k : ∀ os', q os' → WP X Z rc rs Q pc' L S os' (ce + rm.cells) (sl + rm.slots)) (hlen : ([x1, x2] : List Value).length = ps.length := by rfl) (hsz : L.length = maxL := by rfl) (hf : rm.frames + 1 ≤ R.frames := by decide) (hl : (S.map fun v => v.category).sum + (mx + 11) + rm.locals ≤ R.locals := by exact Nat.le_of_ble_eq_true rfl)
    (hc : ce + rm.cells ≤ R.cells := by decide) (hs : sl + rm.slots ≤ R.slots := by decide) (hy : z.cls ≠ "java/lang/invoke/MethodHandle" ∧ z.cls ≠ "java/lang/invoke/VarHandle" := by decide) (hp : pc + 3 = pc' := by rfl) : WP X Z rc rs Q pc L (x2 :: x1 :: S) os ce sl :=
  W.callSn (argsL := [x1, x2]) (S := S) K pc' hd w1 w2 w3 w4 hsig hM k rfl hlen hsz hf hl hc hs hy hp
theorem W.callSn3 {idx mx : Nat} {z : MethodName} {bytes : ByteArray} {rt : Option FieldType} {rm : Room} {ps : List FieldType} {rr : Option FieldType} {x1 x2 x3 : Value} {q : OS → Prop} (K : Ctx X l Z R y code maxL ret) (pc' : Nat) (hd : decode code pc = .ok (.invokestatic idx, 3)) (w1 : (Jvm.Cond.methodLink y.cls idx z).before a0 Z = true) (w2 : (Jvm.Cond.static z).before a0 Z = true) (w3 : (Jvm.Cond.initialized z.cls).before a0 Z = true) (w4 : (Jvm.Cond.code z bytes mx rt).before a0 Z = true)
    (hsig : parseMethodDescriptor z.desc = some ⟨ps, rr⟩) (hM : OMeets l Z z bytes mx rt rm [x1, x2, x3] os (RetN q)) (k : ∀ os', q os' → WP X Z rc rs Q pc' L S os' (ce + rm.cells) (sl + rm.slots)) (hlen : ([x1, x2, x3] : List Value).length = ps.length := by rfl) (hsz : L.length = maxL := by rfl) (hf : rm.frames + 1 ≤ R.frames := by decide) (hl : (S.map fun v => v.category).sum + (mx + 11) + rm.locals ≤ R.locals := by exact Nat.le_of_ble_eq_true rfl)
    (hc : ce + rm.cells ≤ R.cells := by decide) (hs : sl + rm.slots ≤ R.slots := by decide) (hy : z.cls ≠ "java/lang/invoke/MethodHandle" ∧ z.cls ≠ "java/lang/invoke/VarHandle" := by decide) (hp : pc + 3 = pc' := by rfl) : WP X Z rc rs Q pc L (x3 :: x2 :: x1 :: S) os ce sl :=
  W.callSn (argsL := [x1, x2, x3]) (S := S) K pc' hd w1 w2 w3 w4 hsig hM k rfl hlen hsz hf hl hc hs hy hp
theorem W.callSn4 {idx mx : Nat} {z : MethodName} {bytes : ByteArray} {rt : Option FieldType} {rm : Room} {ps : List FieldType} {rr : Option FieldType} {x1 x2 x3 x4 : Value} {q : OS → Prop} (K : Ctx X l Z R y code maxL ret) (pc' : Nat) (hd : decode code pc = .ok (.invokestatic idx, 3)) (w1 : (Jvm.Cond.methodLink y.cls idx z).before a0 Z = true) (w2 : (Jvm.Cond.static z).before a0 Z = true) (w3 : (Jvm.Cond.initialized z.cls).before a0 Z = true) (w4 : (Jvm.Cond.code z bytes mx rt).before a0 Z = true)
    (hsig : parseMethodDescriptor z.desc = some ⟨ps, rr⟩) (hM : OMeets l Z z bytes mx rt rm [x1, x2, x3, x4] os (RetN q)) (k : ∀ os', q os' → WP X Z rc rs Q pc' L S os' (ce + rm.cells) (sl + rm.slots)) (hlen : ([x1, x2, x3, x4] : List Value).length = ps.length := by rfl) (hsz : L.length = maxL := by rfl) (hf : rm.frames + 1 ≤ R.frames := by decide) (hl : (S.map fun v => v.category).sum + (mx + 11) + rm.locals ≤ R.locals := by exact Nat.le_of_ble_eq_true rfl)
    (hc : ce + rm.cells ≤ R.cells := by decide) (hs : sl + rm.slots ≤ R.slots := by decide) (hy : z.cls ≠ "java/lang/invoke/MethodHandle" ∧ z.cls ≠ "java/lang/invoke/VarHandle" := by decide) (hp : pc + 3 = pc' := by rfl) : WP X Z rc rs Q pc L (x4 :: x3 :: x2 :: x1 :: S) os ce sl :=
  W.callSn (argsL := [x1, x2, x3, x4]) (S := S) K pc' hd w1 w2 w3 w4 hsig hM k rfl hlen hsz hf hl hc hs hy hp
theorem W.callSn5 {idx mx : Nat} {z : MethodName} {bytes : ByteArray} {rt : Option FieldType} {rm : Room} {ps : List FieldType} {rr : Option FieldType} {x1 x2 x3 x4 x5 : Value} {q : OS → Prop} (K : Ctx X l Z R y code maxL ret) (pc' : Nat) (hd : decode code pc = .ok (.invokestatic idx, 3)) (w1 : (Jvm.Cond.methodLink y.cls idx z).before a0 Z = true) (w2 : (Jvm.Cond.static z).before a0 Z = true) (w3 : (Jvm.Cond.initialized z.cls).before a0 Z = true) (w4 : (Jvm.Cond.code z bytes mx rt).before a0 Z = true)
    (hsig : parseMethodDescriptor z.desc = some ⟨ps, rr⟩) (hM : OMeets l Z z bytes mx rt rm [x1, x2, x3, x4, x5] os (RetN q)) (k : ∀ os', q os' → WP X Z rc rs Q pc' L S os' (ce + rm.cells) (sl + rm.slots)) (hlen : ([x1, x2, x3, x4, x5] : List Value).length = ps.length := by rfl) (hsz : L.length = maxL := by rfl) (hf : rm.frames + 1 ≤ R.frames := by decide) (hl : (S.map fun v => v.category).sum + (mx + 11) + rm.locals ≤ R.locals := by exact Nat.le_of_ble_eq_true rfl)
    (hc : ce + rm.cells ≤ R.cells := by decide) (hs : sl + rm.slots ≤ R.slots := by decide) (hy : z.cls ≠ "java/lang/invoke/MethodHandle" ∧ z.cls ≠ "java/lang/invoke/VarHandle" := by decide) (hp : pc + 3 = pc' := by rfl) : WP X Z rc rs Q pc L (x5 :: x4 :: x3 :: x2 :: x1 :: S) os ce sl :=
  W.callSn (argsL := [x1, x2, x3, x4, x5]) (S := S) K pc' hd w1 w2 w3 w4 hsig hM k rfl hlen hsz hf hl hc hs hy hp
theorem W.callSn6 {idx mx : Nat} {z : MethodName} {bytes : ByteArray} {rt : Option FieldType} {rm : Room} {ps : List FieldType} {rr : Option FieldType} {x1 x2 x3 x4 x5 x6 : Value} {q : OS → Prop} (K : Ctx X l Z R y code maxL ret) (pc' : Nat) (hd : decode code pc = .ok (.invokestatic idx, 3)) (w1 : (Jvm.Cond.methodLink y.cls idx z).before a0 Z = true) (w2 : (Jvm.Cond.static z).before a0 Z = true) (w3 : (Jvm.Cond.initialized z.cls).before a0 Z = true) (w4 : (Jvm.Cond.code z bytes mx rt).before a0 Z = true)
    (hsig : parseMethodDescriptor z.desc = some ⟨ps, rr⟩) (hM : OMeets l Z z bytes mx rt rm [x1, x2, x3, x4, x5, x6] os (RetN q)) (k : ∀ os', q os' → WP X Z rc rs Q pc' L S os' (ce + rm.cells) (sl + rm.slots)) (hlen : ([x1, x2, x3, x4, x5, x6] : List Value).length = ps.length := by rfl) (hsz : L.length = maxL := by rfl) (hf : rm.frames + 1 ≤ R.frames := by decide) (hl : (S.map fun v => v.category).sum + (mx + 11) + rm.locals ≤ R.locals := by exact Nat.le_of_ble_eq_true rfl)
    (hc : ce + rm.cells ≤ R.cells := by decide) (hs : sl + rm.slots ≤ R.slots := by decide) (hy : z.cls ≠ "java/lang/invoke/MethodHandle" ∧ z.cls ≠ "java/lang/invoke/VarHandle" := by decide) (hp : pc + 3 = pc' := by rfl) : WP X Z rc rs Q pc L (x6 :: x5 :: x4 :: x3 :: x2 :: x1 :: S) os ce sl :=
  W.callSn (argsL := [x1, x2, x3, x4, x5, x6]) (S := S) K pc' hd w1 w2 w3 w4 hsig hM k rfl hlen hsz hf hl hc hs hy hp
theorem W.callSn7 {idx mx : Nat} {z : MethodName} {bytes : ByteArray} {rt : Option FieldType} {rm : Room} {ps : List FieldType} {rr : Option FieldType} {x1 x2 x3 x4 x5 x6 x7 : Value} {q : OS → Prop} (K : Ctx X l Z R y code maxL ret) (pc' : Nat) (hd : decode code pc = .ok (.invokestatic idx, 3)) (w1 : (Jvm.Cond.methodLink y.cls idx z).before a0 Z = true) (w2 : (Jvm.Cond.static z).before a0 Z = true) (w3 : (Jvm.Cond.initialized z.cls).before a0 Z = true) (w4 : (Jvm.Cond.code z bytes mx rt).before a0 Z = true)
    (hsig : parseMethodDescriptor z.desc = some ⟨ps, rr⟩) (hM : OMeets l Z z bytes mx rt rm [x1, x2, x3, x4, x5, x6, x7] os (RetN q)) (k : ∀ os', q os' → WP X Z rc rs Q pc' L S os' (ce + rm.cells) (sl + rm.slots)) (hlen : ([x1, x2, x3, x4, x5, x6, x7] : List Value).length = ps.length := by rfl) (hsz : L.length = maxL := by rfl) (hf : rm.frames + 1 ≤ R.frames := by decide) (hl : (S.map fun v => v.category).sum + (mx + 11) + rm.locals ≤ R.locals := by exact Nat.le_of_ble_eq_true rfl)
    (hc : ce + rm.cells ≤ R.cells := by decide) (hs : sl + rm.slots ≤ R.slots := by decide) (hy : z.cls ≠ "java/lang/invoke/MethodHandle" ∧ z.cls ≠ "java/lang/invoke/VarHandle" := by decide) (hp : pc + 3 = pc' := by rfl) : WP X Z rc rs Q pc L (x7 :: x6 :: x5 :: x4 :: x3 :: x2 :: x1 :: S) os ce sl :=
  W.callSn (argsL := [x1, x2, x3, x4, x5, x6, x7]) (S := S) K pc' hd w1 w2 w3 w4 hsig hM k rfl hlen hsz hf hl hc hs hy hp
theorem W.callIn0 {idx mx : Nat} {z : MethodName} {bytes : ByteArray} {rm : Room} {ps : List FieldType} {rr : Option FieldType} {b : Addr} {q : OS → Prop} (K : Ctx X l Z R y code maxL ret) (pc' : Nat) (hd : decode code pc = .ok (.invokespecial idx, 3)) (w1 : (Jvm.Cond.methodLink y.cls idx z).before a0 Z = true) (w2 : (Jvm.Cond.instanceMethod z).before a0 Z = true) (w3 : (Jvm.Cond.initialized z.cls).before a0 Z = true) (w4 : (Jvm.Cond.code z bytes mx none).before a0 Z = true)
    (hsig : parseMethodDescriptor z.desc = some ⟨ps, rr⟩) (hM : OMeets l Z z bytes mx none rm [.ref b] os (RetN q)) (k : ∀ os', q os' → WP X Z rc rs Q pc' L S os' (ce + rm.cells) (sl + rm.slots)) (hz1 : z.name = "<init>" := by rfl) (hlen : ([] : List Value).length = ps.length := by rfl) (hsz : L.length = maxL := by rfl) (hf : rm.frames + 1 ≤ R.frames := by decide) (hl : (S.map fun v => v.category).sum + (mx + 11) + rm.locals ≤ R.locals := by exact Nat.le_of_ble_eq_true rfl)
    (hc : ce + rm.cells ≤ R.cells := by decide) (hs : sl + rm.slots ≤ R.slots := by decide) (hy : z.cls ≠ "java/lang/invoke/MethodHandle" ∧ z.cls ≠ "java/lang/invoke/VarHandle" := by decide) (hp : pc + 3 = pc' := by rfl) : WP X Z rc rs Q pc L (.ref b :: S) os ce sl :=
  W.callIn (argsL := []) (S := S) K pc' hd w1 w2 w3 w4 hsig hM k hz1 rfl hlen hsz hf hl hc hs hy hp
theorem W.callIn1 {idx mx : Nat} {z : MethodName} {bytes : ByteArray} {rm : Room} {ps : List FieldType} {rr : Option FieldType} {b : Addr} {x1 : Value} {q : OS → Prop} (K : Ctx X l Z R y code maxL ret) (pc' : Nat) (hd : decode code pc = .ok (.invokespecial idx, 3)) (w1 : (Jvm.Cond.methodLink y.cls idx z).before a0 Z = true) (w2 : (Jvm.Cond.instanceMethod z).before a0 Z = true) (w3 : (Jvm.Cond.initialized z.cls).before a0 Z = true) (w4 : (Jvm.Cond.code z bytes mx none).before a0 Z = true)
    (hsig : parseMethodDescriptor z.desc = some ⟨ps, rr⟩) (hM : OMeets l Z z bytes mx none rm [.ref b, x1] os (RetN q)) (k : ∀ os', q os' → WP X Z rc rs Q pc' L S os' (ce + rm.cells) (sl + rm.slots)) (hz1 : z.name = "<init>" := by rfl) (hlen : ([x1] : List Value).length = ps.length := by rfl) (hsz : L.length = maxL := by rfl) (hf : rm.frames + 1 ≤ R.frames := by decide) (hl : (S.map fun v => v.category).sum + (mx + 11) + rm.locals ≤ R.locals := by exact Nat.le_of_ble_eq_true rfl)
    (hc : ce + rm.cells ≤ R.cells := by decide) (hs : sl + rm.slots ≤ R.slots := by decide) (hy : z.cls ≠ "java/lang/invoke/MethodHandle" ∧ z.cls ≠ "java/lang/invoke/VarHandle" := by decide) (hp : pc + 3 = pc' := by rfl) : WP X Z rc rs Q pc L (x1 :: .ref b :: S) os ce sl :=
  W.callIn (argsL := [x1]) (S := S) K pc' hd w1 w2 w3 w4 hsig hM k hz1 rfl hlen hsz hf hl hc hs hy hp
theorem W.callIn2 {idx mx : Nat} {z : MethodName} {bytes : ByteArray} {rm : Room} {ps : List FieldType} {rr : Option FieldType} {b : Addr} {x1 x2 : Value} {q : OS → Prop} (K : Ctx X l Z R y code maxL ret) (pc' : Nat) (hd : decode code pc = .ok (.invokespecial idx, 3)) (w1 : (Jvm.Cond.methodLink y.cls idx z).before a0 Z = true) (w2 : (Jvm.Cond.instanceMethod z).before a0 Z = true) (w3 : (Jvm.Cond.initialized z.cls).before a0 Z = true) (w4 : (Jvm.Cond.code z bytes mx none).before a0 Z = true)
    (hsig : parseMethodDescriptor z.desc = some ⟨ps, rr⟩) (hM : OMeets l Z z bytes mx none rm [.ref b, x1, x2] os (RetN q)) (k : ∀ os', q os' → WP X Z rc rs Q pc' L S os' (ce + rm.cells) (sl + rm.slots)) (hz1 : z.name = "<init>" := by rfl) (hlen : ([x1, x2] : List Value).length = ps.length := by rfl) (hsz : L.length = maxL := by rfl) (hf : rm.frames + 1 ≤ R.frames := by decide) (hl : (S.map fun v => v.category).sum + (mx + 11) + rm.locals ≤ R.locals := by exact Nat.le_of_ble_eq_true rfl)
    (hc : ce + rm.cells ≤ R.cells := by decide) (hs : sl + rm.slots ≤ R.slots := by decide) (hy : z.cls ≠ "java/lang/invoke/MethodHandle" ∧ z.cls ≠ "java/lang/invoke/VarHandle" := by decide) (hp : pc + 3 = pc' := by rfl) : WP X Z rc rs Q pc L (x2 :: x1 :: .ref b :: S) os ce sl :=
  W.callIn (argsL := [x1, x2]) (S := S) K pc' hd w1 w2 w3 w4 hsig hM k hz1 rfl hlen hsz hf hl hc hs hy hp
theorem W.callIn3 {idx mx : Nat} {z : MethodName} {bytes : ByteArray} {rm : Room} {ps : List FieldType} {rr : Option FieldType} {b : Addr} {x1 x2 x3 : Value} {q : OS → Prop} (K : Ctx X l Z R y code maxL ret) (pc' : Nat) (hd : decode code pc = .ok (.invokespecial idx, 3)) (w1 : (Jvm.Cond.methodLink y.cls idx z).before a0 Z = true) (w2 : (Jvm.Cond.instanceMethod z).before a0 Z = true) (w3 : (Jvm.Cond.initialized z.cls).before a0 Z = true) (w4 : (Jvm.Cond.code z bytes mx none).before a0 Z = true)
    (hsig : parseMethodDescriptor z.desc = some ⟨ps, rr⟩) (hM : OMeets l Z z bytes mx none rm [.ref b, x1, x2, x3] os (RetN q)) (k : ∀ os', q os' → WP X Z rc rs Q pc' L S os' (ce + rm.cells) (sl + rm.slots)) (hz1 : z.name = "<init>" := by rfl) (hlen : ([x1, x2, x3] : List Value).length = ps.length := by rfl) (hsz : L.length = maxL := by rfl) (hf : rm.frames + 1 ≤ R.frames := by decide) (hl : (S.map fun v => v.category).sum + (mx + 11) + rm.locals ≤ R.locals := by exact Nat.le_of_ble_eq_true rfl)
    (hc : ce + rm.cells ≤ R.cells := by decide) (hs : sl + rm.slots ≤ R.slots := by decide) (hy : z.cls ≠ "java/lang/invoke/MethodHandle" ∧ z.cls ≠ "java/lang/invoke/VarHandle" := by decide) (hp : pc + 3 = pc' := by rfl) : WP X Z rc rs Q pc L (x3 :: x2 :: x1 :: .ref b :: S) os ce sl :=
  W.callIn (argsL := [x1, x2, x3]) (S := S) K pc' hd w1 w2 w3 w4 hsig hM k hz1 rfl hlen hsz hf hl hc hs hy hp
theorem W.callIn4 {idx mx : Nat} {z : MethodName} {bytes : ByteArray} {rm : Room} {ps : List FieldType} {rr : Option FieldType} {b : Addr} {x1 x2 x3 x4 : Value} {q : OS → Prop} (K : Ctx X l Z R y code maxL ret) (pc' : Nat) (hd : decode code pc = .ok (.invokespecial idx, 3)) (w1 : (Jvm.Cond.methodLink y.cls idx z).before a0 Z = true) (w2 : (Jvm.Cond.instanceMethod z).before a0 Z = true) (w3 : (Jvm.Cond.initialized z.cls).before a0 Z = true) (w4 : (Jvm.Cond.code z bytes mx none).before a0 Z = true)
    (hsig : parseMethodDescriptor z.desc = some ⟨ps, rr⟩) (hM : OMeets l Z z bytes mx none rm [.ref b, x1, x2, x3, x4] os (RetN q)) (k : ∀ os', q os' → WP X Z rc rs Q pc' L S os' (ce + rm.cells) (sl + rm.slots)) (hz1 : z.name = "<init>" := by rfl) (hlen : ([x1, x2, x3, x4] : List Value).length = ps.length := by rfl) (hsz : L.length = maxL := by rfl) (hf : rm.frames + 1 ≤ R.frames := by decide) (hl : (S.map fun v => v.category).sum + (mx + 11) + rm.locals ≤ R.locals := by exact Nat.le_of_ble_eq_true rfl)
    (hc : ce + rm.cells ≤ R.cells := by decide) (hs : sl + rm.slots ≤ R.slots := by decide) (hy : z.cls ≠ "java/lang/invoke/MethodHandle" ∧ z.cls ≠ "java/lang/invoke/VarHandle" := by decide) (hp : pc + 3 = pc' := by rfl) : WP X Z rc rs Q pc L (x4 :: x3 :: x2 :: x1 :: .ref b :: S) os ce sl :=
  W.callIn (argsL := [x1, x2, x3, x4]) (S := S) K pc' hd w1 w2 w3 w4 hsig hM k hz1 rfl hlen hsz hf hl hc hs hy hp
theorem W.callIn5 {idx mx : Nat} {z : MethodName} {bytes : ByteArray} {rm : Room} {ps : List FieldType} {rr : Option FieldType} {b : Addr} {x1 x2 x3 x4 x5 : Value} {q : OS → Prop} (K : Ctx X l Z R y code maxL ret) (pc' : Nat) (hd : decode code pc = .ok (.invokespecial idx, 3)) (w1 : (Jvm.Cond.methodLink y.cls idx z).before a0 Z = true) (w2 : (Jvm.Cond.instanceMethod z).before a0 Z = true) (w3 : (Jvm.Cond.initialized z.cls).before a0 Z = true) (w4 : (Jvm.Cond.code z bytes mx none).before a0 Z = true)
    (hsig : parseMethodDescriptor z.desc = some ⟨ps, rr⟩) (hM : OMeets l Z z bytes mx none rm [.ref b, x1, x2, x3, x4, x5] os (RetN q)) (k : ∀ os', q os' → WP X Z rc rs Q pc' L S os' (ce + rm.cells) (sl + rm.slots)) (hz1 : z.name = "<init>" := by rfl) (hlen : ([x1, x2, x3, x4, x5] : List Value).length = ps.length := by rfl) (hsz : L.length = maxL := by rfl) (hf : rm.frames + 1 ≤ R.frames := by decide) (hl : (S.map fun v => v.category).sum + (mx + 11) + rm.locals ≤ R.locals := by exact Nat.le_of_ble_eq_true rfl)
    (hc : ce + rm.cells ≤ R.cells := by decide) (hs : sl + rm.slots ≤ R.slots := by decide) (hy : z.cls ≠ "java/lang/invoke/MethodHandle" ∧ z.cls ≠ "java/lang/invoke/VarHandle" := by decide) (hp : pc + 3 = pc' := by rfl) : WP X Z rc rs Q pc L (x5 :: x4 :: x3 :: x2 :: x1 :: .ref b :: S) os ce sl :=
  W.callIn (argsL := [x1, x2, x3, x4, x5]) (S := S) K pc' hd w1 w2 w3 w4 hsig hM k hz1 rfl hlen hsz hf hl hc hs hy hp
theorem W.callIn6 {idx mx : Nat} {z : MethodName} {bytes : ByteArray} {rm : Room} {ps : List FieldType} {rr : Option FieldType} {b : Addr} {x1 x2 x3 x4 x5 x6 : Value} {q : OS → Prop} (K : Ctx X l Z R y code maxL ret) (pc' : Nat) (hd : decode code pc = .ok (.invokespecial idx, 3)) (w1 : (Jvm.Cond.methodLink y.cls idx z).before a0 Z = true) (w2 : (Jvm.Cond.instanceMethod z).before a0 Z = true) (w3 : (Jvm.Cond.initialized z.cls).before a0 Z = true) (w4 : (Jvm.Cond.code z bytes mx none).before a0 Z = true)
    (hsig : parseMethodDescriptor z.desc = some ⟨ps, rr⟩) (hM : OMeets l Z z bytes mx none rm [.ref b, x1, x2, x3, x4, x5, x6] os (RetN q)) (k : ∀ os', q os' → WP X Z rc rs Q pc' L S os' (ce + rm.cells) (sl + rm.slots)) (hz1 : z.name = "<init>" := by rfl) (hlen : ([x1, x2, x3, x4, x5, x6] : List Value).length = ps.length := by rfl) (hsz : L.length = maxL := by rfl) (hf : rm.frames + 1 ≤ R.frames := by decide) (hl : (S.map fun v => v.category).sum + (mx + 11) + rm.locals ≤ R.locals := by exact Nat.le_of_ble_eq_true rfl)
    (hc : ce + rm.cells ≤ R.cells := by decide) (hs : sl + rm.slots ≤ R.slots := by decide) (hy : z.cls ≠ "java/lang/invoke/MethodHandle" ∧ z.cls ≠ "java/lang/invoke/VarHandle" := by decide) (hp : pc + 3 = pc' := by rfl) : WP X Z rc rs Q pc L (x6 :: x5 :: x4 :: x3 :: x2 :: x1 :: .ref b :: S) os ce sl :=
  W.callIn (argsL := [x1, x2, x3, x4, x5, x6]) (S := S) K pc' hd w1 w2 w3 w4 hsig hM k hz1 rfl hlen hsz hf hl hc hs hy hp
theorem W.callIn7 {idx mx : Nat} {z : MethodName} {bytes : ByteArray} {rm : Room} {ps : List FieldType} {rr : Option FieldType} {b : Addr} {x1 x2 x3 x4 x5 x6 x7 : Value} {q : OS → Prop} (K : Ctx X l Z R y code maxL ret) (pc' : Nat) (hd : decode code pc = .ok (.invokespecial idx, 3)) (w1 : (Jvm.Cond.methodLink y.cls idx z).before a0 Z = true) (w2 : (Jvm.Cond.instanceMethod z).before a0 Z = true) (w3 : (Jvm.Cond.initialized z.cls).before a0 Z = true) (w4 : (Jvm.Cond.code z bytes mx none).before a0 Z = true)
    (hsig : parseMethodDescriptor z.desc = some ⟨ps, rr⟩) (hM : OMeets l Z z bytes mx none rm [.ref b, x1, x2, x3, x4, x5, x6, x7] os (RetN q)) (k : ∀ os', q os' → WP X Z rc rs Q pc' L S os' (ce + rm.cells) (sl + rm.slots)) (hz1 : z.name = "<init>" := by rfl) (hlen : ([x1, x2, x3, x4, x5, x6, x7] : List Value).length = ps.length := by rfl) (hsz : L.length = maxL := by rfl) (hf : rm.frames + 1 ≤ R.frames := by decide) (hl : (S.map fun v => v.category).sum + (mx + 11) + rm.locals ≤ R.locals := by exact Nat.le_of_ble_eq_true rfl)
    (hc : ce + rm.cells ≤ R.cells := by decide) (hs : sl + rm.slots ≤ R.slots := by decide) (hy : z.cls ≠ "java/lang/invoke/MethodHandle" ∧ z.cls ≠ "java/lang/invoke/VarHandle" := by decide) (hp : pc + 3 = pc' := by rfl) : WP X Z rc rs Q pc L (x7 :: x6 :: x5 :: x4 :: x3 :: x2 :: x1 :: .ref b :: S) os ce sl :=
  W.callIn (argsL := [x1, x2, x3, x4, x5, x6, x7]) (S := S) K pc' hd w1 w2 w3 w4 hsig hM k hz1 rfl hlen hsz hf hl hc hs hy hp
theorem W.callVv0 {idx mx : Nat} {z : MethodName} {bytes : ByteArray} {rt : Option FieldType} {C : String} {rm : Room} {ps : List FieldType} {rr : Option FieldType} {b : Addr} {q : Value → OS → Prop} (K : Ctx X l Z R y code maxL ret) (pc' : Nat) (hd : decode code pc = .ok (.invokevirtual idx, 3)) (w1 : (Jvm.Cond.methodLink y.cls idx z).before a0 Z = true) (w2 : (Jvm.Cond.declares z).before a0 Z = true) (w5 : (Jvm.Cond.selects C z z).before a0 Z = true) (w6 : (Jvm.Cond.instanceMethod z).before a0 Z = true) (w3 : (Jvm.Cond.initialized z.cls).before a0 Z = true) (w4 : (Jvm.Cond.code z bytes mx rt).before a0 Z = true)
    (hsig : parseMethodDescriptor z.desc = some ⟨ps, rr⟩) (hrc : ∀ h, Hp Z h os → Exa Z h b C) (hM : OMeets l Z z bytes mx rt rm [.ref b] os (RetV q)) (k : ∀ v os', q v os' → WP X Z rc rs Q pc' L (v :: S) os' (ce + rm.cells) (sl + rm.slots)) (hlen : ([] : List Value).length = ps.length := by rfl) (hsz : L.length = maxL := by rfl) (hf : rm.frames + 1 ≤ R.frames := by decide) (hl : (S.map fun v => v.category).sum + (mx + 11) + rm.locals ≤ R.locals := by exact Nat.le_of_ble_eq_true rfl)
    (hc : ce + rm.cells ≤ R.cells := by decide) (hs : sl + rm.slots ≤ R.slots := by decide) (hy : z.cls ≠ "java/lang/invoke/MethodHandle" ∧ z.cls ≠ "java/lang/invoke/VarHandle" := by decide) (hp : pc + 3 = pc' := by rfl) : WP X Z rc rs Q pc L (.ref b :: S) os ce sl :=
  W.callVv (argsL := []) (S := S) K pc' hd w1 w2 w5 w6 w3 w4 hsig hrc hM k rfl hlen hsz hf hl hc hs hy hp
theorem W.callVv1 {idx mx : Nat} {z : MethodName} {bytes : ByteArray} {rt : Option FieldType} {C : String} {rm : Room} {ps : List FieldType} {rr : Option FieldType} {b : Addr} {x1 : Value} {q : Value → OS → Prop} (K : Ctx X l Z R y code maxL ret) (pc' : Nat) (hd : decode code pc = .ok (.invokevirtual idx, 3)) (w1 : (Jvm.Cond.methodLink y.cls idx z).before a0 Z = true) (w2 : (Jvm.Cond.declares z).before a0 Z = true) (w5 : (Jvm.Cond.selects C z z).before a0 Z = true) (w6 : (Jvm.Cond.instanceMethod z).before a0 Z = true) (w3 : (Jvm.Cond.initialized z.cls).before a0 Z = true) (w4 : (Jvm.Cond.code z bytes mx rt).before a0 Z = true)
    (hsig : parseMethodDescriptor z.desc = some ⟨ps, rr⟩) (hrc : ∀ h, Hp Z h os → Exa Z h b C) (hM : OMeets l Z z bytes mx rt rm [.ref b, x1] os (RetV q)) (k : ∀ v os', q v os' → WP X Z rc rs Q pc' L (v :: S) os' (ce + rm.cells) (sl + rm.slots)) (hlen : ([x1] : List Value).length = ps.length := by rfl) (hsz : L.length = maxL := by rfl) (hf : rm.frames + 1 ≤ R.frames := by decide) (hl : (S.map fun v => v.category).sum + (mx + 11) + rm.locals ≤ R.locals := by exact Nat.le_of_ble_eq_true rfl)
    (hc : ce + rm.cells ≤ R.cells := by decide) (hs : sl + rm.slots ≤ R.slots := by decide) (hy : z.cls ≠ "java/lang/invoke/MethodHandle" ∧ z.cls ≠ "java/lang/invoke/VarHandle" := by decide) (hp : pc + 3 = pc' := by rfl) : WP X Z rc rs Q pc L (x1 :: .ref b :: S) os ce sl :=
  W.callVv (argsL := [x1]) (S := S) K pc' hd w1 w2 w5 w6 w3 w4 hsig hrc hM k rfl hlen hsz hf hl hc hs hy hp
theorem W.callVv2 {idx mx : Nat} {z : MethodName} {bytes : ByteArray} {rt : Option FieldType} {C : String} {rm : Room} {ps : List FieldType} {rr : Option FieldType} {b : Addr} {x1 x2 : Value} {q : Value → OS → Prop} (K : Ctx X l Z R y code maxL ret) (pc' : Nat) (hd : decode code pc = .ok (.invokevirtual idx, 3)) (w1 : (Jvm.Cond.methodLink y.cls idx z).before a0 Z = true) (w2 : (Jvm.Cond.declares z).before a0 Z = true) (w5 : (Jvm.Cond.selects C z z).before a0 Z = true) (w6 : (Jvm.Cond.instanceMethod z).before a0 Z = true) (w3 : (Jvm.Cond.initialized z.cls).before a0 Z = true) (w4 : (Jvm.Cond.code z bytes mx rt).before a0 Z = true)
    (hsig : parseMethodDescriptor z.desc = some ⟨ps, rr⟩) (hrc : ∀ h, Hp Z h os → Exa Z h b C) (hM : OMeets l Z z bytes mx rt rm [.ref b, x1, x2] os (RetV q)) (k : ∀ v os', q v os' → WP X Z rc rs Q pc' L (v :: S) os' (ce + rm.cells) (sl + rm.slots)) (hlen : ([x1, x2] : List Value).length = ps.length := by rfl) (hsz : L.length = maxL := by rfl) (hf : rm.frames + 1 ≤ R.frames := by decide) (hl : (S.map fun v => v.category).sum + (mx + 11) + rm.locals ≤ R.locals := by exact Nat.le_of_ble_eq_true rfl)
    (hc : ce + rm.cells ≤ R.cells := by decide) (hs : sl + rm.slots ≤ R.slots := by decide) (hy : z.cls ≠ "java/lang/invoke/MethodHandle" ∧ z.cls ≠ "java/lang/invoke/VarHandle" := by decide) (hp : pc + 3 = pc' := by rfl) : WP X Z rc rs Q pc L (x2 :: x1 :: .ref b :: S) os ce sl :=
  W.callVv (argsL := [x1, x2]) (S := S) K pc' hd w1 w2 w5 w6 w3 w4 hsig hrc hM k rfl hlen hsz hf hl hc hs hy hp
theorem W.callVv3 {idx mx : Nat} {z : MethodName} {bytes : ByteArray} {rt : Option FieldType} {C : String} {rm : Room} {ps : List FieldType} {rr : Option FieldType} {b : Addr} {x1 x2 x3 : Value} {q : Value → OS → Prop} (K : Ctx X l Z R y code maxL ret) (pc' : Nat) (hd : decode code pc = .ok (.invokevirtual idx, 3)) (w1 : (Jvm.Cond.methodLink y.cls idx z).before a0 Z = true) (w2 : (Jvm.Cond.declares z).before a0 Z = true) (w5 : (Jvm.Cond.selects C z z).before a0 Z = true) (w6 : (Jvm.Cond.instanceMethod z).before a0 Z = true) (w3 : (Jvm.Cond.initialized z.cls).before a0 Z = true) (w4 : (Jvm.Cond.code z bytes mx rt).before a0 Z = true)
    (hsig : parseMethodDescriptor z.desc = some ⟨ps, rr⟩) (hrc : ∀ h, Hp Z h os → Exa Z h b C) (hM : OMeets l Z z bytes mx rt rm [.ref b, x1, x2, x3] os (RetV q)) (k : ∀ v os', q v os' → WP X Z rc rs Q pc' L (v :: S) os' (ce + rm.cells) (sl + rm.slots)) (hlen : ([x1, x2, x3] : List Value).length = ps.length := by rfl) (hsz : L.length = maxL := by rfl) (hf : rm.frames + 1 ≤ R.frames := by decide) (hl : (S.map fun v => v.category).sum + (mx + 11) + rm.locals ≤ R.locals := by exact Nat.le_of_ble_eq_true rfl)
    (hc : ce + rm.cells ≤ R.cells := by decide) (hs : sl + rm.slots ≤ R.slots := by decide) (hy : z.cls ≠ "java/lang/invoke/MethodHandle" ∧ z.cls ≠ "java/lang/invoke/VarHandle" := by decide) (hp : pc + 3 = pc' := by rfl) : WP X Z rc rs Q pc L (x3 :: x2 :: x1 :: .ref b :: S) os ce sl :=
  W.callVv (argsL := [x1, x2, x3]) (S := S) K pc' hd w1 w2 w5 w6 w3 w4 hsig hrc hM k rfl hlen hsz hf hl hc hs hy hp
theorem W.callVv4 {idx mx : Nat} {z : MethodName} {bytes : ByteArray} {rt : Option FieldType} {C : String} {rm : Room} {ps : List FieldType} {rr : Option FieldType} {b : Addr} {x1 x2 x3 x4 : Value} {q : Value → OS → Prop} (K : Ctx X l Z R y code maxL ret) (pc' : Nat) (hd : decode code pc = .ok (.invokevirtual idx, 3)) (w1 : (Jvm.Cond.methodLink y.cls idx z).before a0 Z = true) (w2 : (Jvm.Cond.declares z).before a0 Z = true) (w5 : (Jvm.Cond.selects C z z).before a0 Z = true) (w6 : (Jvm.Cond.instanceMethod z).before a0 Z = true) (w3 : (Jvm.Cond.initialized z.cls).before a0 Z = true) (w4 : (Jvm.Cond.code z bytes mx rt).before a0 Z = true)
    (hsig : parseMethodDescriptor z.desc = some ⟨ps, rr⟩) (hrc : ∀ h, Hp Z h os → Exa Z h b C) (hM : OMeets l Z z bytes mx rt rm [.ref b, x1, x2, x3, x4] os (RetV q)) (k : ∀ v os', q v os' → WP X Z rc rs Q pc' L (v :: S) os' (ce + rm.cells) (sl + rm.slots)) (hlen : ([x1, x2, x3, x4] : List Value).length = ps.length := by rfl) (hsz : L.length = maxL := by rfl) (hf : rm.frames + 1 ≤ R.frames := by decide) (hl : (S.map fun v => v.category).sum + (mx + 11) + rm.locals ≤ R.locals := by exact Nat.le_of_ble_eq_true rfl)
    (hc : ce + rm.cells ≤ R.cells := by decide) (hs : sl + rm.slots ≤ R.slots := by decide) (hy : z.cls ≠ "java/lang/invoke/MethodHandle" ∧ z.cls ≠ "java/lang/invoke/VarHandle" := by decide) (hp : pc + 3 = pc' := by rfl) : WP X Z rc rs Q pc L (x4 :: x3 :: x2 :: x1 :: .ref b :: S) os ce sl :=
  W.callVv (argsL := [x1, x2, x3, x4]) (S := S) K pc' hd w1 w2 w5 w6 w3 w4 hsig hrc hM k rfl hlen hsz hf hl hc hs hy hp
theorem W.callVv5 {idx mx : Nat} {z : MethodName} {bytes : ByteArray} {rt : Option FieldType} {C : String} {rm : Room} {ps : List FieldType} {rr : Option FieldType} {b : Addr} {x1 x2 x3 x4 x5 : Value} {q : Value → OS → Prop} (K : Ctx X l Z R y code maxL ret) (pc' : Nat) (hd : decode code pc = .ok (.invokevirtual idx, 3)) (w1 : (Jvm.Cond.methodLink y.cls idx z).before a0 Z = true) (w2 : (Jvm.Cond.declares z).before a0 Z = true) (w5 : (Jvm.Cond.selects C z z).before a0 Z = true) (w6 : (Jvm.Cond.instanceMethod z).before a0 Z = true) (w3 : (Jvm.Cond.initialized z.cls).before a0 Z = true) (w4 : (Jvm.Cond.code z bytes mx rt).before a0 Z = true)
    (hsig : parseMethodDescriptor z.desc = some ⟨ps, rr⟩) (hrc : ∀ h, Hp Z h os → Exa Z h b C) (hM : OMeets l Z z bytes mx rt rm [.ref b, x1, x2, x3, x4, x5] os (RetV q)) (k : ∀ v os', q v os' → WP X Z rc rs Q pc' L (v :: S) os' (ce + rm.cells) (sl + rm.slots)) (hlen : ([x1, x2, x3, x4, x5] : List Value).length = ps.length := by rfl) (hsz : L.length = maxL := by rfl) (hf : rm.frames + 1 ≤ R.frames := by decide) (hl : (S.map fun v => v.category).sum + (mx + 11) + rm.locals ≤ R.locals := by exact Nat.le_of_ble_eq_true rfl)
    (hc : ce + rm.cells ≤ R.cells := by decide) (hs : sl + rm.slots ≤ R.slots := by decide) (hy : z.cls ≠ "java/lang/invoke/MethodHandle" ∧ z.cls ≠ "java/lang/invoke/VarHandle" := by decide) (hp : pc + 3 = pc' := by rfl) : WP X Z rc rs Q pc L (x5 :: x4 :: x3 :: x2 :: x1 :: .ref b :: S) os ce sl :=
  W.callVv (argsL := [x1, x2, x3, x4, x5]) (S := S) K pc' hd w1 w2 w5 w6 w3 w4 hsig hrc hM k rfl hlen hsz hf hl hc hs hy hp
theorem W.callVv6 {idx mx : Nat} {z : MethodName} {bytes : ByteArray} {rt : Option FieldType} {C : String} {rm : Room} {ps : List FieldType} {rr : Option FieldType} {b : Addr} {x1 x2 x3 x4 x5 x6 : Value} {q : Value → OS → Prop} (K : Ctx X l Z R y code maxL ret) (pc' : Nat) (hd : decode code pc = .ok (.invokevirtual idx, 3)) (w1 : (Jvm.Cond.methodLink y.cls idx z).before a0 Z = true) (w2 : (Jvm.Cond.declares z).before a0 Z = true) (w5 : (Jvm.Cond.selects C z z).before a0 Z = true) (w6 : (Jvm.Cond.instanceMethod z).before a0 Z = true) (w3 : (Jvm.Cond.initialized z.cls).before a0 Z = true) (w4 : (Jvm.Cond.code z bytes mx rt).before a0 Z = true)
    (hsig : parseMethodDescriptor z.desc = some ⟨ps, rr⟩) (hrc : ∀ h, Hp Z h os → Exa Z h b C) (hM : OMeets l Z z bytes mx rt rm [.ref b, x1, x2, x3, x4, x5, x6] os (RetV q)) (k : ∀ v os', q v os' → WP X Z rc rs Q pc' L (v :: S) os' (ce + rm.cells) (sl + rm.slots)) (hlen : ([x1, x2, x3, x4, x5, x6] : List Value).length = ps.length := by rfl) (hsz : L.length = maxL := by rfl) (hf : rm.frames + 1 ≤ R.frames := by decide) (hl : (S.map fun v => v.category).sum + (mx + 11) + rm.locals ≤ R.locals := by exact Nat.le_of_ble_eq_true rfl)
    (hc : ce + rm.cells ≤ R.cells := by decide) (hs : sl + rm.slots ≤ R.slots := by decide) (hy : z.cls ≠ "java/lang/invoke/MethodHandle" ∧ z.cls ≠ "java/lang/invoke/VarHandle" := by decide) (hp : pc + 3 = pc' := by rfl) : WP X Z rc rs Q pc L (x6 :: x5 :: x4 :: x3 :: x2 :: x1 :: .ref b :: S) os ce sl :=
  W.callVv (argsL := [x1, x2, x3, x4, x5, x6]) (S := S) K pc' hd w1 w2 w5 w6 w3 w4 hsig hrc hM k rfl hlen hsz hf hl hc hs hy hp
theorem W.callVv7 {idx mx : Nat} {z : MethodName} {bytes : ByteArray} {rt : Option FieldType} {C : String} {rm : Room} {ps : List FieldType} {rr : Option FieldType} {b : Addr} {x1 x2 x3 x4 x5 x6 x7 : Value} {q : Value → OS → Prop} (K : Ctx X l Z R y code maxL ret) (pc' : Nat) (hd : decode code pc = .ok (.invokevirtual idx, 3)) (w1 : (Jvm.Cond.methodLink y.cls idx z).before a0 Z = true) (w2 : (Jvm.Cond.declares z).before a0 Z = true) (w5 : (Jvm.Cond.selects C z z).before a0 Z = true) (w6 : (Jvm.Cond.instanceMethod z).before a0 Z = true) (w3 : (Jvm.Cond.initialized z.cls).before a0 Z = true) (w4 : (Jvm.Cond.code z bytes mx rt).before a0 Z = true)
    (hsig : parseMethodDescriptor z.desc = some ⟨ps, rr⟩) (hrc : ∀ h, Hp Z h os → Exa Z h b C) (hM : OMeets l Z z bytes mx rt rm [.ref b, x1, x2, x3, x4, x5, x6, x7] os (RetV q)) (k : ∀ v os', q v os' → WP X Z rc rs Q pc' L (v :: S) os' (ce + rm.cells) (sl + rm.slots)) (hlen : ([x1, x2, x3, x4, x5, x6, x7] : List Value).length = ps.length := by rfl) (hsz : L.length = maxL := by rfl) (hf : rm.frames + 1 ≤ R.frames := by decide) (hl : (S.map fun v => v.category).sum + (mx + 11) + rm.locals ≤ R.locals := by exact Nat.le_of_ble_eq_true rfl)
    (hc : ce + rm.cells ≤ R.cells := by decide) (hs : sl + rm.slots ≤ R.slots := by decide) (hy : z.cls ≠ "java/lang/invoke/MethodHandle" ∧ z.cls ≠ "java/lang/invoke/VarHandle" := by decide) (hp : pc + 3 = pc' := by rfl) : WP X Z rc rs Q pc L (x7 :: x6 :: x5 :: x4 :: x3 :: x2 :: x1 :: .ref b :: S) os ce sl :=
  W.callVv (argsL := [x1, x2, x3, x4, x5, x6, x7]) (S := S) K pc' hd w1 w2 w5 w6 w3 w4 hsig hrc hM k rfl hlen hsz hf hl hc hs hy hp
theorem W.callVn0 {idx mx : Nat} {z : MethodName} {bytes : ByteArray} {rt : Option FieldType} {C : String} {rm : Room} {ps : List FieldType} {rr : Option FieldType} {b : Addr} {q : OS → Prop} (K : Ctx X l Z R y code maxL ret) (pc' : Nat) (hd : decode code pc = .ok (.invokevirtual idx, 3)) (w1 : (Jvm.Cond.methodLink y.cls idx z).before a0 Z = true) (w2 : (Jvm.Cond.declares z).before a0 Z = true) (w5 : (Jvm.Cond.selects C z z).before a0 Z = true) (w6 : (Jvm.Cond.instanceMethod z).before a0 Z = true) (w3 : (Jvm.Cond.initialized z.cls).before a0 Z = true) (w4 : (Jvm.Cond.code z bytes mx rt).before a0 Z = true)
    (hsig : parseMethodDescriptor z.desc = some ⟨ps, rr⟩) (hrc : ∀ h, Hp Z h os → Exa Z h b C) (hM : OMeets l Z z bytes mx rt rm [.ref b] os (RetN q)) (k : ∀ os', q os' → WP X Z rc rs Q pc' L S os' (ce + rm.cells) (sl + rm.slots)) (hlen : ([] : List Value).length = ps.length := by rfl) (hsz : L.length = maxL := by rfl) (hf : rm.frames + 1 ≤ R.frames := by decide) (hl : (S.map fun v => v.category).sum + (mx + 11) + rm.locals ≤ R.locals := by exact Nat.le_of_ble_eq_true rfl)
    (hc : ce + rm.cells ≤ R.cells := by decide) (hs : sl + rm.slots ≤ R.slots := by decide) (hy : z.cls ≠ "java/lang/invoke/MethodHandle" ∧ z.cls ≠ "java/lang/invoke/VarHandle" := by decide) (hp : pc + 3 = pc' := by rfl) : WP X Z rc rs Q pc L (.ref b :: S) os ce sl :=
  W.callVn (argsL := []) (S := S) K pc' hd w1 w2 w5 w6 w3 w4 hsig hrc hM k rfl hlen hsz hf hl hc hs hy hp
theorem W.callVn1 {idx mx : Nat} {z : MethodName} {bytes : ByteArray} {rt : Option FieldType} {C : String} {rm : Room} {ps : List FieldType} {rr : Option FieldType} {b : Addr} {x1 : Value} {q : OS → Prop} (K : Ctx X l Z R y code maxL ret) (pc' : Nat) (hd : decode code pc = .ok (.invokevirtual idx, 3)) (w1 : (Jvm.Cond.methodLink y.cls idx z).before a0 Z = true) (w2 : (Jvm.Cond.declares z).before a0 Z = true) (w5 : (Jvm.Cond.selects C z z).before a0 Z = true) (w6 : (Jvm.Cond.instanceMethod z).before a0 Z = true) (w3 : (Jvm.Cond.initialized z.cls).before a0 Z = true) (w4 : (Jvm.Cond.code z bytes mx rt).before a0 Z = true)
    (hsig : parseMethodDescriptor z.desc = some ⟨ps, rr⟩) (hrc : ∀ h, Hp Z h os → Exa Z h b C) (hM : OMeets l Z z bytes mx rt rm [.ref b, x1] os (RetN q)) (k : ∀ os', q os' → WP X Z rc rs Q pc' L S os' (ce + rm.cells) (sl + rm.slots)) (hlen : ([x1] : List Value).length = ps.length := by rfl) (hsz : L.length = maxL := by rfl) (hf : rm.frames + 1 ≤ R.frames := by decide) (hl : (S.map fun v => v.category).sum + (mx + 11) + rm.locals ≤ R.locals := by exact Nat.le_of_ble_eq_true rfl)
    (hc : ce + rm.cells ≤ R.cells := by decide) (hs : sl + rm.slots ≤ R.slots := by decide) (hy : z.cls ≠ "java/lang/invoke/MethodHandle" ∧ z.cls ≠ "java/lang/invoke/VarHandle" := by decide) (hp : pc + 3 = pc' := by rfl) : WP X Z rc rs Q pc L (x1 :: .ref b :: S) os ce sl :=
  W.callVn (argsL := [x1]) (S := S) K pc' hd w1 w2 w5 w6 w3 w4 hsig hrc hM k rfl hlen hsz hf hl hc hs hy hp
theorem W.callVn2 {idx mx : Nat} {z : MethodName} {bytes : ByteArray} {rt : Option FieldType} {C : String} {rm : Room} {ps : List FieldType} {rr : Option FieldType} {b : Addr} {x1 x2 : Value} {q : OS → Prop} (K : Ctx X l Z R y code maxL ret) (pc' : Nat) (hd : decode code pc = .ok (.invokevirtual idx, 3)) (w1 : (Jvm.Cond.methodLink y.cls idx z).before a0 Z = true) (w2 : (Jvm.Cond.declares z).before a0 Z = true) (w5 : (Jvm.Cond.selects C z z).before a0 Z = true) (w6 : (Jvm.Cond.instanceMethod z).before a0 Z = true) (w3 : (Jvm.Cond.initialized z.cls).before a0 Z = true) (w4 : (Jvm.Cond.code z bytes mx rt).before a0 Z = true)
    (hsig : parseMethodDescriptor z.desc = some ⟨ps, rr⟩) (hrc : ∀ h, Hp Z h os → Exa Z h b C) (hM : OMeets l Z z bytes mx rt rm [.ref b, x1, x2] os (RetN q)) (k : ∀ os', q os' → WP X Z rc rs Q pc' L S os' (ce + rm.cells) (sl + rm.slots)) (hlen : ([x1, x2] : List Value).length = ps.length := by rfl) (hsz : L.length = maxL := by rfl) (hf : rm.frames + 1 ≤ R.frames := by decide) (hl : (S.map fun v => v.category).sum + (mx + 11) + rm.locals ≤ R.locals := by exact Nat.le_of_ble_eq_true rfl)
    (hc : ce + rm.cells ≤ R.cells := by decide) (hs : sl + rm.slots ≤ R.slots := by decide) (hy : z.cls ≠ "java/lang/invoke/MethodHandle" ∧ z.cls ≠ "java/lang/invoke/VarHandle" := by decide) (hp : pc + 3 = pc' := by rfl) : WP X Z rc rs Q pc L (x2 :: x1 :: .ref b :: S) os ce sl :=
  W.callVn (argsL := [x1, x2]) (S := S) K pc' hd w1 w2 w5 w6 w3 w4 hsig hrc hM k rfl hlen hsz hf hl hc hs hy hp
theorem W.callVn3 {idx mx : Nat} {z : MethodName} {bytes : ByteArray} {rt : Option FieldType} {C : String} {rm : Room} {ps : List FieldType} {rr : Option FieldType} {b : Addr} {x1 x2 x3 : Value} {q : OS → Prop} (K : Ctx X l Z R y code maxL ret) (pc' : Nat) (hd : decode code pc = .ok (.invokevirtual idx, 3)) (w1 : (Jvm.Cond.methodLink y.cls idx z).before a0 Z = true) (w2 : (Jvm.Cond.declares z).before a0 Z = true) (w5 : (Jvm.Cond.selects C z z).before a0 Z = true) (w6 : (Jvm.Cond.instanceMethod z).before a0 Z = true) (w3 : (Jvm.Cond.initialized z.cls).before a0 Z = true) (w4 : (Jvm.Cond.code z bytes mx rt).before a0 Z = true)
    (hsig : parseMethodDescriptor z.desc = some ⟨ps, rr⟩) (hrc : ∀ h, Hp Z h os → Exa Z h b C) (hM : OMeets l Z z bytes mx rt rm [.ref b, x1, x2, x3] os (RetN q)) (k : ∀ os', q os' → WP X Z rc rs Q pc' L S os' (ce + rm.cells) (sl + rm.slots)) (hlen : ([x1, x2, x3] : List Value).length = ps.length := by rfl) (hsz : L.length = maxL := by rfl) (hf : rm.frames + 1 ≤ R.frames := by decide) (hl : (S.map fun v => v.category).sum + (mx + 11) + rm.locals ≤ R.locals := by exact Nat.le_of_ble_eq_true rfl)
    (hc : ce + rm.cells ≤ R.cells := by decide) (hs : sl + rm.slots ≤ R.slots := by decide) (hy : z.cls ≠ "java/lang/invoke/MethodHandle" ∧ z.cls ≠ "java/lang/invoke/VarHandle" := by decide) (hp : pc + 3 = pc' := by rfl) : WP X Z rc rs Q pc L (x3 :: x2 :: x1 :: .ref b :: S) os ce sl :=
  W.callVn (argsL := [x1, x2, x3]) (S := S) K pc' hd w1 w2 w5 w6 w3 w4 hsig hrc hM k rfl hlen hsz hf hl hc hs hy hp
theorem W.callVn4 {idx mx : Nat} {z : MethodName} {bytes : ByteArray} {rt : Option FieldType} {C : String} {rm : Room} {ps : List FieldType} {rr : Option FieldType} {b : Addr} {x1 x2 x3 x4 : Value} {q : OS → Prop} (K : Ctx X l Z R y code maxL ret) (pc' : Nat) (hd : decode code pc = .ok (.invokevirtual idx, 3)) (w1 : (Jvm.Cond.methodLink y.cls idx z).before a0 Z = true) (w2 : (Jvm.Cond.declares z).before a0 Z = true) (w5 : (Jvm.Cond.selects C z z).before a0 Z = true) (w6 : (Jvm.Cond.instanceMethod z).before a0 Z = true) (w3 : (Jvm.Cond.initialized z.cls).before a0 Z = true) (w4 : (Jvm.Cond.code z bytes mx rt).before a0 Z = true)
    (hsig : parseMethodDescriptor z.desc = some ⟨ps, rr⟩) (hrc : ∀ h, Hp Z h os → Exa Z h b C) (hM : OMeets l Z z bytes mx rt rm [.ref b, x1, x2, x3, x4] os (RetN q)) (k : ∀ os', q os' → WP X Z rc rs Q pc' L S os' (ce + rm.cells) (sl + rm.slots)) (hlen : ([x1, x2, x3, x4] : List Value).length = ps.length := by rfl) (hsz : L.length = maxL := by rfl) (hf : rm.frames + 1 ≤ R.frames := by decide) (hl : (S.map fun v => v.category).sum + (mx + 11) + rm.locals ≤ R.locals := by exact Nat.le_of_ble_eq_true rfl)
    (hc : ce + rm.cells ≤ R.cells := by decide) (hs : sl + rm.slots ≤ R.slots := by decide) (hy : z.cls ≠ "java/lang/invoke/MethodHandle" ∧ z.cls ≠ "java/lang/invoke/VarHandle" := by decide) (hp : pc + 3 = pc' := by rfl) : WP X Z rc rs Q pc L (x4 :: x3 :: x2 :: x1 :: .ref b :: S) os ce sl :=
  W.callVn (argsL := [x1, x2, x3, x4]) (S := S) K pc' hd w1 w2 w5 w6 w3 w4 hsig hrc hM k rfl hlen hsz hf hl hc hs hy hp
theorem W.callVn5 {idx mx : Nat} {z : MethodName} {bytes : ByteArray} {rt : Option FieldType} {C : String} {rm : Room} {ps : List FieldType} {rr : Option FieldType} {b : Addr} {x1 x2 x3 x4 x5 : Value} {q : OS → Prop} (K : Ctx X l Z R y code maxL ret) (pc' : Nat) (hd : decode code pc = .ok (.invokevirtual idx, 3)) (w1 : (Jvm.Cond.methodLink y.cls idx z).before a0 Z = true) (w2 : (Jvm.Cond.declares z).before a0 Z = true) (w5 : (Jvm.Cond.selects C z z).before a0 Z = true) (w6 : (Jvm.Cond.instanceMethod z).before a0 Z = true) (w3 : (Jvm.Cond.initialized z.cls).before a0 Z = true) (w4 : (Jvm.Cond.code z bytes mx rt).before a0 Z = true)
    (hsig : parseMethodDescriptor z.desc = some ⟨ps, rr⟩) (hrc : ∀ h, Hp Z h os → Exa Z h b C) (hM : OMeets l Z z bytes mx rt rm [.ref b, x1, x2, x3, x4, x5] os (RetN q)) (k : ∀ os', q os' → WP X Z rc rs Q pc' L S os' (ce + rm.cells) (sl + rm.slots)) (hlen : ([x1, x2, x3, x4, x5] : List Value).length = ps.length := by rfl) (hsz : L.length = maxL := by rfl) (hf : rm.frames + 1 ≤ R.frames := by decide) (hl : (S.map fun v => v.category).sum + (mx + 11) + rm.locals ≤ R.locals := by exact Nat.le_of_ble_eq_true rfl)
    (hc : ce + rm.cells ≤ R.cells := by decide) (hs : sl + rm.slots ≤ R.slots := by decide) (hy : z.cls ≠ "java/lang/invoke/MethodHandle" ∧ z.cls ≠ "java/lang/invoke/VarHandle" := by decide) (hp : pc + 3 = pc' := by rfl) : WP X Z rc rs Q pc L (x5 :: x4 :: x3 :: x2 :: x1 :: .ref b :: S) os ce sl :=
  W.callVn (argsL := [x1, x2, x3, x4, x5]) (S := S) K pc' hd w1 w2 w5 w6 w3 w4 hsig hrc hM k rfl hlen hsz hf hl hc hs hy hp
theorem W.callVn6 {idx mx : Nat} {z : MethodName} {bytes : ByteArray} {rt : Option FieldType} {C : String} {rm : Room} {ps : List FieldType} {rr : Option FieldType} {b : Addr} {x1 x2 x3 x4 x5 x6 : Value} {q : OS → Prop} (K : Ctx X l Z R y code maxL ret) (pc' : Nat) (hd : decode code pc = .ok (.invokevirtual idx, 3)) (w1 : (Jvm.Cond.methodLink y.cls idx z).before a0 Z = true) (w2 : (Jvm.Cond.declares z).before a0 Z = true) (w5 : (Jvm.Cond.selects C z z).before a0 Z = true) (w6 : (Jvm.Cond.instanceMethod z).before a0 Z = true) (w3 : (Jvm.Cond.initialized z.cls).before a0 Z = true) (w4 : (Jvm.Cond.code z bytes mx rt).before a0 Z = true)
    (hsig : parseMethodDescriptor z.desc = some ⟨ps, rr⟩) (hrc : ∀ h, Hp Z h os → Exa Z h b C) (hM : OMeets l Z z bytes mx rt rm [.ref b, x1, x2, x3, x4, x5, x6] os (RetN q)) (k : ∀ os', q os' → WP X Z rc rs Q pc' L S os' (ce + rm.cells) (sl + rm.slots)) (hlen : ([x1, x2, x3, x4, x5, x6] : List Value).length = ps.length := by rfl) (hsz : L.length = maxL := by rfl) (hf : rm.frames + 1 ≤ R.frames := by decide) (hl : (S.map fun v => v.category).sum + (mx + 11) + rm.locals ≤ R.locals := by exact Nat.le_of_ble_eq_true rfl)
    (hc : ce + rm.cells ≤ R.cells := by decide) (hs : sl + rm.slots ≤ R.slots := by decide) (hy : z.cls ≠ "java/lang/invoke/MethodHandle" ∧ z.cls ≠ "java/lang/invoke/VarHandle" := by decide) (hp : pc + 3 = pc' := by rfl) : WP X Z rc rs Q pc L (x6 :: x5 :: x4 :: x3 :: x2 :: x1 :: .ref b :: S) os ce sl :=
  W.callVn (argsL := [x1, x2, x3, x4, x5, x6]) (S := S) K pc' hd w1 w2 w5 w6 w3 w4 hsig hrc hM k rfl hlen hsz hf hl hc hs hy hp
theorem W.callVn7 {idx mx : Nat} {z : MethodName} {bytes : ByteArray} {rt : Option FieldType} {C : String} {rm : Room} {ps : List FieldType} {rr : Option FieldType} {b : Addr} {x1 x2 x3 x4 x5 x6 x7 : Value} {q : OS → Prop} (K : Ctx X l Z R y code maxL ret) (pc' : Nat) (hd : decode code pc = .ok (.invokevirtual idx, 3)) (w1 : (Jvm.Cond.methodLink y.cls idx z).before a0 Z = true) (w2 : (Jvm.Cond.declares z).before a0 Z = true) (w5 : (Jvm.Cond.selects C z z).before a0 Z = true) (w6 : (Jvm.Cond.instanceMethod z).before a0 Z = true) (w3 : (Jvm.Cond.initialized z.cls).before a0 Z = true) (w4 : (Jvm.Cond.code z bytes mx rt).before a0 Z = true)
    (hsig : parseMethodDescriptor z.desc = some ⟨ps, rr⟩) (hrc : ∀ h, Hp Z h os → Exa Z h b C) (hM : OMeets l Z z bytes mx rt rm [.ref b, x1, x2, x3, x4, x5, x6, x7] os (RetN q)) (k : ∀ os', q os' → WP X Z rc rs Q pc' L S os' (ce + rm.cells) (sl + rm.slots)) (hlen : ([x1, x2, x3, x4, x5, x6, x7] : List Value).length = ps.length := by rfl) (hsz : L.length = maxL := by rfl) (hf : rm.frames + 1 ≤ R.frames := by decide) (hl : (S.map fun v => v.category).sum + (mx + 11) + rm.locals ≤ R.locals := by exact Nat.le_of_ble_eq_true rfl)
    (hc : ce + rm.cells ≤ R.cells := by decide) (hs : sl + rm.slots ≤ R.slots := by decide) (hy : z.cls ≠ "java/lang/invoke/MethodHandle" ∧ z.cls ≠ "java/lang/invoke/VarHandle" := by decide) (hp : pc + 3 = pc' := by rfl) : WP X Z rc rs Q pc L (x7 :: x6 :: x5 :: x4 :: x3 :: x2 :: x1 :: .ref b :: S) os ce sl :=
  W.callVn (argsL := [x1, x2, x3, x4, x5, x6, x7]) (S := S) K pc' hd w1 w2 w5 w6 w3 w4 hsig hrc hM k rfl hlen hsz hf hl hc hs hy hp
theorem Rc.new {b : Addr} {C : String} {fs : List FV} (hm : (b, OBJ Z C fs) ∈ os) : ∀ h, Hp Z h os → Exa Z h b C := fun h H => by
  obtain ⟨-, c, hc, hO⟩ := H.get hm; exact hO.exa hc
theorem Rc.old {b : Addr} {C : String} (E : Exa Z Z.heap b C) : ∀ h, Hp Z h os → Exa Z h b C := fun h H => E.ext H.1
end Ops
end Jvm.OwnW
namespace Jvm.OwnW
open Sem ClassFile Op Lib Jvm.Stand Jvm.Free Jvm.LawKit Jvm.RoadKit
/-! arrays as functions -/
def AF {α : Type} (c : α → Value) (n : Nat) (F : Nat → α) : List Value := (List.range n).map fun i => c (F i)
def updA {α : Type} (F : Nat → α) (k : Nat) (v : α) : Nat → α := fun i => if i = k then v else F i
theorem updA_same {α : Type} (F : Nat → α) (k : Nat) (v : α) : updA F k v k = v := by simp [updA]
theorem updA_ne {α : Type} (F : Nat → α) {k i : Nat} (v : α) (h : i ≠ k) : updA F k v i = F i := by simp [updA, h]
theorem AF_len {α : Type} {c : α → Value} {n : Nat} {F : Nat → α} : (AF c n F).length = n := by simp [AF]
theorem AF_at {α : Type} {c : α → Value} {n : Nat} {F : Nat → α} {i : Nat} (h : i < n) : (AF c n F)[i]? = some (c (F i)) := by simp [AF, h]
theorem AF_out {α : Type} {c : α → Value} {n : Nat} {F : Nat → α} {i : Nat} (h : ¬ i < n) : (AF c n F)[i]? = none := by simp [AF]; omega
theorem AF_ext {α : Type} {c : α → Value} {n : Nat} {F G : Nat → α} (h : ∀ i, i < n → F i = G i) : AF c n F = AF c n G := by
  apply List.ext_getElem?
  intro i
  by_cases hi : i < n
  · rw [AF_at hi, AF_at hi, h i hi]
  · rw [AF_out hi, AF_out hi]
theorem AF_set {α : Type} {c : α → Value} {n : Nat} {F : Nat → α} {k : Nat} {v : α} : (AF c n F).set k (c v) = AF c n (updA F k v) := by
  apply List.ext_getElem?
  intro i
  rw [List.getElem?_set]
  by_cases hi : i < n
  · rw [AF_at hi, AF_at hi]
    by_cases e : k = i
    · subst e
      rw [if_pos rfl, if_pos (by rw [AF_len]; exact hi), updA_same]
    · rw [if_neg e, updA_ne _ _ (fun h => e h.symm)]
  · rw [AF_out hi, AF_out hi]
    split
    · rename_i e; subst e
      rw [if_neg (by rw [AF_len]; exact hi)]
    · rfl
theorem AF_rep {α : Type} {c : α → Value} {n : Nat} {v : α} : List.replicate n (c v) = AF c n (fun _ => v) := by
  apply List.ext_getElem?
  intro i
  by_cases hi : i < n
  · rw [AF_at hi]; simp [List.getElem?_replicate, hi]
  · rw [AF_out hi]; simp [List.getElem?_replicate, hi]
theorem AF_repI {n : Nat} : List.replicate n (defaultValue .int) = AF Value.int n (fun _ => 0) := AF_rep
theorem AF_repB {n : Nat} : List.replicate n (defaultValue .byte) = AF Value.int n (fun _ => 0) := AF_rep
theorem AF_repC {n : Nat} : List.replicate n (defaultValue .char) = AF Value.int n (fun _ => 0) := AF_rep
theorem AF_repJ {n : Nat} : List.replicate n (defaultValue .long) = AF Value.long n (fun _ => 0) := AF_rep
theorem AF_size {α : Type} {c : α → Value} {n : Nat} {F : Nat → α} {z : Int32} (h : z.toInt = (n : Int)) : (AF c n F).length.toInt32 = z := by
  rw [AF_len]
  apply Int32.toInt_inj.mp
  have h1 := rng32 z
  rw [len_toInt (by omega), h]
theorem toInt_add32 {x z : Int32} {a b : Int} (hx : x.toInt = a) (hz : z.toInt = b) (h1 : -2147483648 ≤ a + b) (h2 : a + b < 2147483648) : (x + z).toInt = a + b := by
  have q := c_iadd x z; have r := rng32 (x + z); omega
theorem toInt_sub32 {x z : Int32} {a b : Int} (hx : x.toInt = a) (hz : z.toInt = b) (h1 : -2147483648 ≤ a - b) (h2 : a - b < 2147483648) : (x - z).toInt = a - b := by
  have q := c_isub x z; have r := rng32 (x - z); omega
theorem toInt_add64 {x z : Int64} {a b : Int} (hx : x.toInt = a) (hz : z.toInt = b) (h1 : -9223372036854775808 ≤ a + b) (h2 : a + b < 9223372036854775808) : (x + z).toInt = a + b := by
  have q := c_ladd x z; have r := rng64 (x + z); omega
theorem toInt_sub64 {x z : Int64} {a b : Int} (hx : x.toInt = a) (hz : z.toInt = b) (h1 : -9223372036854775808 ≤ a - b) (h2 : a - b < 9223372036854775808) : (x - z).toInt = a - b := by
  have q := c_lsub x z; have r := rng64 (x - z); omega
section Old
variable {X : Cx} {l : Launch} {Z : State} {R : Room} {y : MethodName} {code : ByteArray} {maxL : Nat} {ret : Option FieldType} {rc rs : Nat} {Q : Option Value → OS → Prop} {pc : Nat} {L : List Slot} {S : List Value} {os os' : OS} {ce sl : Nat} {a0 : Array Value}
/-- an array that stood at the start -/
theorem W.baloadO {a : Addr} {cl : Cell} {j : Int32} {v : Value} (i : Nat) (K : Ctx X l Z R y code maxL ret) (pc' : Nat) (hd : decode code pc = .ok (.baload, 1)) (A : Arr Z Z.heap a cl .byte) (hj : j.toInt = (i : Int)) (hv : cl.slots[i]? = some v) (k : WP X Z rc rs Q pc' L (v :: S) os ce sl) (hp : pc + 1 = pc' := by rfl) : WP X Z rc rs Q pc L (.int j :: .ref a :: S) os ce sl := by
  obtain ⟨p, l', e, R', s, m, args, below, meth, c⟩ := X
  obtain ⟨h1, h2, hx, hZ, hby, hml, hown, hnm, hret, hlk⟩ := K
  subst hp
  intro T locs hT0 hH hF
  have hT : Stand p l' e R' s m args below meth c T locs ce sl := hT0
  obtain ⟨s2, o, st, r⟩ := k T locs hT hH hF
  have A' := A.ext hH.1
  have e2 : j.toNatClampNeg = i := by show j.toInt.toNat = i; rw [hj]; rfl
  have hlt := (Array.getElem?_eq_some_iff.mp hv).1
  have e1 : ¬ (j < 0 ∨ cl.slots.size ≤ j.toNatClampNeg) := by
    rw [Int32.lt_iff_toInt_lt, e2, hj]
    intro q
    rcases q with q | q
    · exact absurd q (Int.not_lt.mpr (Int.natCast_nonneg i))
    · omega
  exact ⟨s2, o, Stand.baloadBytes hT hx A'.1 (State.isArrayOf_alike hZ.alike A'.2.1) A'.2.2 e1 (by rw [e2]; exact hv) (g := mkF m pc L.toArray (.int j :: .ref a :: S)) rfl rfl (hb hby hd) _ st, r⟩
end Old
end Jvm.OwnW
namespace Jvm.OwnW
open Sem ClassFile Op Lib Jvm.Stand Jvm.Free Jvm.LawKit Jvm.RoadKit
section Copy
variable {X : Cx} {l : Launch} {Z : State} {R : Room} {y : MethodName} {code : ByteArray} {maxL : Nat} {ret : Option FieldType} {rc rs : Nat} {Q : Option Value → OS → Prop} {pc : Nat} {L : List Slot} {S : List Value} {os os' : OS} {ce sl : Nat} {a0 : Array Value}
theorem W.dupX2 {x u v : Value} (K : Ctx X l Z R y code maxL ret) (pc' : Nat) (hd : decode code pc = .ok (.dup_x2, 1)) (k : WP X Z rc rs Q pc' L (x :: u :: v :: x :: S) os ce sl) (hc : x.category = 1 := by rfl) (hc2 : u.category = 1 := by rfl) (hc3 : v.category = 1 := by rfl) (hp : pc + 1 = pc' := by rfl) : WP X Z rc rs Q pc L (x :: u :: v :: S) os ce sl := by
  obtain ⟨p, l', e, R', s, m, args, below, meth, c⟩ := X
  obtain ⟨h1, h2, hx, hZ, hby, hml, hown, hnm, hret, hlk⟩ := K
  subst hp
  intro T locs hT0 hH hF
  have hT : Stand p l' e R' s m args below meth c T locs ce sl := hT0
  obtain ⟨s2, o, st, r⟩ := k T locs hT hH hF
  refine ⟨s2, o, ?_, r⟩
  have hX := Stand.here hT
  have hdg := hb hby hd
  jvm_step hX [hX.top, hx, hdg, hc, hc2, hc3]
  exact st
theorem Hp.keepAt {h h' : Heap} {b : Addr} {P P' : Cell → Prop} {i : Nat} {c' : Cell} (H : Hp Z h os) (hi : os[i]? = some (b, P)) (Kp : Keep h h' [b]) (hc : h'[b]? = some c') (hP : P' c') : Hp Z h' (os.set i (b, P')) := by
  obtain ⟨hb, cb, hcb, -⟩ := H.2.2 i _ hi
  refine ⟨⟨Nat.le_trans H.1.1 Kp.1, fun x cx hx => ?_⟩, ?_, fun k x hx => ?_⟩
  · refine Kp.2.1 x cx (H.1.2 x cx hx) (fun q => ?_)
    have e := List.mem_singleton.mp q
    rw [e] at hx
    exact absurd (Array.getElem?_eq_some_iff.mp hx).1 (Nat.not_lt.mpr hb)
  · have e : (os.set i (b, P')).map Prod.fst = os.map Prod.fst := by
      apply List.ext_getElem?
      intro k
      simp only [List.getElem?_map, List.getElem?_set]
      split
      · rename_i e; subst e
        rw [if_pos (List.getElem?_eq_some_iff.mp hi).1, hi]; rfl
      · rfl
    rw [e]; exact H.2.1
  · rw [List.getElem?_set] at hx
    split at hx
    · rename_i e; subst e
      split at hx
      · cases hx; exact ⟨hb, c', hc, hP⟩
      · cases hx
    · rename_i hne
      obtain ⟨g1, cx, g2, g3⟩ := H.2.2 k x hx
      have ne : x.1 ≠ b := H.ne (i := k) (j := i) (P := x.2) hx hi (fun e => hne e.symm)
      exact ⟨g1, cx, Kp.2.1 _ _ g2 (fun q => ne (List.mem_singleton.mp q)), g3⟩
theorem ARR.arv {h : Heap} {a : Addr} {c : Cell} {ty : FieldType} {vs : List Value} (hc : h[a]? = some c) (q : ARR Z ty vs c) : Arv Z h a c.cls ty vs.length.toInt32 vs .null := by
  obtain ⟨q1, q2, q3, q4, q5⟩ := q
  have e : vs.length.toInt32.toInt = (vs.length : Int) := len_toInt q5
  have e2 : vs.length.toInt32.toNatClampNeg = vs.length := by show (vs.length.toInt32.toInt).toNat = _; rw [e]; rfl
  have hs : c.slots.size = vs.length := by rw [q3]; simp
  refine ⟨c, ⟨hc, q1, q2⟩, rfl, by rw [e2, hs], by rw [Int32.lt_iff_toInt_lt, e]; exact Int.not_lt.mpr (Int.natCast_nonneg _), fun k hk => ?_, fun i hi => ?_⟩
  · rw [hs] at hk
    rw [q3]; simp [List.getElem?_eq_getElem hk]
  · rw [hs] at hi
    refine q4 _ ?_
    rw [List.getD_eq_getElem?_getD, List.getElem?_eq_getElem hi]
    exact List.getElem_mem hi
theorem W.arraycopy {a b : Addr} {vs vd : List Value} {ty : FieldType} {sp dp nn : Int32} {idx : Nat} (i j n : Nat) (K : Ctx X l Z R y code maxL ret) (pc' : Nat) (hd : decode code pc = .ok (.invokestatic idx, 3)) (w1 : (Jvm.Cond.methodLink y.cls idx Jvm.Stand.acN).before a0 Z = true) (w2 : (Jvm.Cond.native Jvm.Stand.acN).before a0 Z = true) (w3 : (Jvm.Cond.static Jvm.Stand.acN).before a0 Z = true) (w4 : (Jvm.Cond.initialized "java/lang/System").before a0 Z = true)
    (hm : (a, ARR Z ty vs) ∈ os) (hu : Upd os b (ARR Z ty vd) (ARR Z ty (vd.take j ++ (vs.drop i).take n ++ vd.drop (j + n))) os') (hsp : sp.toInt = (i : Int)) (hdp : dp.toInt = (j : Int)) (hnn : nn.toInt = (n : Int)) (h4 : i + n ≤ vs.length) (h5 : j + n ≤ vd.length) (hty : refKind ty = false)
    (k : WP X Z rc rs Q pc' L S os' ce sl) (hsz : L.length = maxL := by rfl) (hf : 1 ≤ R.frames := by decide) (hlo : (S.map fun v => v.category).sum + (nativeFrameWords "java/lang/System" "arraycopy" 5 + 11) ≤ R.locals := by exact Nat.le_of_ble_eq_true rfl) (hp : pc + 3 = pc' := by rfl) : WP X Z rc rs Q pc L (.int nn :: .int dp :: .ref b :: .int sp :: .ref a :: S) os ce sl := by
  obtain ⟨p, l', e, R', s, m, args, below, meth, c⟩ := X
  obtain ⟨h1, h2, hx, hZ, hby, hml, hown, hnm, hret, hlk⟩ := K
  have h2' : R' = R := h2
  subst h2'
  subst hp
  intro T locs hT0 hH hF
  have hT : Stand p l' e R' s m args below meth c T locs ce sl := hT0
  obtain ⟨ii, hi, rfl⟩ := hu
  obtain ⟨hbn, cd, hcd, qd⟩ := hH.2.2 ii _ hi
  obtain ⟨-, cs, hcs, qs⟩ := hH.get hm
  have nat : ∀ {x : Int32} {z : Nat}, x.toInt = (z : Int) → x.toNatClampNeg = z := fun {x z} h => by show x.toInt.toNat = z; rw [h]; rfl
  have neg : ∀ {x : Int32} {z : Nat}, x.toInt = (z : Int) → ¬ x < 0 := fun {x z} h => by rw [Int32.lt_iff_toInt_lt, h]; exact Int.not_lt.mpr (Int.natCast_nonneg z)
  have n1 := nat hsp; have n2 := nat hdp; have n3 := nat hnn
  have v1 : vs.length.toInt32.toNatClampNeg = vs.length := nat (len_toInt qs.2.2.2.2)
  have v2 : vd.length.toInt32.toNatClampNeg = vd.length := nat (len_toInt qd.2.2.2.2)
  have hus : (vs.drop i).take n = (List.range nn.toNatClampNeg).map fun q => vs.getD (sp.toNatClampNeg + q) .null := by
    rw [n1, n3]
    apply List.ext_getElem?
    intro q
    by_cases hq : q < n
    · rw [List.getElem?_take, if_pos hq, List.getElem?_drop]
      have hlt : i + q < vs.length := by omega
      simp [hq, List.getElem?_eq_getElem hlt]
    · rw [List.getElem?_take, if_neg hq]
      simp [hq]
  obtain ⟨T', h', L', X', e', N', K', A', st'⟩ := cpA hT hx hZ hown w1 w2 w3 w4 rfl (ARR.arv hcs qs) (ARR.arv hcd qd) (us := (vs.drop i).take n) (Or.inl ⟨rfl, hty⟩) (neg hsp) (neg hdp) (neg hnn) (by rw [n1, n3, v1]; exact h4) (by rw [n2, n3, v2]; exact h5) hus (by rw [n2, n3]; exact h5) hF hbn
    (g := mkF m pc L.toArray (.int nn :: .int dp :: .ref b :: .int sp :: .ref a :: S)) rfl (by rw [hml]; simpa using hsz) rfl (hb hby hd) hf (W := (S.map fun v => v.category).sum) (by show 2 * 0 + _ ≤ _; omega) hlo
  rw [n2, n3] at A'
  obtain ⟨c', B1, -, B3, -, B5, B6⟩ := A'
  have hlen : (vd.take j ++ (vs.drop i).take n ++ vd.drop (j + n)).length = vd.length := by simp; omega
  rw [v2] at B3
  have hA : ARR Z ty (vd.take j ++ (vs.drop i).take n ++ vd.drop (j + n)) c' := by
    generalize vd.take j ++ (vs.drop i).take n ++ vd.drop (j + n) = nv at *
    refine ⟨B1.2.1, B1.2.2, ?_, fun v hv => ?_, by rw [hlen]; exact qd.2.2.2.2⟩
    · apply Array.ext_getElem?
      intro q
      by_cases hq : q < c'.slots.size
      · rw [B5 q hq]
        have hq2 : q < nv.length := by omega
        simp [List.getElem?_eq_getElem hq2]
      · have hq2 : ¬ q < nv.length := by omega
        rw [Array.getElem?_eq_none (by omega)]
        simp; omega
    · obtain ⟨q, hq⟩ := List.getElem?_of_mem hv
      have hlt := (List.getElem?_eq_some_iff.mp hq).1
      have g := B6 q (by omega)
      rw [List.getD_eq_getElem?_getD, hq] at g
      exact g
  obtain ⟨s2, o, st, r⟩ := k T' L' X' (by rw [e']; exact hH.keepAt hi K' B1.1 hA) N'
  exact ⟨s2, o, st' _ st, r⟩
theorem AF_copy {α : Type} {cc : α → Value} {n k : Nat} {F G : Nat → α} (h : k ≤ n) : (AF cc k G).take 0 ++ ((AF cc n F).drop 0).take k ++ (AF cc k G).drop (0 + k) = AF cc k F := by
  have e1 : (AF cc k G).drop (0 + k) = [] := by rw [Nat.zero_add]; exact List.drop_eq_nil_of_le (by rw [AF_len]; exact Nat.le_refl _)
  rw [e1, List.append_nil, List.take_zero, List.nil_append, List.drop_zero]
  apply List.ext_getElem?
  intro i
  rw [List.getElem?_take]
  by_cases hi : i < k
  · rw [if_pos hi, AF_at (by omega), AF_at hi]
  · rw [if_neg hi, AF_out hi]
end Copy
end Jvm.OwnW
namespace Jvm.OwnW
open Sem ClassFile Op Lib Jvm.Stand Jvm.Free Jvm.LawKit Jvm.RoadKit
section Inst
variable {X : Cx} {l : Launch} {Z : State} {R : Room} {y : MethodName} {code : ByteArray} {maxL : Nat} {ret : Option FieldType} {rc rs : Nat} {Q : Option Value → OS → Prop} {pc : Nat} {L : List Slot} {S : List Value} {os os' : OS} {ce sl : Nat} {a0 : Array Value}
theorem W.instY {a : Addr} {C : String} {idx : Nat} (K : Ctx X l Z R y code maxL ret) (pc' : Nat) (hd : decode code pc = .ok (.instanceof idx, 3)) (w : (Jvm.Cond.classLink y.cls idx C).before a0 Z = true) (hE : ∀ h, Hp Z h os → Exa Z h a C) (k : WP X Z rc rs Q pc' L (.int 1 :: S) os ce sl) (hp : pc + 3 = pc' := by rfl) : WP X Z rc rs Q pc L (.ref a :: S) os ce sl := by
  obtain ⟨p, l', e, R', s, m, args, below, meth, c⟩ := X
  obtain ⟨h1, h2, hx, hZ, hby, hml, hown, hnm, hret, hlk⟩ := K
  subst hp
  intro T locs hT0 hH hF
  have hT : Stand p l' e R' s m args below meth c T locs ce sl := hT0
  obtain ⟨T', X', e', st'⟩ := RoadKit.instY hT hx hZ hown w rfl (Ins.self (hE _ hH)) (g := mkF m pc L.toArray (.ref a :: S)) rfl rfl (hb hby hd)
  obtain ⟨s2, o, st, r⟩ := k T' locs X' (by rw [e']; exact hH) hF
  exact ⟨s2, o, st' _ st, r⟩
theorem W.castY {a : Addr} {C : String} {idx : Nat} (K : Ctx X l Z R y code maxL ret) (pc' : Nat) (hd : decode code pc = .ok (.checkcast idx, 3)) (w : (Jvm.Cond.classLink y.cls idx C).before a0 Z = true) (hE : ∀ h, Hp Z h os → Exa Z h a C) (k : WP X Z rc rs Q pc' L (.ref a :: S) os ce sl) (hp : pc + 3 = pc' := by rfl) : WP X Z rc rs Q pc L (.ref a :: S) os ce sl := by
  obtain ⟨p, l', e, R', s, m, args, below, meth, c⟩ := X
  obtain ⟨h1, h2, hx, hZ, hby, hml, hown, hnm, hret, hlk⟩ := K
  subst hp
  intro T locs hT0 hH hF
  have hT : Stand p l' e R' s m args below meth c T locs ce sl := hT0
  obtain ⟨T', X', e', st'⟩ := RoadKit.castY hT hx hZ hown w rfl (Ins.self (hE _ hH)) (g := mkF m pc L.toArray (.ref a :: S)) rfl rfl (hb hby hd)
  obtain ⟨s2, o, st, r⟩ := k T' locs X' (by rw [e']; exact hH) hF
  exact ⟨s2, o, st' _ st, r⟩
theorem W.instNo {a : Addr} {C C' : String} {idx : Nat} (K : Ctx X l Z R y code maxL ret) (pc' : Nat) (hd : decode code pc = .ok (.instanceof idx, 3)) (w : (Jvm.Cond.classLink y.cls idx C').before a0 Z = true) (hE : ∀ h, Hp Z h os → Exa Z h a C) (hN : ∃ c t, Z.vm.findClass C = some c ∧ Z.vm.findClass C' = some t ∧ Z.vm.assignable c t = false) (k : WP X Z rc rs Q pc' L (.int 0 :: S) os ce sl) (hp : pc + 3 = pc' := by rfl) : WP X Z rc rs Q pc L (.ref a :: S) os ce sl := by
  obtain ⟨p, l', e, R', s, m, args, below, meth, c⟩ := X
  obtain ⟨h1, h2, hx, hZ, hby, hml, hown, hnm, hret, hlk⟩ := K
  subst hp
  intro T locs hT0 hH hF
  have hT : Stand p l' e R' s m args below meth c T locs ce sl := hT0
  obtain ⟨T', X', e', st'⟩ := RoadKit.instNo hT hx hZ hown w rfl (hE _ hH) hN (g := mkF m pc L.toArray (.ref a :: S)) rfl rfl (hb hby hd)
  obtain ⟨s2, o, st, r⟩ := k T' locs X' (by rw [e']; exact hH) hF
  exact ⟨s2, o, st' _ st, r⟩
theorem W.instNull {idx : Nat} (K : Ctx X l Z R y code maxL ret) (pc' : Nat) (hd : decode code pc = .ok (.instanceof idx, 3)) (k : WP X Z rc rs Q pc' L (.int 0 :: S) os ce sl) (hp : pc + 3 = pc' := by rfl) : WP X Z rc rs Q pc L (.null :: S) os ce sl := by
  obtain ⟨p, l', e, R', s, m, args, below, meth, c⟩ := X
  obtain ⟨h1, h2, hx, hZ, hby, hml, hown, hnm, hret, hlk⟩ := K
  subst hp
  intro T locs hT0 hH hF
  have hT : Stand p l' e R' s m args below meth c T locs ce sl := hT0
  obtain ⟨s2, o, st, r⟩ := k T locs hT hH hF
  exact ⟨s2, o, Jvm.Stand.instanceofNull hT hx (g := mkF m pc L.toArray (.null :: S)) rfl rfl (hb hby hd) _ st, r⟩
theorem W.aaloadO {a : Addr} {cl : Cell} {ty : FieldType} {j : Int32} {v : Value} (i : Nat) (K : Ctx X l Z R y code maxL ret) (pc' : Nat) (hd : decode code pc = .ok (.aaload, 1)) (A : Arr Z Z.heap a cl ty) (hty : ty.isReference = true) (hj : j.toInt = (i : Int)) (hv : cl.slots[i]? = some v) (k : WP X Z rc rs Q pc' L (v :: S) os ce sl) (hp : pc + 1 = pc' := by rfl) : WP X Z rc rs Q pc L (.int j :: .ref a :: S) os ce sl := by
  obtain ⟨p, l', e, R', s, m, args, below, meth, c⟩ := X
  obtain ⟨h1, h2, hx, hZ, hby, hml, hown, hnm, hret, hlk⟩ := K
  subst hp
  intro T locs hT0 hH hF
  have hT : Stand p l' e R' s m args below meth c T locs ce sl := hT0
  obtain ⟨s2, o, st, r⟩ := k T locs hT hH hF
  have A' := A.ext hH.1
  have e2 : j.toNatClampNeg = i := by show j.toInt.toNat = i; rw [hj]; rfl
  have hlt := (Array.getElem?_eq_some_iff.mp hv).1
  have e1 : ¬ (j < 0 ∨ cl.slots.size ≤ j.toNatClampNeg) := by
    rw [Int32.lt_iff_toInt_lt, e2, hj]
    intro q
    rcases q with q | q
    · exact absurd q (Int.not_lt.mpr (Int.natCast_nonneg i))
    · omega
  exact ⟨s2, o, Stand.aaload hT hx A'.1 (State.isArrayOf_alike hZ.alike A'.2.1) hty A'.2.2 e1 (by rw [e2]; exact hv) (g := mkF m pc L.toArray (.int j :: .ref a :: S)) rfl rfl (hb hby hd) _ st, r⟩
end Inst
end Jvm.OwnW
namespace Jvm.Pilot.@@N@@
open Jvm Jvm.ClassFile Sem Op Lib Jvm.Free Jvm.Stand Jvm.LawKit Jvm.RoadKit Bundle Jvm.OwnW Jvm.Pilot.@@N@@.Jvm.D

theorem pn_0 : plainFor x = true := plainFor_of_name (show plainName "com/example/lid12/lid12/ObjectIdEqualsPinLaw" = true by first | (simp [plainName, overriddenIn]; done) | decide +kernel)
theorem pd_0 : parseMethodDescriptor "(IJIJI)Z" = some ⟨[.int, .long, .int, .long, .int], some .boolean⟩ := by decide +kernel
theorem d1_0 : decode prog_2_method_1_code 0 = .ok (.aload_n 0, 1) := by decide +kernel
theorem d1_1 : decode prog_2_method_1_code 1 = .ok (.invokespecial 3, 3) := by decide +kernel
theorem d1_4 : decode prog_2_method_1_code 4 = .ok (.aload_n 0, 1) := by decide +kernel
theorem d1_5 : decode prog_2_method_1_code 5 = .ok (.iload_n 1, 1) := by decide +kernel
theorem d1_6 : decode prog_2_method_1_code 6 = .ok (.putfield 9, 3) := by decide +kernel
theorem d1_9 : decode prog_2_method_1_code 9 = .ok (.aload_n 0, 1) := by decide +kernel
theorem d1_10 : decode prog_2_method_1_code 10 = .ok (.lload_n 2, 1) := by decide +kernel
theorem d1_11 : decode prog_2_method_1_code 11 = .ok (.putfield 13, 3) := by decide +kernel
theorem d1_14 : decode prog_2_method_1_code 14 = .ok (.return_, 1) := by decide +kernel
theorem pn_1 : plainFor (⟨"com/example/lid12/lid12/ObjectId", "<init>", "(IJ)V"⟩ : MethodName) = true := plainFor_of_name (show plainName "com/example/lid12/lid12/ObjectId" = true by first | (simp [plainName, overriddenIn]; done) | decide +kernel)
theorem pd_1 : parseMethodDescriptor "(IJ)V" = some ⟨[.int, .long], none⟩ := by decide +kernel
theorem d3_0 : decode prog_2_method_18_code 0 = .ok (.aload_n 1, 1) := by decide +kernel
theorem d3_1 : decode prog_2_method_18_code 1 = .ok (.instanceof 1, 3) := by decide +kernel
theorem d3_4 : decode prog_2_method_18_code 4 = .ok (.ifCond .eq 35, 3) := by decide +kernel
theorem d3_7 : decode prog_2_method_18_code 7 = .ok (.aload_n 1, 1) := by decide +kernel
theorem d3_8 : decode prog_2_method_18_code 8 = .ok (.checkcast 1, 3) := by decide +kernel
theorem d3_11 : decode prog_2_method_18_code 11 = .ok (.astore_n 2, 1) := by decide +kernel
theorem d3_12 : decode prog_2_method_18_code 12 = .ok (.aload_n 0, 1) := by decide +kernel
theorem d3_13 : decode prog_2_method_18_code 13 = .ok (.getfield 9, 3) := by decide +kernel
theorem d3_16 : decode prog_2_method_18_code 16 = .ok (.aload_n 2, 1) := by decide +kernel
theorem d3_17 : decode prog_2_method_18_code 17 = .ok (.getfield 9, 3) := by decide +kernel
theorem d3_20 : decode prog_2_method_18_code 20 = .ok (.if_icmp .ne 19, 3) := by decide +kernel
theorem d3_23 : decode prog_2_method_18_code 23 = .ok (.aload_n 0, 1) := by decide +kernel
theorem d3_24 : decode prog_2_method_18_code 24 = .ok (.getfield 13, 3) := by decide +kernel
theorem d3_27 : decode prog_2_method_18_code 27 = .ok (.aload_n 2, 1) := by decide +kernel
theorem d3_28 : decode prog_2_method_18_code 28 = .ok (.getfield 13, 3) := by decide +kernel
theorem d3_31 : decode prog_2_method_18_code 31 = .ok (.lcmp, 1) := by decide +kernel
theorem d3_32 : decode prog_2_method_18_code 32 = .ok (.ifCond .ne 7, 3) := by decide +kernel
theorem d3_35 : decode prog_2_method_18_code 35 = .ok (.iconst 1, 1) := by decide +kernel
theorem d3_36 : decode prog_2_method_18_code 36 = .ok (.goto 4, 3) := by decide +kernel
theorem d3_39 : decode prog_2_method_18_code 39 = .ok (.iconst 0, 1) := by decide +kernel
theorem d3_40 : decode prog_2_method_18_code 40 = .ok (.ireturn, 1) := by decide +kernel
theorem pn_3 : plainFor (⟨"com/example/lid12/lid12/ObjectId", "equals", "(Ljava/lang/Object;)Z"⟩ : MethodName) = true := plainFor_of_name (show plainName "com/example/lid12/lid12/ObjectId" = true by first | (simp [plainName, overriddenIn]; done) | decide +kernel)
theorem pd_3 : parseMethodDescriptor "(Ljava/lang/Object;)Z" = some ⟨[(.object "java/lang/Object")], some .boolean⟩ := by decide +kernel
theorem d4_0 : decode jdk_33_method_22_code 0 = .ok (.iload_n 0, 1) := by decide +kernel
theorem d4_1 : decode jdk_33_method_22_code 1 = .ok (.bipush (-128), 2) := by decide +kernel
theorem d4_3 : decode jdk_33_method_22_code 3 = .ok (.if_icmp .lt 20, 3) := by decide +kernel
theorem d4_6 : decode jdk_33_method_22_code 6 = .ok (.iload_n 0, 1) := by decide +kernel
theorem d4_7 : decode jdk_33_method_22_code 7 = .ok (.getstatic 191, 3) := by decide +kernel
theorem d4_10 : decode jdk_33_method_22_code 10 = .ok (.if_icmp .gt 13, 3) := by decide +kernel
theorem d4_13 : decode jdk_33_method_22_code 13 = .ok (.getstatic 195, 3) := by decide +kernel
theorem d4_16 : decode jdk_33_method_22_code 16 = .ok (.iload_n 0, 1) := by decide +kernel
theorem d4_17 : decode jdk_33_method_22_code 17 = .ok (.sipush 128, 3) := by decide +kernel
theorem d4_20 : decode jdk_33_method_22_code 20 = .ok (.iadd, 1) := by decide +kernel
theorem d4_21 : decode jdk_33_method_22_code 21 = .ok (.aaload, 1) := by decide +kernel
theorem d4_22 : decode jdk_33_method_22_code 22 = .ok (.areturn, 1) := by decide +kernel
theorem d4_23 : decode jdk_33_method_22_code 23 = .ok (.new 1, 3) := by decide +kernel
theorem d4_26 : decode jdk_33_method_22_code 26 = .ok (.dup, 1) := by decide +kernel
theorem d4_27 : decode jdk_33_method_22_code 27 = .ok (.iload_n 0, 1) := by decide +kernel
theorem d4_28 : decode jdk_33_method_22_code 28 = .ok (.invokespecial 199, 3) := by decide +kernel
theorem d4_31 : decode jdk_33_method_22_code 31 = .ok (.areturn, 1) := by decide +kernel
theorem pn_4 : plainFor (⟨"java/lang/Integer", "valueOf", "(I)Ljava/lang/Integer;"⟩ : MethodName) = true := plainFor_of_name (show plainName "java/lang/Integer" = true by first | (simp [plainName, overriddenIn]; done) | decide +kernel)
theorem pd_4 : parseMethodDescriptor "(I)Ljava/lang/Integer;" = some ⟨[.int], some (.object "java/lang/Integer")⟩ := by decide +kernel
theorem d5_0 : decode jdk_33_method_23_code 0 = .ok (.aload_n 0, 1) := by decide +kernel
theorem d5_1 : decode jdk_33_method_23_code 1 = .ok (.invokespecial 202, 3) := by decide +kernel
theorem d5_4 : decode jdk_33_method_23_code 4 = .ok (.aload_n 0, 1) := by decide +kernel
theorem d5_5 : decode jdk_33_method_23_code 5 = .ok (.iload_n 1, 1) := by decide +kernel
theorem d5_6 : decode jdk_33_method_23_code 6 = .ok (.putfield 205, 3) := by decide +kernel
theorem d5_9 : decode jdk_33_method_23_code 9 = .ok (.return_, 1) := by decide +kernel
theorem pn_5 : plainFor (⟨"java/lang/Integer", "<init>", "(I)V"⟩ : MethodName) = true := plainFor_of_name (show plainName "java/lang/Integer" = true by first | (simp [plainName, overriddenIn]; done) | decide +kernel)
theorem pd_5 : parseMethodDescriptor "(I)V" = some ⟨[.int], none⟩ := by decide +kernel
theorem d6_0 : decode jdk_18_method_1_code 0 = .ok (.aload_n 0, 1) := by decide +kernel
theorem d6_1 : decode jdk_18_method_1_code 1 = .ok (.invokespecial 1, 3) := by decide +kernel
theorem d6_4 : decode jdk_18_method_1_code 4 = .ok (.return_, 1) := by decide +kernel
theorem pn_6 : plainFor (⟨"java/lang/Number", "<init>", "()V"⟩ : MethodName) = true := plainFor_of_name (show plainName "java/lang/Number" = true by first | (simp [plainName, overriddenIn]; done) | decide +kernel)
theorem pd_6 : parseMethodDescriptor "()V" = some ⟨[], none⟩ := by decide +kernel
set_option maxRecDepth 65536 in
set_option maxHeartbeats 40000000 in
theorem spec_1 (l : Launch) (Z : State) (a0 : Array Value) (hw : ∀ d ∈ tables_1, d.before a0 Z = true) (a : Addr) (h : Int32) (t : Int64) (v1 v2 : Value) (rest : OS) : OMeets l Z (⟨"com/example/lid12/lid12/ObjectId", "<init>", "(IJ)V"⟩ : MethodName) prog_2_method_1_code 4 none ({ frames := 1, cells := 0, slots := 0, locals := 12 } : Room) [(.ref a), (.int h), (.long t)] ((a, OBJ Z "com/example/lid12/lid12/ObjectId" [("com/example/lid12/lid12/ObjectId", "head", "I", v1), ("com/example/lid12/lid12/ObjectId", "tail", "J", v2)]) :: rest) (RetN fun os' => os' = (a, OBJ Z "com/example/lid12/lid12/ObjectId" [("com/example/lid12/lid12/ObjectId", "head", "I", .int h), ("com/example/lid12/lid12/ObjectId", "tail", "J", .long t)]) :: rest) := by
  refine OMeets.of_body [.val (.ref a), .val (.int h), .val (.long t), .second] pn_1 (laid_eq _ _ rfl) ?_
  intro X K
  refine W.aloadN K 1 d1_0 0 rfl rfl rfl ?_
  refine W.initO K 4 d1_1 (hw _ (List.mem_of_getElem? (i := 6) rfl)) (hw _ (List.mem_of_getElem? (i := 7) rfl)) (hw _ (List.mem_of_getElem? (i := 8) rfl)) ?_
  refine W.aloadN K 5 d1_4 0 rfl rfl rfl ?_
  refine W.iloadN K 6 d1_5 1 rfl rfl ?_
  refine W.putFf (ty := .int) K 9 d1_6 (hw _ (List.mem_of_getElem? (i := 9) rfl)) (hw _ (List.mem_of_getElem? (i := 10) rfl)) (hw _ (List.mem_of_getElem? (i := 1) rfl)) (by decide +kernel) (by repeat (first | exact Upd.here | apply Upd.there)) (by repeat (first | exact UpdF.here | apply UpdF.there)) ?_
  refine W.aloadN K 10 d1_9 0 rfl rfl rfl ?_
  refine W.lloadN K 11 d1_10 2 rfl rfl ?_
  refine W.putFf (ty := .long) K 14 d1_11 (hw _ (List.mem_of_getElem? (i := 11) rfl)) (hw _ (List.mem_of_getElem? (i := 12) rfl)) (hw _ (List.mem_of_getElem? (i := 1) rfl)) (by decide +kernel) (by repeat (first | exact Upd.here | apply Upd.there)) (by repeat (first | exact UpdF.here | apply UpdF.there)) ?_
  exact W.return K d1_14 ⟨rfl, rfl⟩
set_option maxRecDepth 65536 in
set_option maxHeartbeats 40000000 in
theorem spec_eqO (l : Launch) (Z : State) (a0 : Array Value) (hw : ∀ d ∈ tables_1, d.before a0 Z = true) (a e : Addr) (h1 h2 : Int32) (t1 t2 : Int64) (os : OS) (ha : (a, OBJ Z "com/example/lid12/lid12/ObjectId" [("com/example/lid12/lid12/ObjectId", "head", "I", .int h1), ("com/example/lid12/lid12/ObjectId", "tail", "J", .long t1)]) ∈ os) (he : (e, OBJ Z "com/example/lid12/lid12/ObjectId" [("com/example/lid12/lid12/ObjectId", "head", "I", .int h2), ("com/example/lid12/lid12/ObjectId", "tail", "J", .long t2)]) ∈ os) : OMeets l Z (⟨"com/example/lid12/lid12/ObjectId", "equals", "(Ljava/lang/Object;)Z"⟩ : MethodName) prog_2_method_18_code 3 (some .boolean) ({ frames := 0, cells := 0, slots := 0, locals := 0 } : Room) [(.ref a), (.ref e)] os (RetV fun v os' => v = .int (if h1 = h2 ∧ t1 = t2 then 1 else 0) ∧ os' = os) := by
  refine OMeets.of_body [.val (.ref a), .val (.ref e), .unset] pn_3 (laid_eq _ _ rfl) ?_
  intro X K
  refine W.aloadN K 1 d3_0 1 rfl rfl rfl ?_
  refine W.instY K 4 d3_1 (hw _ (List.mem_of_getElem? (i := 18) rfl)) (Rc.new he) ?_
  refine W.if_eq K 39 7 d3_4 (fun h4 => False.elim (absurd h4 (by decide))) (fun h4 => ?_)
  refine W.aloadN K 8 d3_7 1 rfl rfl rfl ?_
  refine W.castY K 11 d3_8 (hw _ (List.mem_of_getElem? (i := 18) rfl)) (Rc.new he) ?_
  refine W.astoreN K 12 d3_11 2 rfl rfl rfl (by repeat (first | apply setLS | exact setL0)) ?_
  refine W.aloadN K 13 d3_12 0 rfl rfl rfl ?_
  refine W.getF K 16 d3_13 (hw _ (List.mem_of_getElem? (i := 9) rfl)) ha (by repeat (first | exact List.mem_cons_self | apply List.mem_cons_of_mem)) ?_
  refine W.aloadN K 17 d3_16 2 rfl rfl rfl ?_
  refine W.getF K 20 d3_17 (hw _ (List.mem_of_getElem? (i := 9) rfl)) he (by repeat (first | exact List.mem_cons_self | apply List.mem_cons_of_mem)) ?_
  refine W.icmp_ne K 39 23 d3_20 (fun h20 => ?_) (fun h20 => ?_)
  · refine W.iconst K 40 d3_39 (0 : Int32) (by decide) ?_
    refine W.zreturn K d3_40 (Or.inl rfl) ⟨_, rfl, ?_, rfl⟩
    first | rw [if_neg (fun z => h20 z.1)] | rw [if_neg (fun z => h32 z.2)]
  · refine W.aloadN K 24 d3_23 0 rfl rfl rfl ?_
    refine W.getF K 27 d3_24 (hw _ (List.mem_of_getElem? (i := 11) rfl)) ha (by repeat (first | exact List.mem_cons_self | apply List.mem_cons_of_mem)) ?_
    refine W.aloadN K 28 d3_27 2 rfl rfl rfl ?_
    refine W.getF K 31 d3_28 (hw _ (List.mem_of_getElem? (i := 11) rfl)) he (by repeat (first | exact List.mem_cons_self | apply List.mem_cons_of_mem)) ?_
    refine W.lcmp_ne K 32 39 35 d3_31 d3_32 (fun h32 => ?_) (fun h32 => ?_)
    · refine W.iconst K 40 d3_39 (0 : Int32) (by decide) ?_
      refine W.zreturn K d3_40 (Or.inl rfl) ⟨_, rfl, ?_, rfl⟩
      first | rw [if_neg (fun z => h20 z.1)] | rw [if_neg (fun z => h32 z.2)]
    · refine W.iconst K 36 d3_35 (1 : Int32) (by decide) ?_
      refine W.goto K 40 d3_36 ?_
      refine W.zreturn K d3_40 (Or.inr rfl) ⟨_, rfl, ?_, rfl⟩
      rw [if_pos ⟨h20, h32⟩]
set_option maxRecDepth 65536 in
set_option maxHeartbeats 40000000 in
theorem spec_eqN (l : Launch) (Z : State) (a0 : Array Value) (hw : ∀ d ∈ tables_1, d.before a0 Z = true) (a : Addr) (os : OS) : OMeets l Z (⟨"com/example/lid12/lid12/ObjectId", "equals", "(Ljava/lang/Object;)Z"⟩ : MethodName) prog_2_method_18_code 3 (some .boolean) ({ frames := 0, cells := 0, slots := 0, locals := 0 } : Room) [(.ref a), .null] os (RetV fun v os' => v = .int 0 ∧ os' = os) := by
  refine OMeets.of_body [.val (.ref a), .val .null, .unset] pn_3 (laid_eq _ _ rfl) ?_
  intro X K
  refine W.aloadN K 1 d3_0 1 rfl rfl rfl ?_
  refine W.instNull K 4 d3_1 ?_
  refine W.if_eq K 39 7 d3_4 (fun h4 => ?_) (fun h4 => False.elim (h4 rfl))
  refine W.iconst K 40 d3_39 (0 : Int32) (by decide) ?_
  refine W.zreturn K d3_40 (Or.inl rfl) ⟨_, rfl, ?_, rfl⟩
  rfl
set_option maxRecDepth 65536 in
set_option maxHeartbeats 40000000 in
theorem spec_eqX (l : Launch) (Z : State) (a0 : Array Value) (hw : ∀ d ∈ tables_1, d.before a0 Z = true) (a e : Addr) (os : OS) (hE : ∀ h, Hp Z h os → Exa Z h e "java/lang/Integer") (hN : ∃ c t, Z.vm.findClass "java/lang/Integer" = some c ∧ Z.vm.findClass "com/example/lid12/lid12/ObjectId" = some t ∧ Z.vm.assignable c t = false) : OMeets l Z (⟨"com/example/lid12/lid12/ObjectId", "equals", "(Ljava/lang/Object;)Z"⟩ : MethodName) prog_2_method_18_code 3 (some .boolean) ({ frames := 0, cells := 0, slots := 0, locals := 0 } : Room) [(.ref a), (.ref e)] os (RetV fun v os' => v = .int 0 ∧ os' = os) := by
  refine OMeets.of_body [.val (.ref a), .val (.ref e), .unset] pn_3 (laid_eq _ _ rfl) ?_
  intro X K
  refine W.aloadN K 1 d3_0 1 rfl rfl rfl ?_
  refine W.instNo K 4 d3_1 (hw _ (List.mem_of_getElem? (i := 18) rfl)) hE hN ?_
  refine W.if_eq K 39 7 d3_4 (fun h4 => ?_) (fun h4 => False.elim (h4 rfl))
  refine W.iconst K 40 d3_39 (0 : Int32) (by decide) ?_
  refine W.zreturn K d3_40 (Or.inl rfl) ⟨_, rfl, ?_, rfl⟩
  rfl
set_option maxRecDepth 65536 in
set_option maxHeartbeats 40000000 in
theorem spec_6 (l : Launch) (Z : State) (a0 : Array Value) (hw : ∀ d ∈ tables_1, d.before a0 Z = true) (a : Addr) (os : OS) : OMeets l Z (⟨"java/lang/Number", "<init>", "()V"⟩ : MethodName) jdk_18_method_1_code 1 none ({ frames := 1, cells := 0, slots := 0, locals := 12 } : Room) [(.ref a)] os (RetN fun os' => os' = os) := by
  refine OMeets.of_body [.val (.ref a)] pn_6 (laid_eq _ _ rfl) ?_
  intro X K
  refine W.aloadN K 1 d6_0 0 rfl rfl rfl ?_
  refine W.initO K 4 d6_1 (hw _ (List.mem_of_getElem? (i := 42) rfl)) (hw _ (List.mem_of_getElem? (i := 7) rfl)) (hw _ (List.mem_of_getElem? (i := 8) rfl)) ?_
  exact W.return K d6_4 ⟨rfl, rfl⟩
set_option maxRecDepth 65536 in
set_option maxHeartbeats 40000000 in
theorem spec_5 (l : Launch) (Z : State) (a0 : Array Value) (hw : ∀ d ∈ tables_1, d.before a0 Z = true) (a : Addr) (z : Int32) (v0 : Value) (rest : OS) : OMeets l Z (⟨"java/lang/Integer", "<init>", "(I)V"⟩ : MethodName) jdk_33_method_23_code 2 none ({ frames := 2, cells := 0, slots := 0, locals := 24 } : Room) [(.ref a), (.int z)] ((a, OBJ Z "java/lang/Integer" [("java/lang/Integer", "value", "I", v0)]) :: rest) (RetN fun os' => os' = (a, OBJ Z "java/lang/Integer" [("java/lang/Integer", "value", "I", .int z)]) :: rest) := by
  refine OMeets.of_body [.val (.ref a), .val (.int z)] pn_5 (laid_eq _ _ rfl) ?_
  intro X K
  refine W.aloadN K 1 d5_0 0 rfl rfl rfl ?_
  refine W.callIn0 K 4 d5_1 (hw _ (List.mem_of_getElem? (i := 36) rfl)) (hw _ (List.mem_of_getElem? (i := 37) rfl)) (hw _ (List.mem_of_getElem? (i := 40) rfl)) (hw _ (List.mem_of_getElem? (i := 41) rfl)) pd_6 (spec_6 l Z a0 hw _ _) (fun os1 hq => ?_)
  obtain rfl := hq
  refine W.aloadN K 5 d5_4 0 rfl rfl rfl ?_
  refine W.iloadN K 6 d5_5 1 rfl rfl ?_
  refine W.putFf (ty := .int) K 9 d5_6 (hw _ (List.mem_of_getElem? (i := 43) rfl)) (hw _ (List.mem_of_getElem? (i := 44) rfl)) (hw _ (List.mem_of_getElem? (i := 31) rfl)) (by decide +kernel) (by repeat (first | exact Upd.here | apply Upd.there)) (by repeat (first | exact UpdF.here | apply UpdF.there)) ?_
  exact W.return K d5_9 ⟨rfl, rfl⟩
set_option maxRecDepth 65536 in
set_option maxHeartbeats 40000000 in
theorem spec_4 (l : Launch) (Z : State) (a0 : Array Value) (hw : ∀ d ∈ tables_1, d.before a0 Z = true) (z : Int32) (ac : Addr) (cc : Cell) (SH : Sta Z Z.heap "java/lang/Integer$IntegerCache" "high" "I" (.int 127)) (SC : Sta Z Z.heap "java/lang/Integer$IntegerCache" "cache" "[Ljava/lang/Integer;" (.ref ac)) (AC : Arr Z Z.heap ac cc (.object "java/lang/Integer")) (HC : ∀ i, i < 256 → ∃ a, cc.slots[i]? = some (.ref a) ∧ Exa Z Z.heap a "java/lang/Integer") (os : OS) : OMeets l Z (⟨"java/lang/Integer", "valueOf", "(I)Ljava/lang/Integer;"⟩ : MethodName) jdk_33_method_22_code 1 (some (.object "java/lang/Integer")) ({ frames := 3, cells := 1, slots := 1, locals := 50 } : Room) [(.int z)] os (RetV fun v os' => ∃ a : Addr, v = .ref a ∧ (∀ h, Hp Z h os' → Exa Z h a "java/lang/Integer") ∧ ∀ x, x ∈ os → x ∈ os') := by
  have e1 : (-128 : Int32).toInt = -128 := by decide
  have e2 : (127 : Int32).toInt = 127 := by decide
  have e3 : (128 : Int32).toInt = 128 := by decide
  refine OMeets.of_body [.val (.int z)] pn_4 (laid_eq _ _ rfl) ?_
  intro X K
  refine W.iloadN K 1 d4_0 0 rfl rfl ?_
  refine W.bipush K 3 d4_1 (-128 : Int32) (by decide) ?_
  refine W.icmp_lt K 23 6 d4_3 (fun h3 => ?_) (fun h3 => ?_)
  · refine W.new [("java/lang/Integer", "value", "I", .int 0)] K 26 d4_23 (hw _ (List.mem_of_getElem? (i := 30) rfl)) (hw _ (List.mem_of_getElem? (i := 31) rfl)) (hw _ (List.mem_of_getElem? (i := 22) rfl)) ⟨⟨Or.inr (hw _ (List.mem_of_getElem? (i := 44) rfl)), .int, by decide +kernel, rfl⟩, trivial⟩ (fun b23 => ?_)
    refine W.dup K 27 d4_26 ?_
    refine W.iloadN K 28 d4_27 0 rfl rfl ?_
    refine W.callIn1 K 31 d4_28 (hw _ (List.mem_of_getElem? (i := 32) rfl)) (hw _ (List.mem_of_getElem? (i := 33) rfl)) (hw _ (List.mem_of_getElem? (i := 22) rfl)) (hw _ (List.mem_of_getElem? (i := 35) rfl)) pd_5 (spec_5 l Z a0 hw _ _ _ _) (fun os1 hq => ?_)
    obtain rfl := hq
    refine W.areturn K d4_31 ⟨_, rfl, _, rfl, Rc.new List.mem_cons_self, fun x hx => List.mem_cons_of_mem _ hx⟩
  · refine W.iloadN K 7 d4_6 0 rfl rfl ?_
    refine W.getS K 10 d4_7 (hw _ (List.mem_of_getElem? (i := 24) rfl)) SH ?_
    refine W.icmp_gt K 23 13 d4_10 (fun h10 => ?_) (fun h10 => ?_)
    · refine W.new [("java/lang/Integer", "value", "I", .int 0)] K 26 d4_23 (hw _ (List.mem_of_getElem? (i := 30) rfl)) (hw _ (List.mem_of_getElem? (i := 31) rfl)) (hw _ (List.mem_of_getElem? (i := 22) rfl)) ⟨⟨Or.inr (hw _ (List.mem_of_getElem? (i := 44) rfl)), .int, by decide +kernel, rfl⟩, trivial⟩ (fun b23 => ?_)
      refine W.dup K 27 d4_26 ?_
      refine W.iloadN K 28 d4_27 0 rfl rfl ?_
      refine W.callIn1 K 31 d4_28 (hw _ (List.mem_of_getElem? (i := 32) rfl)) (hw _ (List.mem_of_getElem? (i := 33) rfl)) (hw _ (List.mem_of_getElem? (i := 22) rfl)) (hw _ (List.mem_of_getElem? (i := 35) rfl)) pd_5 (spec_5 l Z a0 hw _ _ _ _) (fun os1 hq => ?_)
      obtain rfl := hq
      refine W.areturn K d4_31 ⟨_, rfl, _, rfl, Rc.new List.mem_cons_self, fun x hx => List.mem_cons_of_mem _ hx⟩
    · refine W.getS K 16 d4_13 (hw _ (List.mem_of_getElem? (i := 26) rfl)) SC ?_
      refine W.iloadN K 17 d4_16 0 rfl rfl ?_
      refine W.sipush K 20 d4_17 (128 : Int32) (by decide) ?_
      refine W.iadd K 21 d4_20 ?_
      obtain ⟨aa, hv, hE⟩ := HC (z.toInt + 128).toNat (by omega)
      refine W.aaloadO (z.toInt + 128).toNat K 22 d4_21 AC rfl (by rw [toInt_add32 (x := z) rfl e3 (by omega) (by omega)]; omega) hv ?_
      refine W.areturn K d4_22 ⟨_, rfl, aa, rfl, Rc.old hE, fun x hx => hx⟩
theorem own_no {Z : State} {a0 : Array Value} (w0 : (Jvm.Cond.noSuperclass "java/lang/Object").before a0 Z = true) (w1 : (Jvm.Cond.superclass "java/lang/Number" "java/lang/Object").before a0 Z = true) (w2 : (Jvm.Cond.superclass "java/lang/Integer" "java/lang/Number").before a0 Z = true) (wi : (Jvm.Cond.instantiable "com/example/lid12/lid12/ObjectId" 2).before a0 Z = true) :
    ∃ c t, Z.vm.findClass "java/lang/Integer" = some c ∧ Z.vm.findClass "com/example/lid12/lid12/ObjectId" = some t ∧ Z.vm.assignable c t = false := by
  obtain ⟨t, kt, g1, g2, g3, g4, -⟩ := Cond.instantiable_spec wi
  obtain ⟨c, k, h1, h2, h3, -, -⟩ := Cond.noSuperclass_spec w0
  have ne := ids_ne h1 g1 (by decide)
  have n0 : NS Z "java/lang/Object" "com/example/lid12/lid12/ObjectId" := ⟨c, t, h1, g1, fun fuel => by
    cases fuel with
    | zero => rfl
    | succ f => simp [Vm.isSubclassAux, ne, h2, h3]⟩
  have n2 := NS.step w2 (NS.step w1 n0 (by decide)) (by decide)
  obtain ⟨c', t', f1, f2, f3⟩ := n2
  cases g1.symm.trans f2
  obtain ⟨p, k', kp, q1, q2, q3, q4, q5, -⟩ := Cond.superclass_spec f1 w2
  have ne2 := ids_ne f1 g1 (by decide)
  refine ⟨c', t, f1, g1, ?_⟩
  have g5 : kt.isInterface = false := by
    cases hq : kt.isInterface with
    | false => rfl
    | true => rw [hq] at g4; simp at g4
  show Z.vm.assignableAux (255 + 1) c' t = false
  simp [Vm.assignableAux, ne2, q2, g2, q5, g3, g5, Vm.isSubclass, f3]
theorem own_fold {f : Nat → Option Bool} : ∀ (L : List Nat) (a : Option Bool), L.foldl (fun acc i => match acc with | some true => f i | x => x) a = some true → a = some true ∧ ∀ i ∈ L, f i = some true
  | [], a, h => ⟨h, fun i hi => nomatch hi⟩
  | x :: r, a, h => by
    obtain ⟨h1, h2⟩ := own_fold r _ h
    match a, h1 with
    | some true, h1 => exact ⟨rfl, fun i hi => by
        rcases List.mem_cons.mp hi with rfl | hi
        · exact h1
        · exact h2 i hi⟩
theorem own_len {args : Array Value} {s : State} {t : Term} {a : Addr} {cl : Cell} {v : Value} (ht : t.eval args s none [] s = some (.ref a)) (hc : s.arrayAt? a = some cl) (h : (Term.length t).eval args s none [] s = some v) : cl.slots.size < 2 ^ 31 := by
  by_cases q : cl.slots.size < 2 ^ 31
  · exact q
  · simp [Term.eval, ht, hc] at h
    omega
theorem own_all {args : Array Value} {s : State} {t : Term} {cd : Jvm.Cond} {a : Addr} {cl : Cell} (ht : t.eval args s none [] s = some (.ref a)) (hc : s.arrayAt? a = some cl) (h : (Jvm.Cond.all t cd).value args s none s [] = some true) : ∀ i, i < cl.slots.size → cd.value args s none s [i] = some true := by
  simp only [Jvm.Cond.value, ht, hc] at h
  intro i hi
  exact (own_fold _ _ h).2 i (List.mem_range.mpr hi)
theorem own_sym (h1 h2 : Int32) (t1 t2 : Int64) : (if h1 = h2 ∧ t1 = t2 then (1 : Int32) else 0) = if h2 = h1 ∧ t2 = t1 then 1 else 0 := by
  by_cases q : h1 = h2 ∧ t1 = t2
  · rw [if_pos q, if_pos ⟨q.1.symm, q.2.symm⟩]
  · rw [if_neg q, if_neg (fun z => q ⟨z.1.symm, z.2.symm⟩)]
set_option maxRecDepth 65536 in
set_option maxHeartbeats 40000000 in
theorem spec_0 (l : Launch) (Z : State) (a0 : Array Value) (hw : ∀ d ∈ tables_1, d.before a0 Z = true) (h1 : Int32) (t1 : Int64) (h2 : Int32) (t2 : Int64) (sel : Int32) (ac : Addr) (cc : Cell) (SH : Sta Z Z.heap "java/lang/Integer$IntegerCache" "high" "I" (.int 127)) (SC : Sta Z Z.heap "java/lang/Integer$IntegerCache" "cache" "[Ljava/lang/Integer;" (.ref ac)) (AC : Arr Z Z.heap ac cc (.object "java/lang/Integer")) (HC : ∀ i, i < 256 → ∃ a, cc.slots[i]? = some (.ref a) ∧ Exa Z Z.heap a "java/lang/Integer") : OMeets l Z x code maxLocals ret room_1 [(.int h1), (.long t1), (.int h2), (.long t2), (.int sel)] [] (RetV fun v _ => v = .int 1) := by
  have hN := own_no (hw _ (List.mem_of_getElem? (i := 29) rfl)) (hw _ (List.mem_of_getElem? (i := 28) rfl)) (hw _ (List.mem_of_getElem? (i := 27) rfl)) (hw _ (List.mem_of_getElem? (i := 1) rfl))
  refine OMeets.of_body [.val (.int h1), .val (.long t1), .second, .val (.int h2), .val (.long t2), .second, .val (.int sel), .unset, .unset, .unset, .unset, .unset, .unset, .unset, .unset, .unset, .unset, .unset, .unset] pn_0 (laid_eq _ _ rfl) ?_
  intro X K
  refine W.iload K 2 at_0 rfl ?_
  refine W.iconst K 3 at_2 (1 : Int32) (by decide) ?_
  refine W.iand K 4 at_3 ?_
  refine W.bool 12 (1 : Int32) (0 : Int32) K (W.if_eq K 11 7 at_4) at_7 at_8 at_11 ?_
  generalize (if sel &&& 1 = 0 then (0 : Int32) else 1) = b1
  refine W.istore K 14 at_12 rfl (by repeat (first | apply setLS | exact setL0)) ?_
  refine W.iload K 16 at_14 rfl ?_
  refine W.iconst K 17 at_16 (2 : Int32) (by decide) ?_
  refine W.iand K 18 at_17 ?_
  refine W.bool 26 (1 : Int32) (0 : Int32) K (W.if_eq K 25 21 at_18) at_21 at_22 at_25 ?_
  generalize (if sel &&& 2 = 0 then (0 : Int32) else 1) = b2
  refine W.istore K 28 at_26 rfl (by repeat (first | apply setLS | exact setL0)) ?_
  refine W.iload K 30 at_28 rfl ?_
  refine W.selI 38 (W.if_eq K 37 33 at_30) (fun k => (W.iloadN K 38 at_37 3 rfl rfl k)) (fun k => (W.iloadN K 34 at_33 0 rfl rfl (W.goto K 38 at_34 k))) ?_
  generalize (if b1 = 0 then h2 else h1) = hd2
  refine W.istore K 40 at_38 rfl (by repeat (first | apply setLS | exact setL0)) ?_
  refine W.iload K 42 at_40 rfl ?_
  refine W.selL 51 (W.if_eq K 49 45 at_42) (fun k => (W.lload K 51 at_49 rfl k)) (fun k => (W.lloadN K 46 at_45 1 rfl rfl (W.goto K 51 at_46 k))) ?_
  generalize (if b2 = 0 then t2 else t1) = tl2
  refine W.lstore K 53 at_51 (by repeat (first | apply setLS | exact setL0)) (by repeat (first | apply setLS | exact setL0)) ?_
  refine W.new [("com/example/lid12/lid12/ObjectId", "head", "I", .int 0), ("com/example/lid12/lid12/ObjectId", "tail", "J", .long 0)] K 56 at_53 (hw _ (List.mem_of_getElem? (i := 0) rfl)) (hw _ (List.mem_of_getElem? (i := 1) rfl)) (hw _ (List.mem_of_getElem? (i := 2) rfl)) ⟨⟨Or.inr (hw _ (List.mem_of_getElem? (i := 10) rfl)), .int, by decide +kernel, rfl⟩, ⟨Or.inr (hw _ (List.mem_of_getElem? (i := 12) rfl)), .long, by decide +kernel, rfl⟩, trivial⟩ (fun b53 => ?_)
  refine W.dup K 57 at_56 ?_
  refine W.iloadN K 58 at_57 0 rfl rfl ?_
  refine W.lloadN K 59 at_58 1 rfl rfl ?_
  refine W.callIn2 K 62 at_59 (hw _ (List.mem_of_getElem? (i := 3) rfl)) (hw _ (List.mem_of_getElem? (i := 4) rfl)) (hw _ (List.mem_of_getElem? (i := 2) rfl)) (hw _ (List.mem_of_getElem? (i := 5) rfl)) pd_1 (spec_1 l Z a0 hw _ _ _ _ _ _) (fun os1 hq => ?_)
  obtain rfl := hq
  refine W.astore K 64 at_62 rfl rfl (by repeat (first | apply setLS | exact setL0)) ?_
  refine W.new [("com/example/lid12/lid12/ObjectId", "head", "I", .int 0), ("com/example/lid12/lid12/ObjectId", "tail", "J", .long 0)] K 67 at_64 (hw _ (List.mem_of_getElem? (i := 0) rfl)) (hw _ (List.mem_of_getElem? (i := 1) rfl)) (hw _ (List.mem_of_getElem? (i := 2) rfl)) ⟨⟨Or.inr (hw _ (List.mem_of_getElem? (i := 10) rfl)), .int, by decide +kernel, rfl⟩, ⟨Or.inr (hw _ (List.mem_of_getElem? (i := 12) rfl)), .long, by decide +kernel, rfl⟩, trivial⟩ (fun b64 => ?_)
  refine W.dup K 68 at_67 ?_
  refine W.iload K 70 at_68 rfl ?_
  refine W.lload K 72 at_70 rfl ?_
  refine W.callIn2 K 75 at_72 (hw _ (List.mem_of_getElem? (i := 3) rfl)) (hw _ (List.mem_of_getElem? (i := 4) rfl)) (hw _ (List.mem_of_getElem? (i := 2) rfl)) (hw _ (List.mem_of_getElem? (i := 5) rfl)) pd_1 (spec_1 l Z a0 hw _ _ _ _ _ _) (fun os1 hq => ?_)
  obtain rfl := hq
  refine W.astore K 77 at_75 rfl rfl (by repeat (first | apply setLS | exact setL0)) ?_
  refine W.joinI (S := []) (F := hd2 = h1 ∧ tl2 = t1) 95 (fun kt kf => ?_) ?_
  · refine W.iload K 79 at_77 rfl ?_
    refine W.iloadN K 80 at_79 0 rfl rfl ?_
    refine W.icmp_ne K 94 83 at_80 (fun h80 => ?_) (fun h80 => ?_)
    · refine W.iconst K 95 at_94 (0 : Int32) (by decide) ?_
      exact kf (by first | exact fun z => h80 z.1 | exact fun z => h87 z.2)
    · refine W.lload K 85 at_83 rfl ?_
      refine W.lloadN K 86 at_85 1 rfl rfl ?_
      refine W.lcmp_ne K 87 94 90 at_86 at_87 (fun h87 => ?_) (fun h87 => ?_)
      · refine W.iconst K 95 at_94 (0 : Int32) (by decide) ?_
        exact kf (by first | exact fun z => h80 z.1 | exact fun z => h87 z.2)
      · refine W.iconst K 91 at_90 (1 : Int32) (by decide) ?_
        refine W.goto K 95 at_91 ?_
        exact kt (⟨h80, h87⟩)
  refine W.istore K 97 at_95 rfl (by repeat (first | apply setLS | exact setL0)) ?_
  refine W.aload K 99 at_97 rfl rfl ?_
  refine W.aload K 101 at_99 rfl rfl ?_
  refine W.callVv1 K 104 at_101 (hw _ (List.mem_of_getElem? (i := 13) rfl)) (hw _ (List.mem_of_getElem? (i := 14) rfl)) (hw _ (List.mem_of_getElem? (i := 16) rfl)) (hw _ (List.mem_of_getElem? (i := 15) rfl)) (hw _ (List.mem_of_getElem? (i := 2) rfl)) (hw _ (List.mem_of_getElem? (i := 17) rfl)) pd_3 (Rc.new (by repeat (first | exact List.mem_cons_self | apply List.mem_cons_of_mem))) (spec_eqO l Z a0 hw _ _ _ _ _ _ _ (by repeat (first | exact List.mem_cons_self | apply List.mem_cons_of_mem)) (by repeat (first | exact List.mem_cons_self | apply List.mem_cons_of_mem))) (fun v os1 hq => ?_)
  obtain ⟨rfl, rfl⟩ := hq
  refine W.istore K 106 at_104 rfl (by repeat (first | apply setLS | exact setL0)) ?_
  refine W.aload K 108 at_106 rfl rfl ?_
  refine W.aload K 110 at_108 rfl rfl ?_
  refine W.callVv1 K 113 at_110 (hw _ (List.mem_of_getElem? (i := 13) rfl)) (hw _ (List.mem_of_getElem? (i := 14) rfl)) (hw _ (List.mem_of_getElem? (i := 16) rfl)) (hw _ (List.mem_of_getElem? (i := 15) rfl)) (hw _ (List.mem_of_getElem? (i := 2) rfl)) (hw _ (List.mem_of_getElem? (i := 17) rfl)) pd_3 (Rc.new (by repeat (first | exact List.mem_cons_self | apply List.mem_cons_of_mem))) (spec_eqO l Z a0 hw _ _ _ _ _ _ _ (by repeat (first | exact List.mem_cons_self | apply List.mem_cons_of_mem)) (by repeat (first | exact List.mem_cons_self | apply List.mem_cons_of_mem))) (fun v os1 hq => ?_)
  obtain ⟨rfl, rfl⟩ := hq
  refine W.istore K 115 at_113 rfl (by repeat (first | apply setLS | exact setL0)) ?_
  refine W.aload K 117 at_115 rfl rfl ?_
  refine W.aconst K 118 at_117 ?_
  refine W.callVv1 K 121 at_118 (hw _ (List.mem_of_getElem? (i := 13) rfl)) (hw _ (List.mem_of_getElem? (i := 14) rfl)) (hw _ (List.mem_of_getElem? (i := 16) rfl)) (hw _ (List.mem_of_getElem? (i := 15) rfl)) (hw _ (List.mem_of_getElem? (i := 2) rfl)) (hw _ (List.mem_of_getElem? (i := 17) rfl)) pd_3 (Rc.new (by repeat (first | exact List.mem_cons_self | apply List.mem_cons_of_mem))) (spec_eqN l Z a0 hw _ _) (fun v os1 hq => ?_)
  obtain ⟨rfl, rfl⟩ := hq
  refine W.istore K 123 at_121 rfl (by repeat (first | apply setLS | exact setL0)) ?_
  refine W.aload K 125 at_123 rfl rfl ?_
  refine W.iloadN K 126 at_125 0 rfl rfl ?_
  refine W.callSv1 K 129 at_126 (hw _ (List.mem_of_getElem? (i := 20) rfl)) (hw _ (List.mem_of_getElem? (i := 21) rfl)) (hw _ (List.mem_of_getElem? (i := 22) rfl)) (hw _ (List.mem_of_getElem? (i := 23) rfl)) pd_4 (spec_4 l Z a0 hw _ ac cc SH SC AC HC _) (fun v os1 hq => ?_)
  obtain ⟨ai, rfl, hEi, hsub⟩ := hq
  refine W.callVv1 K 132 at_129 (hw _ (List.mem_of_getElem? (i := 13) rfl)) (hw _ (List.mem_of_getElem? (i := 14) rfl)) (hw _ (List.mem_of_getElem? (i := 16) rfl)) (hw _ (List.mem_of_getElem? (i := 15) rfl)) (hw _ (List.mem_of_getElem? (i := 2) rfl)) (hw _ (List.mem_of_getElem? (i := 17) rfl)) pd_3 (Rc.new (hsub _ (by repeat (first | exact List.mem_cons_self | apply List.mem_cons_of_mem)))) (spec_eqX l Z a0 hw _ _ _ hEi hN) (fun v os1 hq => ?_)
  obtain ⟨rfl, rfl⟩ := hq
  refine W.istore K 134 at_132 rfl (by repeat (first | apply setLS | exact setL0)) ?_
  refine W.iload K 136 at_134 rfl ?_
  refine W.iload K 138 at_136 rfl ?_
  refine W.icmp_ne K 162 141 at_138 (fun h138 => False.elim (h138 (own_sym _ _ _ _))) (fun h138 => ?_)
  refine W.iload K 143 at_141 rfl ?_
  refine W.iload K 145 at_143 rfl ?_
  refine W.icmp_ne K 162 148 at_145 (fun h145 => False.elim (h145 rfl)) (fun h145 => ?_)
  refine W.iload K 150 at_148 rfl ?_
  refine W.if_ne K 162 153 at_150 (fun h150 => False.elim (h150 rfl)) (fun h150 => ?_)
  refine W.iload K 155 at_153 rfl ?_
  refine W.if_ne K 162 158 at_155 (fun h155 => False.elim (h155 rfl)) (fun h155 => ?_)
  refine W.iconst K 159 at_158 (1 : Int32) (by decide) ?_
  refine W.goto K 163 at_159 ?_
  refine W.zreturn K at_163 (Or.inr rfl) ⟨_, rfl, rfl⟩
set_option maxRecDepth 65536 in
set_option maxHeartbeats 40000000 in
theorem comes_1 {Post : Tables → Env → Array Value → State → Outcome → State → Prop} (hpost : ∀ tb e args s v u, (limb_1_1.after args s (.returned v) u = true ∧ limb_1_2.after args s (.returned v) u = true ∧ True) → FrameEnd s (.returned v) u (Jvm.fieldLocs frame_1_writes args s ++ Jvm.arrayLocs frame_1_arrays args s ++ Jvm.staticLocs frame_1_statics s) 16 128 → Post tb e args s (.returned v) u) :
    ArmFor flags0 classFile x code maxLocals ret World_1 tables_1 room_1 Calls_1 rest_1 Pre_1 Post := by
  intro l hfl _ _ p e ha hc hk s m args below hf hA hF happ hP
  obtain ⟨hcalls, hrest, hpre⟩ := hP
  obtain ⟨-, -, -, hnamed, -, -, -, hat⟩ := (Spec.applies_iff hf).mp happ
  obtain ⟨hg, hn⟩ := and_e (Cond.before_iff.mp (show (Jvm.Cond.and given_1 narrow_1).before args s = true from hpre))
  obtain ⟨gc, g0⟩ := and_e hg
  obtain ⟨k0, g1⟩ := and_e g0
  obtain ⟨k1, g2⟩ := and_e g1
  obtain ⟨k2, g3⟩ := and_e g2
  obtain ⟨k3, g4⟩ := and_e g3
  have k4 := g4
  obtain ⟨w0, w1, w2, w3, w4, rfl⟩ : ∃ w0 w1 w2 w3 w4 : Value, args = #[w0, w1, w2, w3, w4] := by
    have hs : args.size = 5 := by simpa [Cond.value, given_1] using gc
    obtain ⟨L⟩ := args
    match L, hs with
    | [w0, w1, w2, w3, w4], _ => exact ⟨w0, w1, w2, w3, w4, rfl⟩
  have hw := fun d (hd : d ∈ tables_1) => atoms_spec (ws := Jvm.Cond.code x code maxLocals ret :: tables_1) hat d (List.mem_cons_of_mem _ hd)
  have hfit : Fit s := fun {y c} hc i hi => by
    obtain ⟨ha, rfl⟩ := Array.getElem?_eq_some_iff.mp hc
    have q := List.all_eq_true.mp ((Array.all_eq_true_iff_forall_mem.mp hF) _ (Array.getElem_mem ha)) i (List.mem_range.mpr hi)
    simpa [Array.getElem?_eq_getElem hi] using q
  obtain ⟨i0, ei0⟩ := is_v k0
  obtain rfl : w0 = (.int i0) := Option.some.inj ei0
  obtain ⟨i1, ei1⟩ := isL_v k1
  obtain rfl : w1 = (.long i1) := Option.some.inj ei1
  obtain ⟨i2, ei2⟩ := is_v k2
  obtain rfl : w2 = (.int i2) := Option.some.inj ei2
  obtain ⟨i3, ei3⟩ := isL_v k3
  obtain rfl : w3 = (.long i3) := Option.some.inj ei3
  obtain ⟨i4, ei4⟩ := is_v k4
  obtain rfl : w4 = (.int i4) := Option.some.inj ei4
  obtain ⟨hsets, -⟩ := atoms_of _ (rest_1_c_eq ▸ (show rest_1_c.before _ s = true from hrest))
  have st := fun k d (h : jdkStatics_1[k]? = some d) => Cond.before_iff.mp (hsets d (List.mem_of_getElem? h))
  obtain ⟨ac, evC⟩ := arr_v (st 4 _ rfl)
  obtain ⟨cc, AC⟩ := Arr.start evC (st 4 _ rfl)
  have SC := Sta.start evC (Or.inr ⟨(hw _ (List.mem_of_getElem? (i := 25) rfl)), hsets _ (List.mem_of_getElem? (i := 2) rfl)⟩)
  obtain ⟨x3, y3, ex3, ey3, kx3, ky3⟩ := cmp_v (Or.inl (st 3 _ rfl))
  obtain rfl : y3 = .int 127 := (Option.some.inj ey3).symm
  obtain ⟨z3, rfl⟩ : ∃ z, x3 = .int z := ky3
  have q3 := st 3 _ rfl
  simp [Jvm.Cond.value, ex3, ey3] at q3
  subst q3
  have SH := Sta.start ex3 (Or.inl (hsets _ (List.mem_of_getElem? (i := 1) rfl)))
  have hAt : s.arrayAt? ac = some cc := Arr.fin (Vm.Alike.refl _) AC
  obtain ⟨x6, y6, ex6, ey6, kx6, ky6⟩ := cmp_v (Or.inl (st 6 _ rfl))
  have q6 := st 6 _ rfl
  obtain ⟨a6, c6, f6, f7, f8⟩ := Term.length_spec ex6
  cases evC.symm.trans f6
  cases hAt.symm.trans f7
  subst f8
  obtain rfl : y6 = .int 256 := (Option.some.inj ey6).symm
  simp [Jvm.Cond.value, ex6, ey6] at q6
  have hall := own_all evC hAt (st 7 _ rfl)
  have HC : ∀ i, i < 256 → ∃ a, cc.slots[i]? = some (.ref a) ∧ Exa s s.heap a "java/lang/Integer" := by
    intro i hi
    have hsz : cc.slots.size < 2 ^ 31 := own_len evC hAt ex6
    have hs2 : (cc.slots.size : Int) = 256 := by
      have q7 := congrArg Int32.toInt q6
      rw [len_toInt hsz] at q7
      exact q7.trans (by decide)
    have e1 := (and_e (hall i (by omega))).1
    obtain ⟨a, c1, cell, k, r1, r2, r3, r4, r5, r6, r7⟩ := Cond.exactly_spec (beq_iff_eq.mpr e1)
    have r8 := (elem_in r1 evC (j := i.toInt32) rfl AC.1).2
    have r9 : i.toInt32.toNatClampNeg = i := by show (i.toInt32.toInt).toNat = i; rw [len_toInt (by omega)]; rfl
    rw [r9] at r8
    subst r6
    exact ⟨a, r8, cell, k, r3, r2, r4, r5, r7⟩
  obtain ⟨n, o, h1, h2, h3, _, L, rfl, ⟨os1, ⟨_, rfl, rfl⟩, -, N⟩, hq⟩ := spec_0 l s _ hw i0 i1 i2 i3 i4 ac cc SH SC AC HC s.heap (Hp.nil s) tables_1 p e ha hc hk s m _ below hf ((Spec.applies_iff_loose hf).mp happ).1 ⟨rfl, State.Warmed39.refl s, rfl⟩ trivial
  refine ⟨n, _, h1, h2, h3, hpost _ _ _ _ _ _ ⟨Cond.after_iff.mpr rfl, Cond.after_iff.mpr (eq_i res_at (Term.int_eval (1)) rfl), trivial⟩ ⟨hq.1, hq.2.1, (hq.2.2.sift fun y hy => Or.inr (N y hy)).mono (by decide) (by decide)⟩⟩
theorem main_1_1 : Claimed_1_1 := comes_1 fun _ _ _ _ _ _ h hF => ⟨h.1, hF⟩
theorem main_1_2 : Claimed_1_2 := comes_1 fun _ _ _ _ _ _ h hF => ⟨h.2.1, hF⟩
end Jvm.Pilot.@@N@@
namespace Jvm.Pilot.@@N@@
open Jvm Jvm.ClassFile Sem Op Lib Jvm.Free Jvm.Stand Jvm.Pilot.@@N@@.Jvm.D
/-! MADE BY PROGRAM (witnessworld.py) out of the Statement's table words and the real class files: 16 classes; the members and pool entries that the words name. The judged class is class 1, her method 1. -/
namespace start1
open Jvm.ClassFile
def u (s : String) : CpInfo := .utf8 (stringToUtf16 s)
/-- a pool by its gaps: so many unusable entries, then the entry; so many at the end -/
def gap : Nat → List CpInfo → List CpInfo
  | 0, r => r
  | n + 1, r => .unusable :: gap n r
def poolList (es : List (Nat × CpInfo)) (last : Nat) : List CpInfo := es.foldr (fun e r => gap e.1 (e.2 :: r)) (gap last [])
def pool (es : List (Nat × CpInfo)) (last : Nat) : Array CpInfo := ⟨poolList es last⟩
def fileOf (pool : Array CpInfo) (this : Nat) (attrs : Array Attribute := #[]) (ms : Array MethodInfo := #[]) (fl : Nat := 33) (sup : Nat := 0) (ifs : Array Nat := #[]) (fds : Array FieldInfo := #[]) : ClassFile where
  minorVersion := 0
  majorVersion := 65
  constantPool := pool
  accessFlags := fl
  thisClass := this
  superClass := sup
  interfaces := ifs
  fields := fds
  methods := ms
  attributes := attrs
def plain (name : String) (sup : Option ClassId) : Class where
  name := name
  kind := .ordinary
  loader := none
  accessFlags := 33
  super := sup
  interfaces := #[]
  cf := none
  fields := #[]
  methods := #[]
  instanceTypes := #[]
  staticTypes := #[]
  resolved := #[]
  callSites := []
  init := .initialized
  statics := none
  mirror := none

def pool0 : Array CpInfo := pool [(5, u "<init>"), (0, u "()V"), (1, .class_ 10), (1, u "java/lang/Object")] 113

def k0c0 : Code := { maxStack := 0, maxLocals := 1, code := object_method_1_code, exceptionTable := #[], attributes := #[] }
def k0m0 : Method := { name := "<init>", desc := "()V", sig := { parameters := [], returnType := none }, accessFlags := 1, code := some k0c0 }
/-- java/lang/Object -/
def k0 : Class := { plain "java/lang/Object" none with
  accessFlags := 33
  interfaces := #[]
  cf := some (fileOf pool0 8 #[] #[{ accessFlags := 1, nameIndex := 5, descriptorIndex := 6, attributes := #[] }] 33 0 #[] #[])
  fields := #[]
  methods := #[k0m0]
  instanceTypes := #[]
  staticTypes := #[]
  resolved := Array.replicate 124 none
  statics := none }

def pool1 : Array CpInfo := pool [(2, .class_ 4), (1, u "java/lang/Object"), (0, u "<init>"), (0, u "()V"), (0, .class_ 8), (0, u "com/example/lid12/lid12/ObjectId"), (0, .methodref 7 10), (0, .nameAndType 5 11), (0, u "(IJ)V"), (0, .methodref 7 13), (0, .nameAndType 14 15), (0, u "equals"), (0, u "(Ljava/lang/Object;)Z"), (0, .methodref 17 18), (0, .class_ 19), (0, .nameAndType 20 21), (0, u "java/lang/Integer"), (0, u "valueOf"), (0, u "(I)Ljava/lang/Integer;"), (0, .class_ 23), (0, u "com/example/lid12/lid12/ObjectIdEqualsPinLaw"), (2, u "law"), (0, u "(IJIJI)Z")] 3

def k1m0 : Method := { name := "<init>", desc := "()V", sig := { parameters := [], returnType := none }, accessFlags := 1, code := none }
def k1c1 : Code := { maxStack := 5, maxLocals := 19, code := code, exceptionTable := #[], attributes := #[] }
def k1m1 : Method := { name := "law", desc := "(IJIJI)Z", sig := { parameters := [.int, .long, .int, .long, .int], returnType := some .boolean }, accessFlags := 9, code := some k1c1 }
/-- com/example/lid12/lid12/ObjectIdEqualsPinLaw -/
def k1 : Class := { plain "com/example/lid12/lid12/ObjectIdEqualsPinLaw" (some 0) with
  accessFlags := 49
  interfaces := #[]
  cf := some (fileOf pool1 22 #[] #[{ accessFlags := 1, nameIndex := 5, descriptorIndex := 6, attributes := #[] }, { accessFlags := 9, nameIndex := 26, descriptorIndex := 27, attributes := #[] }] 49 2 #[] #[])
  fields := #[]
  methods := #[k1m0, k1m1]
  instanceTypes := #[]
  staticTypes := #[]
  resolved := Array.replicate 31 none
  statics := none }

def pool2 : Array CpInfo := pool [(1, .class_ 2), (0, u "java/lang/Comparable"), (0, .class_ 4), (0, u "java/lang/Object")] 7

/-- java/lang/Comparable -/
def k2 : Class := { plain "java/lang/Comparable" (some 0) with
  accessFlags := 1537
  interfaces := #[]
  cf := some (fileOf pool2 1 #[] #[] 1537 3 #[] #[])
  fields := #[]
  methods := #[]
  instanceTypes := #[]
  staticTypes := #[]
  resolved := Array.replicate 12 none
  statics := none }

def pool3 : Array CpInfo := pool [(1, .class_ 2), (0, u "java/io/Serializable"), (0, .class_ 4), (0, u "java/lang/Object")] 2

/-- java/io/Serializable -/
def k3 : Class := { plain "java/io/Serializable" (some 0) with
  accessFlags := 1537
  interfaces := #[]
  cf := some (fileOf pool3 1 #[] #[] 1537 3 #[] #[])
  fields := #[]
  methods := #[]
  instanceTypes := #[]
  staticTypes := #[]
  resolved := Array.replicate 7 none
  statics := none }

def pool4 : Array CpInfo := pool [(1, .class_ 2), (0, u "com/example/lid12/lid12/ObjectId"), (0, .methodref 4 5), (0, .class_ 6), (0, .nameAndType 7 8), (0, u "java/lang/Object"), (0, u "<init>"), (0, u "()V"), (0, .fieldref 1 10), (0, .nameAndType 11 12), (0, u "head"), (0, u "I"), (0, .fieldref 1 14), (0, .nameAndType 15 16), (0, u "tail"), (0, u "J"), (4, u "(IJ)V"), (45, u "FOUR_BYTES"), (0, u "Ljava/lang/invoke/VarHandle;"), (8, u "EIGHT_BYTES"), (60, .class_ 139), (0, u "com/example/lid12/lid12/ObjectId$SerialForm"), (50, .class_ 191), (0, u "java/lang/Comparable"), (0, .class_ 193), (0, u "java/io/Serializable"), (0, u "BYTES"), (2, u "HEX_LENGTH"), (1, u "EXTENDED_JSON_MEMBER"), (0, u "Ljava/lang/String;"), (2, u "TIME_BYTES"), (1, u "RANDOM_BYTES"), (1, u "COUNTER_BYTES"), (1, u "MAX_SECOND"), (0, u "serialVersionUID"), (14, u "equals"), (0, u "(Ljava/lang/Object;)Z")] 31

def k4c0 : Code := { maxStack := 3, maxLocals := 4, code := prog_2_method_1_code, exceptionTable := #[], attributes := #[] }
def k4m0 : Method := { name := "<init>", desc := "(IJ)V", sig := { parameters := [.int, .long], returnType := none }, accessFlags := 0, code := some k4c0 }
def k4c1 : Code := { maxStack := 4, maxLocals := 3, code := prog_2_method_18_code, exceptionTable := #[], attributes := #[] }
def k4m1 : Method := { name := "equals", desc := "(Ljava/lang/Object;)Z", sig := { parameters := [(.object "java/lang/Object")], returnType := some .boolean }, accessFlags := 1, code := some k4c1 }
/-- com/example/lid12/lid12/ObjectId -/
def k4 : Class := { plain "com/example/lid12/lid12/ObjectId" (some 0) with
  accessFlags := 49
  interfaces := #[2, 3]
  cf := some (fileOf pool4 1 #[.nestMembers #[138]] #[{ accessFlags := 0, nameIndex := 7, descriptorIndex := 21, attributes := #[] }, { accessFlags := 1, nameIndex := 225, descriptorIndex := 226, attributes := #[] }] 49 4 #[190, 192] #[{ accessFlags := 25, nameIndex := 194, descriptorIndex := 12, attributes := #[] }, { accessFlags := 25, nameIndex := 197, descriptorIndex := 12, attributes := #[] }, { accessFlags := 25, nameIndex := 199, descriptorIndex := 200, attributes := #[] }, { accessFlags := 24, nameIndex := 203, descriptorIndex := 12, attributes := #[] }, { accessFlags := 24, nameIndex := 205, descriptorIndex := 12, attributes := #[] }, { accessFlags := 24, nameIndex := 207, descriptorIndex := 12, attributes := #[] }, { accessFlags := 26, nameIndex := 209, descriptorIndex := 16, attributes := #[] }, { accessFlags := 26, nameIndex := 67, descriptorIndex := 68, attributes := #[] }, { accessFlags := 26, nameIndex := 77, descriptorIndex := 68, attributes := #[] }, { accessFlags := 26, nameIndex := 210, descriptorIndex := 16, attributes := #[] }, { accessFlags := 18, nameIndex := 11, descriptorIndex := 12, attributes := #[] }, { accessFlags := 18, nameIndex := 15, descriptorIndex := 16, attributes := #[] }])
  fields := #[{ name := "BYTES", type := .int, accessFlags := 25, slot := 0, constantValue := 0 }, { name := "HEX_LENGTH", type := .int, accessFlags := 25, slot := 1, constantValue := 0 }, { name := "EXTENDED_JSON_MEMBER", type := (.object "java/lang/String"), accessFlags := 25, slot := 2, constantValue := 0 }, { name := "TIME_BYTES", type := .int, accessFlags := 24, slot := 3, constantValue := 0 }, { name := "RANDOM_BYTES", type := .int, accessFlags := 24, slot := 4, constantValue := 0 }, { name := "COUNTER_BYTES", type := .int, accessFlags := 24, slot := 5, constantValue := 0 }, { name := "MAX_SECOND", type := .long, accessFlags := 26, slot := 6, constantValue := 0 }, { name := "FOUR_BYTES", type := (.object "java/lang/invoke/VarHandle"), accessFlags := 26, slot := 7, constantValue := 0 }, { name := "EIGHT_BYTES", type := (.object "java/lang/invoke/VarHandle"), accessFlags := 26, slot := 8, constantValue := 0 }, { name := "serialVersionUID", type := .long, accessFlags := 26, slot := 9, constantValue := 0 }, { name := "head", type := .int, accessFlags := 18, slot := 0, constantValue := 0 }, { name := "tail", type := .long, accessFlags := 18, slot := 1, constantValue := 0 }]
  methods := #[k4m0, k4m1]
  instanceTypes := #[.int, .long]
  staticTypes := #[.int, .int, (.object "java/lang/String"), .int, .int, .int, .long, (.object "java/lang/invoke/VarHandle"), (.object "java/lang/invoke/VarHandle"), .long]
  resolved := Array.replicate 258 none
  statics := none }

def pool5 : Array CpInfo := pool [(1, .methodref 2 3), (0, .class_ 4), (0, .nameAndType 5 6), (0, u "java/lang/Object"), (0, u "<init>"), (0, u "()V"), (1, .class_ 10), (1, u "java/lang/Number"), (2, .class_ 14), (0, u "java/io/Serializable"), (0, u "serialVersionUID"), (0, u "J")] 20

def k5c0 : Code := { maxStack := 1, maxLocals := 1, code := jdk_18_method_1_code, exceptionTable := #[], attributes := #[] }
def k5m0 : Method := { name := "<init>", desc := "()V", sig := { parameters := [], returnType := none }, accessFlags := 1, code := some k5c0 }
/-- java/lang/Number -/
def k5 : Class := { plain "java/lang/Number" (some 0) with
  accessFlags := 1057
  interfaces := #[3]
  cf := some (fileOf pool5 8 #[] #[{ accessFlags := 1, nameIndex := 5, descriptorIndex := 6, attributes := #[] }] 1057 2 #[13] #[{ accessFlags := 26, nameIndex := 15, descriptorIndex := 16, attributes := #[] }])
  fields := #[{ name := "serialVersionUID", type := .long, accessFlags := 26, slot := 0, constantValue := 0 }]
  methods := #[k5m0]
  instanceTypes := #[]
  staticTypes := #[.long]
  resolved := Array.replicate 37 none
  statics := none }

def pool6 : Array CpInfo := pool [(1, .class_ 2), (0, u "java/lang/constant/Constable"), (0, .class_ 4), (0, u "java/lang/Object")] 6

/-- java/lang/constant/Constable -/
def k6 : Class := { plain "java/lang/constant/Constable" (some 0) with
  accessFlags := 1537
  interfaces := #[]
  cf := some (fileOf pool6 1 #[] #[] 1537 3 #[] #[])
  fields := #[]
  methods := #[]
  instanceTypes := #[]
  staticTypes := #[]
  resolved := Array.replicate 11 none
  statics := none }

def pool7 : Array CpInfo := pool [(1, .class_ 2), (0, u "java/lang/constant/ConstantDesc"), (0, .class_ 4), (0, u "java/lang/Object")] 32

/-- java/lang/constant/ConstantDesc -/
def k7 : Class := { plain "java/lang/constant/ConstantDesc" (some 0) with
  accessFlags := 1537
  interfaces := #[]
  cf := some (fileOf pool7 1 #[] #[] 1537 3 #[] #[])
  fields := #[]
  methods := #[]
  instanceTypes := #[]
  staticTypes := #[]
  resolved := Array.replicate 37 none
  statics := none }

def pool8 : Array CpInfo := pool [(1, .class_ 2), (0, u "java/lang/Integer"), (16, u "digits"), (0, u "[C"), (46, u "<init>"), (17, u "DigitOnes"), (0, u "[B"), (2, u "DigitTens"), (10, .nameAndType 67 101), (0, u "()V"), (85, u "valueOf"), (0, u "(I)Ljava/lang/Integer;"), (0, .class_ 190), (0, u "java/lang/Integer$IntegerCache"), (0, .fieldref 189 192), (0, .nameAndType 193 194), (0, u "high"), (0, u "I"), (0, .fieldref 189 196), (0, .nameAndType 197 198), (0, u "cache"), (0, u "[Ljava/lang/Integer;"), (0, .methodref 1 200), (0, .nameAndType 67 201), (0, u "(I)V"), (0, .methodref 203 100), (0, .class_ 204), (0, u "java/lang/Number"), (0, .fieldref 1 206), (0, .nameAndType 207 194), (0, u "value"), (94, u "TYPE"), (0, u "Ljava/lang/Class;"), (0, .class_ 305), (0, u "java/lang/Comparable"), (0, .class_ 307), (0, u "java/lang/constant/Constable"), (0, .class_ 309), (0, u "java/lang/constant/ConstantDesc"), (0, u "MIN_VALUE"), (1, u "MAX_VALUE"), (3, u "SIZE"), (1, u "BYTES"), (1, u "serialVersionUID"), (0, u "J")] 131

def k8c0 : Code := { maxStack := 3, maxLocals := 1, code := jdk_33_method_22_code, exceptionTable := #[], attributes := #[] }
def k8m0 : Method := { name := "valueOf", desc := "(I)Ljava/lang/Integer;", sig := { parameters := [.int], returnType := some (.object "java/lang/Integer") }, accessFlags := 9, code := some k8c0 }
def k8c1 : Code := { maxStack := 2, maxLocals := 2, code := jdk_33_method_23_code, exceptionTable := #[], attributes := #[] }
def k8m1 : Method := { name := "<init>", desc := "(I)V", sig := { parameters := [.int], returnType := none }, accessFlags := 1, code := some k8c1 }
/-- java/lang/Integer -/
def k8 : Class := { plain "java/lang/Integer" (some 5) with
  accessFlags := 49
  interfaces := #[2, 6, 7]
  cf := some (fileOf pool8 1 #[.nestMembers #[189]] #[{ accessFlags := 9, nameIndex := 187, descriptorIndex := 188, attributes := #[] }, { accessFlags := 1, nameIndex := 67, descriptorIndex := 201, attributes := #[] }] 49 203 #[304, 306, 308] #[{ accessFlags := 25, nameIndex := 310, descriptorIndex := 194, attributes := #[] }, { accessFlags := 25, nameIndex := 312, descriptorIndex := 194, attributes := #[] }, { accessFlags := 25, nameIndex := 302, descriptorIndex := 303, attributes := #[] }, { accessFlags := 24, nameIndex := 19, descriptorIndex := 20, attributes := #[] }, { accessFlags := 24, nameIndex := 89, descriptorIndex := 86, attributes := #[] }, { accessFlags := 24, nameIndex := 85, descriptorIndex := 86, attributes := #[] }, { accessFlags := 18, nameIndex := 207, descriptorIndex := 194, attributes := #[] }, { accessFlags := 25, nameIndex := 316, descriptorIndex := 194, attributes := #[] }, { accessFlags := 25, nameIndex := 318, descriptorIndex := 194, attributes := #[] }, { accessFlags := 26, nameIndex := 320, descriptorIndex := 321, attributes := #[] }])
  fields := #[{ name := "MIN_VALUE", type := .int, accessFlags := 25, slot := 0, constantValue := 0 }, { name := "MAX_VALUE", type := .int, accessFlags := 25, slot := 1, constantValue := 0 }, { name := "TYPE", type := (.object "java/lang/Class"), accessFlags := 25, slot := 2, constantValue := 0 }, { name := "digits", type := (.array .char), accessFlags := 24, slot := 3, constantValue := 0 }, { name := "DigitTens", type := (.array .byte), accessFlags := 24, slot := 4, constantValue := 0 }, { name := "DigitOnes", type := (.array .byte), accessFlags := 24, slot := 5, constantValue := 0 }, { name := "value", type := .int, accessFlags := 18, slot := 0, constantValue := 0 }, { name := "SIZE", type := .int, accessFlags := 25, slot := 6, constantValue := 0 }, { name := "BYTES", type := .int, accessFlags := 25, slot := 7, constantValue := 0 }, { name := "serialVersionUID", type := .long, accessFlags := 26, slot := 8, constantValue := 0 }]
  methods := #[k8m0, k8m1]
  instanceTypes := #[.int]
  staticTypes := #[.int, .int, (.object "java/lang/Class"), (.array .char), (.array .byte), (.array .byte), .int, .int, .long]
  resolved := Array.replicate 453 none
  statics := none }

def pool9 : Array CpInfo := pool [(2, .class_ 4), (1, u "java/lang/Object"), (0, u "<init>"), (0, u "()V"), (0, .class_ 8), (0, u "java/lang/Integer"), (7, .class_ 18), (1, u "java/lang/Integer$IntegerCache"), (0, u "$assertionsDisabled"), (0, u "Z"), (26, u "high"), (0, u "I"), (8, u "archivedCache"), (0, u "[Ljava/lang/Integer;"), (12, u "cache"), (0, u "low")] 27

def k9m0 : Method := { name := "<init>", desc := "()V", sig := { parameters := [], returnType := none }, accessFlags := 2, code := none }
/-- java/lang/Integer$IntegerCache -/
def k9 : Class := { plain "java/lang/Integer$IntegerCache" (some 0) with
  accessFlags := 48
  interfaces := #[]
  cf := some (fileOf pool9 16 #[.nestHost 7] #[{ accessFlags := 2, nameIndex := 5, descriptorIndex := 6, attributes := #[] }] 48 2 #[] #[{ accessFlags := 24, nameIndex := 72, descriptorIndex := 48, attributes := #[] }, { accessFlags := 24, nameIndex := 47, descriptorIndex := 48, attributes := #[] }, { accessFlags := 24, nameIndex := 71, descriptorIndex := 58, attributes := #[] }, { accessFlags := 8, nameIndex := 57, descriptorIndex := 58, attributes := #[] }, { accessFlags := 4120, nameIndex := 19, descriptorIndex := 20, attributes := #[] }])
  fields := #[{ name := "low", type := .int, accessFlags := 24, slot := 0, constantValue := 0 }, { name := "high", type := .int, accessFlags := 24, slot := 1, constantValue := 0 }, { name := "cache", type := (.array (.object "java/lang/Integer")), accessFlags := 24, slot := 2, constantValue := 0 }, { name := "archivedCache", type := (.array (.object "java/lang/Integer")), accessFlags := 8, slot := 3, constantValue := 0 }, { name := "$assertionsDisabled", type := .boolean, accessFlags := 4120, slot := 4, constantValue := 0 }]
  methods := #[k9m0]
  instanceTypes := #[]
  staticTypes := #[.int, .int, (.array (.object "java/lang/Integer")), (.array (.object "java/lang/Integer")), .boolean]
  resolved := Array.replicate 100 none
  statics := some 0 }

def pool10 : Array CpInfo := pool [(1, u "java/lang/Cloneable"), (0, .class_ 1), (0, u "java/lang/Object"), (0, .class_ 3)] 3

/-- java/lang/Cloneable -/
def k10 : Class := { plain "java/lang/Cloneable" (some 0) with
  accessFlags := 1537
  interfaces := #[]
  cf := some (fileOf pool10 2 #[] #[] 1537 4 #[] #[])
  fields := #[]
  methods := #[]
  instanceTypes := #[]
  staticTypes := #[]
  resolved := Array.replicate 8 none
  statics := none }

/-- the primitive byte -/
def k11 : Class := { plain "byte" none with kind := .primitive 'B', accessFlags := 0x411 }
/-- [B -/
def k12 : Class := { plain "[B" (some 0) with kind := .array 11 .byte, interfaces := #[10, 3], accessFlags := 1041 }

/-- the primitive int -/
def k13 : Class := { plain "int" none with kind := .primitive 'I', accessFlags := 0x411 }
/-- [I -/
def k14 : Class := { plain "[I" (some 0) with kind := .array 13 .int, interfaces := #[10, 3], accessFlags := 1041 }

/-- [Ljava/lang/Integer; -/
def k15 : Class := { plain "[Ljava/lang/Integer;" (some 0) with kind := .array 8 (.object "java/lang/Integer"), interfaces := #[10, 3], accessFlags := 1041 }

def heap : Heap := #[{ cls := 9, slots := #[.int 0, .int 127, .ref 1, .null, .int 0], vm := .statics 9 },
  { cls := 15, slots := #[.ref 2, .ref 3, .ref 4, .ref 5, .ref 6, .ref 7, .ref 8, .ref 9, .ref 10, .ref 11, .ref 12, .ref 13, .ref 14, .ref 15, .ref 16, .ref 17, .ref 18, .ref 19, .ref 20, .ref 21, .ref 22, .ref 23, .ref 24, .ref 25, .ref 26, .ref 27, .ref 28, .ref 29, .ref 30, .ref 31, .ref 32, .ref 33, .ref 34, .ref 35, .ref 36, .ref 37, .ref 38, .ref 39, .ref 40, .ref 41, .ref 42, .ref 43, .ref 44, .ref 45, .ref 46, .ref 47, .ref 48, .ref 49, .ref 50, .ref 51, .ref 52, .ref 53, .ref 54, .ref 55, .ref 56, .ref 57, .ref 58, .ref 59, .ref 60, .ref 61, .ref 62, .ref 63, .ref 64, .ref 65, .ref 66, .ref 67, .ref 68, .ref 69, .ref 70, .ref 71, .ref 72, .ref 73, .ref 74, .ref 75, .ref 76, .ref 77, .ref 78, .ref 79, .ref 80, .ref 81, .ref 82, .ref 83, .ref 84, .ref 85, .ref 86, .ref 87, .ref 88, .ref 89, .ref 90, .ref 91, .ref 92, .ref 93, .ref 94, .ref 95, .ref 96, .ref 97, .ref 98, .ref 99, .ref 100, .ref 101, .ref 102, .ref 103, .ref 104, .ref 105, .ref 106, .ref 107, .ref 108, .ref 109, .ref 110, .ref 111, .ref 112, .ref 113, .ref 114, .ref 115, .ref 116, .ref 117, .ref 118, .ref 119, .ref 120, .ref 121, .ref 122, .ref 123, .ref 124, .ref 125, .ref 126, .ref 127, .ref 128, .ref 129, .ref 130, .ref 131, .ref 132, .ref 133, .ref 134, .ref 135, .ref 136, .ref 137, .ref 138, .ref 139, .ref 140, .ref 141, .ref 142, .ref 143, .ref 144, .ref 145, .ref 146, .ref 147, .ref 148, .ref 149, .ref 150, .ref 151, .ref 152, .ref 153, .ref 154, .ref 155, .ref 156, .ref 157, .ref 158, .ref 159, .ref 160, .ref 161, .ref 162, .ref 163, .ref 164, .ref 165, .ref 166, .ref 167, .ref 168, .ref 169, .ref 170, .ref 171, .ref 172, .ref 173, .ref 174, .ref 175, .ref 176, .ref 177, .ref 178, .ref 179, .ref 180, .ref 181, .ref 182, .ref 183, .ref 184, .ref 185, .ref 186, .ref 187, .ref 188, .ref 189, .ref 190, .ref 191, .ref 192, .ref 193, .ref 194, .ref 195, .ref 196, .ref 197, .ref 198, .ref 199, .ref 200, .ref 201, .ref 202, .ref 203, .ref 204, .ref 205, .ref 206, .ref 207, .ref 208, .ref 209, .ref 210, .ref 211, .ref 212, .ref 213, .ref 214, .ref 215, .ref 216, .ref 217, .ref 218, .ref 219, .ref 220, .ref 221, .ref 222, .ref 223, .ref 224, .ref 225, .ref 226, .ref 227, .ref 228, .ref 229, .ref 230, .ref 231, .ref 232, .ref 233, .ref 234, .ref 235, .ref 236, .ref 237, .ref 238, .ref 239, .ref 240, .ref 241, .ref 242, .ref 243, .ref 244, .ref 245, .ref 246, .ref 247, .ref 248, .ref 249, .ref 250, .ref 251, .ref 252, .ref 253, .ref 254, .ref 255, .ref 256, .ref 257], vm := .none },
  { cls := 8, slots := #[.int (-128)], vm := .none },
  { cls := 8, slots := #[.int (-127)], vm := .none },
  { cls := 8, slots := #[.int (-126)], vm := .none },
  { cls := 8, slots := #[.int (-125)], vm := .none },
  { cls := 8, slots := #[.int (-124)], vm := .none },
  { cls := 8, slots := #[.int (-123)], vm := .none },
  { cls := 8, slots := #[.int (-122)], vm := .none },
  { cls := 8, slots := #[.int (-121)], vm := .none },
  { cls := 8, slots := #[.int (-120)], vm := .none },
  { cls := 8, slots := #[.int (-119)], vm := .none },
  { cls := 8, slots := #[.int (-118)], vm := .none },
  { cls := 8, slots := #[.int (-117)], vm := .none },
  { cls := 8, slots := #[.int (-116)], vm := .none },
  { cls := 8, slots := #[.int (-115)], vm := .none },
  { cls := 8, slots := #[.int (-114)], vm := .none },
  { cls := 8, slots := #[.int (-113)], vm := .none },
  { cls := 8, slots := #[.int (-112)], vm := .none },
  { cls := 8, slots := #[.int (-111)], vm := .none },
  { cls := 8, slots := #[.int (-110)], vm := .none },
  { cls := 8, slots := #[.int (-109)], vm := .none },
  { cls := 8, slots := #[.int (-108)], vm := .none },
  { cls := 8, slots := #[.int (-107)], vm := .none },
  { cls := 8, slots := #[.int (-106)], vm := .none },
  { cls := 8, slots := #[.int (-105)], vm := .none },
  { cls := 8, slots := #[.int (-104)], vm := .none },
  { cls := 8, slots := #[.int (-103)], vm := .none },
  { cls := 8, slots := #[.int (-102)], vm := .none },
  { cls := 8, slots := #[.int (-101)], vm := .none },
  { cls := 8, slots := #[.int (-100)], vm := .none },
  { cls := 8, slots := #[.int (-99)], vm := .none },
  { cls := 8, slots := #[.int (-98)], vm := .none },
  { cls := 8, slots := #[.int (-97)], vm := .none },
  { cls := 8, slots := #[.int (-96)], vm := .none },
  { cls := 8, slots := #[.int (-95)], vm := .none },
  { cls := 8, slots := #[.int (-94)], vm := .none },
  { cls := 8, slots := #[.int (-93)], vm := .none },
  { cls := 8, slots := #[.int (-92)], vm := .none },
  { cls := 8, slots := #[.int (-91)], vm := .none },
  { cls := 8, slots := #[.int (-90)], vm := .none },
  { cls := 8, slots := #[.int (-89)], vm := .none },
  { cls := 8, slots := #[.int (-88)], vm := .none },
  { cls := 8, slots := #[.int (-87)], vm := .none },
  { cls := 8, slots := #[.int (-86)], vm := .none },
  { cls := 8, slots := #[.int (-85)], vm := .none },
  { cls := 8, slots := #[.int (-84)], vm := .none },
  { cls := 8, slots := #[.int (-83)], vm := .none },
  { cls := 8, slots := #[.int (-82)], vm := .none },
  { cls := 8, slots := #[.int (-81)], vm := .none },
  { cls := 8, slots := #[.int (-80)], vm := .none },
  { cls := 8, slots := #[.int (-79)], vm := .none },
  { cls := 8, slots := #[.int (-78)], vm := .none },
  { cls := 8, slots := #[.int (-77)], vm := .none },
  { cls := 8, slots := #[.int (-76)], vm := .none },
  { cls := 8, slots := #[.int (-75)], vm := .none },
  { cls := 8, slots := #[.int (-74)], vm := .none },
  { cls := 8, slots := #[.int (-73)], vm := .none },
  { cls := 8, slots := #[.int (-72)], vm := .none },
  { cls := 8, slots := #[.int (-71)], vm := .none },
  { cls := 8, slots := #[.int (-70)], vm := .none },
  { cls := 8, slots := #[.int (-69)], vm := .none },
  { cls := 8, slots := #[.int (-68)], vm := .none },
  { cls := 8, slots := #[.int (-67)], vm := .none },
  { cls := 8, slots := #[.int (-66)], vm := .none },
  { cls := 8, slots := #[.int (-65)], vm := .none },
  { cls := 8, slots := #[.int (-64)], vm := .none },
  { cls := 8, slots := #[.int (-63)], vm := .none },
  { cls := 8, slots := #[.int (-62)], vm := .none },
  { cls := 8, slots := #[.int (-61)], vm := .none },
  { cls := 8, slots := #[.int (-60)], vm := .none },
  { cls := 8, slots := #[.int (-59)], vm := .none },
  { cls := 8, slots := #[.int (-58)], vm := .none },
  { cls := 8, slots := #[.int (-57)], vm := .none },
  { cls := 8, slots := #[.int (-56)], vm := .none },
  { cls := 8, slots := #[.int (-55)], vm := .none },
  { cls := 8, slots := #[.int (-54)], vm := .none },
  { cls := 8, slots := #[.int (-53)], vm := .none },
  { cls := 8, slots := #[.int (-52)], vm := .none },
  { cls := 8, slots := #[.int (-51)], vm := .none },
  { cls := 8, slots := #[.int (-50)], vm := .none },
  { cls := 8, slots := #[.int (-49)], vm := .none },
  { cls := 8, slots := #[.int (-48)], vm := .none },
  { cls := 8, slots := #[.int (-47)], vm := .none },
  { cls := 8, slots := #[.int (-46)], vm := .none },
  { cls := 8, slots := #[.int (-45)], vm := .none },
  { cls := 8, slots := #[.int (-44)], vm := .none },
  { cls := 8, slots := #[.int (-43)], vm := .none },
  { cls := 8, slots := #[.int (-42)], vm := .none },
  { cls := 8, slots := #[.int (-41)], vm := .none },
  { cls := 8, slots := #[.int (-40)], vm := .none },
  { cls := 8, slots := #[.int (-39)], vm := .none },
  { cls := 8, slots := #[.int (-38)], vm := .none },
  { cls := 8, slots := #[.int (-37)], vm := .none },
  { cls := 8, slots := #[.int (-36)], vm := .none },
  { cls := 8, slots := #[.int (-35)], vm := .none },
  { cls := 8, slots := #[.int (-34)], vm := .none },
  { cls := 8, slots := #[.int (-33)], vm := .none },
  { cls := 8, slots := #[.int (-32)], vm := .none },
  { cls := 8, slots := #[.int (-31)], vm := .none },
  { cls := 8, slots := #[.int (-30)], vm := .none },
  { cls := 8, slots := #[.int (-29)], vm := .none },
  { cls := 8, slots := #[.int (-28)], vm := .none },
  { cls := 8, slots := #[.int (-27)], vm := .none },
  { cls := 8, slots := #[.int (-26)], vm := .none },
  { cls := 8, slots := #[.int (-25)], vm := .none },
  { cls := 8, slots := #[.int (-24)], vm := .none },
  { cls := 8, slots := #[.int (-23)], vm := .none },
  { cls := 8, slots := #[.int (-22)], vm := .none },
  { cls := 8, slots := #[.int (-21)], vm := .none },
  { cls := 8, slots := #[.int (-20)], vm := .none },
  { cls := 8, slots := #[.int (-19)], vm := .none },
  { cls := 8, slots := #[.int (-18)], vm := .none },
  { cls := 8, slots := #[.int (-17)], vm := .none },
  { cls := 8, slots := #[.int (-16)], vm := .none },
  { cls := 8, slots := #[.int (-15)], vm := .none },
  { cls := 8, slots := #[.int (-14)], vm := .none },
  { cls := 8, slots := #[.int (-13)], vm := .none },
  { cls := 8, slots := #[.int (-12)], vm := .none },
  { cls := 8, slots := #[.int (-11)], vm := .none },
  { cls := 8, slots := #[.int (-10)], vm := .none },
  { cls := 8, slots := #[.int (-9)], vm := .none },
  { cls := 8, slots := #[.int (-8)], vm := .none },
  { cls := 8, slots := #[.int (-7)], vm := .none },
  { cls := 8, slots := #[.int (-6)], vm := .none },
  { cls := 8, slots := #[.int (-5)], vm := .none },
  { cls := 8, slots := #[.int (-4)], vm := .none },
  { cls := 8, slots := #[.int (-3)], vm := .none },
  { cls := 8, slots := #[.int (-2)], vm := .none },
  { cls := 8, slots := #[.int (-1)], vm := .none },
  { cls := 8, slots := #[.int (0)], vm := .none },
  { cls := 8, slots := #[.int (1)], vm := .none },
  { cls := 8, slots := #[.int (2)], vm := .none },
  { cls := 8, slots := #[.int (3)], vm := .none },
  { cls := 8, slots := #[.int (4)], vm := .none },
  { cls := 8, slots := #[.int (5)], vm := .none },
  { cls := 8, slots := #[.int (6)], vm := .none },
  { cls := 8, slots := #[.int (7)], vm := .none },
  { cls := 8, slots := #[.int (8)], vm := .none },
  { cls := 8, slots := #[.int (9)], vm := .none },
  { cls := 8, slots := #[.int (10)], vm := .none },
  { cls := 8, slots := #[.int (11)], vm := .none },
  { cls := 8, slots := #[.int (12)], vm := .none },
  { cls := 8, slots := #[.int (13)], vm := .none },
  { cls := 8, slots := #[.int (14)], vm := .none },
  { cls := 8, slots := #[.int (15)], vm := .none },
  { cls := 8, slots := #[.int (16)], vm := .none },
  { cls := 8, slots := #[.int (17)], vm := .none },
  { cls := 8, slots := #[.int (18)], vm := .none },
  { cls := 8, slots := #[.int (19)], vm := .none },
  { cls := 8, slots := #[.int (20)], vm := .none },
  { cls := 8, slots := #[.int (21)], vm := .none },
  { cls := 8, slots := #[.int (22)], vm := .none },
  { cls := 8, slots := #[.int (23)], vm := .none },
  { cls := 8, slots := #[.int (24)], vm := .none },
  { cls := 8, slots := #[.int (25)], vm := .none },
  { cls := 8, slots := #[.int (26)], vm := .none },
  { cls := 8, slots := #[.int (27)], vm := .none },
  { cls := 8, slots := #[.int (28)], vm := .none },
  { cls := 8, slots := #[.int (29)], vm := .none },
  { cls := 8, slots := #[.int (30)], vm := .none },
  { cls := 8, slots := #[.int (31)], vm := .none },
  { cls := 8, slots := #[.int (32)], vm := .none },
  { cls := 8, slots := #[.int (33)], vm := .none },
  { cls := 8, slots := #[.int (34)], vm := .none },
  { cls := 8, slots := #[.int (35)], vm := .none },
  { cls := 8, slots := #[.int (36)], vm := .none },
  { cls := 8, slots := #[.int (37)], vm := .none },
  { cls := 8, slots := #[.int (38)], vm := .none },
  { cls := 8, slots := #[.int (39)], vm := .none },
  { cls := 8, slots := #[.int (40)], vm := .none },
  { cls := 8, slots := #[.int (41)], vm := .none },
  { cls := 8, slots := #[.int (42)], vm := .none },
  { cls := 8, slots := #[.int (43)], vm := .none },
  { cls := 8, slots := #[.int (44)], vm := .none },
  { cls := 8, slots := #[.int (45)], vm := .none },
  { cls := 8, slots := #[.int (46)], vm := .none },
  { cls := 8, slots := #[.int (47)], vm := .none },
  { cls := 8, slots := #[.int (48)], vm := .none },
  { cls := 8, slots := #[.int (49)], vm := .none },
  { cls := 8, slots := #[.int (50)], vm := .none },
  { cls := 8, slots := #[.int (51)], vm := .none },
  { cls := 8, slots := #[.int (52)], vm := .none },
  { cls := 8, slots := #[.int (53)], vm := .none },
  { cls := 8, slots := #[.int (54)], vm := .none },
  { cls := 8, slots := #[.int (55)], vm := .none },
  { cls := 8, slots := #[.int (56)], vm := .none },
  { cls := 8, slots := #[.int (57)], vm := .none },
  { cls := 8, slots := #[.int (58)], vm := .none },
  { cls := 8, slots := #[.int (59)], vm := .none },
  { cls := 8, slots := #[.int (60)], vm := .none },
  { cls := 8, slots := #[.int (61)], vm := .none },
  { cls := 8, slots := #[.int (62)], vm := .none },
  { cls := 8, slots := #[.int (63)], vm := .none },
  { cls := 8, slots := #[.int (64)], vm := .none },
  { cls := 8, slots := #[.int (65)], vm := .none },
  { cls := 8, slots := #[.int (66)], vm := .none },
  { cls := 8, slots := #[.int (67)], vm := .none },
  { cls := 8, slots := #[.int (68)], vm := .none },
  { cls := 8, slots := #[.int (69)], vm := .none },
  { cls := 8, slots := #[.int (70)], vm := .none },
  { cls := 8, slots := #[.int (71)], vm := .none },
  { cls := 8, slots := #[.int (72)], vm := .none },
  { cls := 8, slots := #[.int (73)], vm := .none },
  { cls := 8, slots := #[.int (74)], vm := .none },
  { cls := 8, slots := #[.int (75)], vm := .none },
  { cls := 8, slots := #[.int (76)], vm := .none },
  { cls := 8, slots := #[.int (77)], vm := .none },
  { cls := 8, slots := #[.int (78)], vm := .none },
  { cls := 8, slots := #[.int (79)], vm := .none },
  { cls := 8, slots := #[.int (80)], vm := .none },
  { cls := 8, slots := #[.int (81)], vm := .none },
  { cls := 8, slots := #[.int (82)], vm := .none },
  { cls := 8, slots := #[.int (83)], vm := .none },
  { cls := 8, slots := #[.int (84)], vm := .none },
  { cls := 8, slots := #[.int (85)], vm := .none },
  { cls := 8, slots := #[.int (86)], vm := .none },
  { cls := 8, slots := #[.int (87)], vm := .none },
  { cls := 8, slots := #[.int (88)], vm := .none },
  { cls := 8, slots := #[.int (89)], vm := .none },
  { cls := 8, slots := #[.int (90)], vm := .none },
  { cls := 8, slots := #[.int (91)], vm := .none },
  { cls := 8, slots := #[.int (92)], vm := .none },
  { cls := 8, slots := #[.int (93)], vm := .none },
  { cls := 8, slots := #[.int (94)], vm := .none },
  { cls := 8, slots := #[.int (95)], vm := .none },
  { cls := 8, slots := #[.int (96)], vm := .none },
  { cls := 8, slots := #[.int (97)], vm := .none },
  { cls := 8, slots := #[.int (98)], vm := .none },
  { cls := 8, slots := #[.int (99)], vm := .none },
  { cls := 8, slots := #[.int (100)], vm := .none },
  { cls := 8, slots := #[.int (101)], vm := .none },
  { cls := 8, slots := #[.int (102)], vm := .none },
  { cls := 8, slots := #[.int (103)], vm := .none },
  { cls := 8, slots := #[.int (104)], vm := .none },
  { cls := 8, slots := #[.int (105)], vm := .none },
  { cls := 8, slots := #[.int (106)], vm := .none },
  { cls := 8, slots := #[.int (107)], vm := .none },
  { cls := 8, slots := #[.int (108)], vm := .none },
  { cls := 8, slots := #[.int (109)], vm := .none },
  { cls := 8, slots := #[.int (110)], vm := .none },
  { cls := 8, slots := #[.int (111)], vm := .none },
  { cls := 8, slots := #[.int (112)], vm := .none },
  { cls := 8, slots := #[.int (113)], vm := .none },
  { cls := 8, slots := #[.int (114)], vm := .none },
  { cls := 8, slots := #[.int (115)], vm := .none },
  { cls := 8, slots := #[.int (116)], vm := .none },
  { cls := 8, slots := #[.int (117)], vm := .none },
  { cls := 8, slots := #[.int (118)], vm := .none },
  { cls := 8, slots := #[.int (119)], vm := .none },
  { cls := 8, slots := #[.int (120)], vm := .none },
  { cls := 8, slots := #[.int (121)], vm := .none },
  { cls := 8, slots := #[.int (122)], vm := .none },
  { cls := 8, slots := #[.int (123)], vm := .none },
  { cls := 8, slots := #[.int (124)], vm := .none },
  { cls := 8, slots := #[.int (125)], vm := .none },
  { cls := 8, slots := #[.int (126)], vm := .none },
  { cls := 8, slots := #[.int (127)], vm := .none }]
def classes : Array Class := #[k0, k1, k2, k3, k4, k5, k6, k7, k8, k9, k10, k11, k12, k13, k14, k15]
def interned : List (Array UInt16 × Addr) := []
def slotsUsed : Nat := 517
def theMethod : MethodId := ⟨1, 1⟩
def args0 : Array Value := #[.int 1, .long 2, .int 3, .long 4, .int 5]
def aboutOver (below : List Frame) : State where
  vm := { classes := classes, interned := interned.toArray }
  heap := heap
  slotsUsed := slotsUsed
  threads := #[{ frames := .invoking theMethod args0 :: below }]
def below0 : List Frame := [.native { method := ⟨0, 0⟩, args := #[] }]
def about1 : State := aboutOver below0
def p0 : Program := .bare "" "" ""
def e0 : Env := launch0.env 0 0 0
theorem w_frames : about1.frames = Frame.invoking theMethod args0 :: below0 := rfl
set_option maxRecDepth 65536 in
theorem w_args : argsFit about1.vm theMethod args0 = true := by decide +kernel
set_option maxRecDepth 65536 in
theorem w_heap : heapFits about1 = true := by decide +kernel
set_option maxRecDepth 65536 in
theorem w_runnable : about1.curStatus? = some .runnable := by decide +kernel
set_option maxRecDepth 65536 in
theorem w_alone : about1.alone = true := by decide +kernel
set_option maxRecDepth 65536 in
theorem w_named : about1.methodNamed? x = some theMethod := by decide +kernel
set_option maxRecDepth 65536 in
theorem w_hears : about1.hears theMethod below0 = true := by decide +kernel
set_option maxRecDepth 65536 in
theorem w_ripe : about1.ripe theMethod args0 below0 = true := by decide +kernel
theorem w_running : about1.status = .running := rfl
set_option maxRecDepth 65536 in
theorem w_room : about1.hasRoom e0.platform room_1 = true :=
  launch0.hasRoom_least _ room_1 (by decide +kernel) (by decide +kernel) (by decide +kernel) (by decide +kernel) (by decide +kernel) (by decide +kernel)
theorem allAtoms_all (ts : List Jvm.Cond) (a : Array Jvm.Value) (st : Jvm.State) : (allAtoms ts).before a st = ts.all (fun c => c.before a st) := by
  induction ts with
  | nil => rfl
  | cons c t ih =>
    show (Jvm.Cond.and c (allAtoms t)).before a st = _
    rw [Jvm.Cond.before_and, ih, List.all_cons]
def words1 : List Jvm.Cond := Jvm.Cond.code x code maxLocals ret :: tables_1
/-- a 'code' word, met by the world's own term for the bytes: nothing is compared byte by byte -/
theorem code_word {y : MethodName} {bytes : ByteArray} {mx : Nat} {rt : Option FieldType} {a : Array Value} {s : State} {m : MethodId} {meth : Method} {c : Code} (h1 : s.methodNamed? y = some m) (h2 : s.vm.method? m = some meth) (h3 : meth.code = some c) (h4 : c.code = bytes)
    (h5 : (c.maxLocals == mx && c.exceptionTable.isEmpty && decide (c.maxStack ≤ mostOperands) && decide (meth.sig.returnType = rt) && !meth.locks && decide (parseMethodDescriptor y.desc = some meth.sig)) = true) : (Jvm.Cond.code y bytes mx rt).before a s = true := by
  simp only [Bool.and_eq_true, beq_iff_eq, Bool.not_eq_true', decide_eq_true_eq] at h5
  obtain ⟨⟨⟨⟨⟨g1, g2⟩, g3⟩, g4⟩, g5⟩, g6⟩ := h5
  simp [Cond.before, Cond.holds, Cond.value, h1, h2, h3, h4, g1, g2, g3, g4, g5, g6]
def isCode : Jvm.Cond → Bool
  | .code _ _ _ _ => true
  | _ => false
theorem all_split {L : List Jvm.Cond} {P : Jvm.Cond → Bool} (h1 : L.all (fun c => isCode c || P c) = true) (h2 : ∀ c ∈ L.filter isCode, P c = true) : L.all P = true := by
  refine List.all_eq_true.mpr fun c hc => ?_
  have h := List.all_eq_true.mp h1 c hc
  rcases Bool.eq_false_or_eq_true (isCode c) with hi | hi
  · exact h2 c (List.mem_filter.mpr ⟨hc, hi⟩)
  · simpa [hi] using h
set_option maxRecDepth 65536 in
theorem w_c0 : (Jvm.Cond.code x code maxLocals ret).before args0 about1 = true := code_word (m := ⟨1, 1⟩) (meth := k1m1) (c := k1c1) (by decide +kernel) rfl rfl rfl (by decide +kernel)
set_option maxRecDepth 65536 in
theorem w_c1 : (Jvm.Cond.code ({ cls := "com/example/lid12/lid12/ObjectId", name := "<init>", desc := "(IJ)V" } : Jvm.MethodName) prog_2_method_1_code (4 : Nat) (Option.none : Option Jvm.ClassFile.FieldType)).before args0 about1 = true := code_word (m := ⟨4, 0⟩) (meth := k4m0) (c := k4c0) (by decide +kernel) rfl rfl rfl (by decide +kernel)
set_option maxRecDepth 65536 in
theorem w_c2 : (Jvm.Cond.code ({ cls := "java/lang/Object", name := "<init>", desc := "()V" } : Jvm.MethodName) object_method_1_code (1 : Nat) (Option.none : Option Jvm.ClassFile.FieldType)).before args0 about1 = true := code_word (m := ⟨0, 0⟩) (meth := k0m0) (c := k0c0) (by decide +kernel) rfl rfl rfl (by decide +kernel)
set_option maxRecDepth 65536 in
theorem w_c3 : (Jvm.Cond.code ({ cls := "com/example/lid12/lid12/ObjectId", name := "equals", desc := "(Ljava/lang/Object;)Z" } : Jvm.MethodName) prog_2_method_18_code (3 : Nat) (Option.some Jvm.ClassFile.FieldType.boolean)).before args0 about1 = true := code_word (m := ⟨4, 1⟩) (meth := k4m1) (c := k4c1) (by decide +kernel) rfl rfl rfl (by decide +kernel)
set_option maxRecDepth 65536 in
theorem w_c4 : (Jvm.Cond.code ({ cls := "java/lang/Integer", name := "valueOf", desc := "(I)Ljava/lang/Integer;" } : Jvm.MethodName) jdk_33_method_22_code (1 : Nat) (Option.some (Jvm.ClassFile.FieldType.object "java/lang/Integer"))).before args0 about1 = true := code_word (m := ⟨8, 0⟩) (meth := k8m0) (c := k8c0) (by decide +kernel) rfl rfl rfl (by decide +kernel)
set_option maxRecDepth 65536 in
theorem w_c5 : (Jvm.Cond.code ({ cls := "java/lang/Integer", name := "<init>", desc := "(I)V" } : Jvm.MethodName) jdk_33_method_23_code (2 : Nat) (Option.none : Option Jvm.ClassFile.FieldType)).before args0 about1 = true := code_word (m := ⟨8, 1⟩) (meth := k8m1) (c := k8c1) (by decide +kernel) rfl rfl rfl (by decide +kernel)
set_option maxRecDepth 65536 in
theorem w_c6 : (Jvm.Cond.code ({ cls := "java/lang/Number", name := "<init>", desc := "()V" } : Jvm.MethodName) jdk_18_method_1_code (1 : Nat) (Option.none : Option Jvm.ClassFile.FieldType)).before args0 about1 = true := code_word (m := ⟨5, 0⟩) (meth := k5m0) (c := k5c0) (by decide +kernel) rfl rfl rfl (by decide +kernel)
def codes1 : List Jvm.Cond := [Jvm.Cond.code x code maxLocals ret, Jvm.Cond.code ({ cls := "com/example/lid12/lid12/ObjectId", name := "<init>", desc := "(IJ)V" } : Jvm.MethodName) prog_2_method_1_code (4 : Nat) (Option.none : Option Jvm.ClassFile.FieldType), Jvm.Cond.code ({ cls := "java/lang/Object", name := "<init>", desc := "()V" } : Jvm.MethodName) object_method_1_code (1 : Nat) (Option.none : Option Jvm.ClassFile.FieldType), Jvm.Cond.code ({ cls := "com/example/lid12/lid12/ObjectId", name := "equals", desc := "(Ljava/lang/Object;)Z" } : Jvm.MethodName) prog_2_method_18_code (3 : Nat) (Option.some Jvm.ClassFile.FieldType.boolean), Jvm.Cond.code ({ cls := "java/lang/Integer", name := "valueOf", desc := "(I)Ljava/lang/Integer;" } : Jvm.MethodName) jdk_33_method_22_code (1 : Nat) (Option.some (Jvm.ClassFile.FieldType.object "java/lang/Integer")), Jvm.Cond.code ({ cls := "java/lang/Integer", name := "<init>", desc := "(I)V" } : Jvm.MethodName) jdk_33_method_23_code (2 : Nat) (Option.none : Option Jvm.ClassFile.FieldType), Jvm.Cond.code ({ cls := "java/lang/Number", name := "<init>", desc := "()V" } : Jvm.MethodName) jdk_18_method_1_code (1 : Nat) (Option.none : Option Jvm.ClassFile.FieldType)]
set_option maxRecDepth 65536 in
theorem codes_eq : words1.filter isCode = codes1 := rfl
theorem w_codes : ∀ c ∈ words1.filter isCode, c.before args0 about1 = true := by
  rw [codes_eq]
  intro c hc
  simp only [codes1, List.mem_cons, List.not_mem_nil, or_false] at hc
  rcases hc with rfl | rfl | rfl | rfl | rfl | rfl | rfl
  · exact w_c0
  · exact w_c1
  · exact w_c2
  · exact w_c3
  · exact w_c4
  · exact w_c5
  · exact w_c6
set_option maxRecDepth 65536 in
theorem w_t1 : (words1.take 24).all (fun c => isCode c || c.before args0 about1) = true := by decide +kernel
set_option maxRecDepth 65536 in
theorem w_t2 : (words1.drop 24).all (fun c => isCode c || c.before args0 about1) = true := by decide +kernel
theorem w_tables : (allAtoms (Jvm.Cond.code x code maxLocals ret :: tables_1)).before args0 about1 = true := by
  rw [allAtoms_all]
  show words1.all (fun c => c.before args0 about1) = true
  refine all_split ?_ w_codes
  rw [← List.take_append_drop 24 words1, List.all_append, w_t1, w_t2]
  rfl
set_option maxRecDepth 65536 in
theorem w_rest : rest_1_c.before args0 about1 = true := by decide +kernel
set_option maxRecDepth 65536 in
theorem w_case : (Jvm.Cond.and given_1 narrow_1).before args0 about1 = true := by decide +kernel
theorem w_applies : (headSpec (Jvm.Cond.code x code maxLocals ret :: tables_1) room_1).applies x e0.platform about1 = true :=
  (Spec.applies_iff w_frames).mpr ⟨w_running, w_runnable, w_alone, w_named, w_hears, w_ripe, w_room, w_tables⟩
theorem atStart : AtStart classFile x code maxLocals ret World_1 tables_1 room_1 Calls_1 rest_1 Pre_1 launch0 p0 e0 about1 theMethod args0 below0 :=
  ⟨lists_1, trivial, launch0.admits_env _ _ _, launch0.least_env, fairChoices_fair.cas, fairChoices_fair.clock, w_frames, w_args, w_heap, w_applies, trivial, w_rest, w_case⟩
end start1
theorem witness_1 : WitnessClaimed_1 := ⟨start1.p0, start1.e0, start1.about1, start1.theMethod, start1.args0, start1.below0, start1.atStart⟩
end Jvm.Pilot.@@N@@
